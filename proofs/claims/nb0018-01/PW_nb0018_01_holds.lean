import PyProof.Rows.All
import Wide.All
import OpenK.AllK
import Wide.FinOn
import PySem.Challenge.RW_nb0018_01
open PySem PySem.W PyProof.Rows
set_option Elab.async false
set_option maxRecDepth 100000
set_option maxHeartbeats 8000000
namespace Mine
open_top hd for PySem.Challenge.rw_nb0018_01
end Mine
open PySem.Spec
namespace Mine
/-- a call of the def at f, from any frame: it returns r, having made tl, with Ret r tl -/
abbrev Ok (w : World) (mean : ExcName → Option Value) (mg mb : Str → Option Value) (f : Addr) (k : Nat) (vs : List Value) (news : List (Addr × Obj)) (Ret : Value → List (Addr × Obj) → Prop) : Prop :=
  ∀ (dp un : Nat) (gd : Option (List Code)) (cn : Str) (cs : Scope) (a : Addr) (ccd : Value) (cl : List (Str × Addr)) (outer : List Env) (A₀ : Around) (base h₀ : Heap) (L : Addr) (m : Str → Option Value) (s : Shared) (Q E : Value → Shared → Prop),
    Below A₀ base outer h₀ → Fr h₀ L s.heap m → (hd.heap_39 w.params).In h₀ → News h₀ L s.heap news → Top hd.view_39 (looseW hd.view_39 []) mean mg mb h₀ → cs.kind = .function → dp + k < recursionLimit → un + 8 * k < cLine →
    (∀ r tl h' tk', Fr h₀ L h' m → News h₀ L h' (tl ++ news) → Ret r tl → Q r { s with heap := h', toks := tk' }) →
    wpAny (model Challenge.rw_nb0018_01.row.prog w) (ktrTop dp un gd cn cs L a ccd cl outer) (call (.ref f) vs) Q E s

section
variable {prog : Program} {w : World} {A : Around} {E : Value → Shared → Prop} {s : Shared} {env : Env} {h₀ : Heap} {x : Str} {body : List Stmt} {Q : Flow → Shared → Prop} {σ : Type}

def FEnd (h₀ : Heap) (L : Addr) (x : Str) (stored : List Str) (m₀ : Str → Option Value) (Led : σ → List (Addr × Obj)) (ps : σ → List (Str × Value)) (P : σ → Prop) (ip : Addr × Obj) (s₁ s₂ : Shared) : Prop :=
  ∃ c h' tk m' news', s₂ = { s₁ with heap := h', toks := tk } ∧ Fr h₀ L h' m' ∧ News h₀ L h' news' ∧ ip ∈ news' ∧ (∀ p ∈ Led c, p ∈ news') ∧ (∀ p ∈ ps c, m' p.1 = some p.2) ∧ (∀ z, z ≠ x → (∀ p ∈ ps c, z ≠ p.1) → stored.contains z = false → m' z = m₀ z) ∧ P c
def FPost (h₀ : Heap) (L : Addr) (x : Str) (stored : List Str) (m₀ : Str → Option Value) (Led : σ → List (Addr × Obj)) (ps : σ → List (Str × Value)) (P : σ → Prop) (ip : Addr × Obj) (s₁ : Shared) (Q : Flow → Shared → Prop) (f : Flow) (s₂ : Shared) : Prop :=
  match f with
  | .ret v => Q (.ret v) s₂
  | .brk => Q .next s₂
  | _ => FEnd h₀ L x stored m₀ Led ps P ip s₁ s₂
theorem FEnd.intro {L : Addr} {stored : List Str} {m₀ m' : Str → Option Value} {Led : σ → List (Addr × Obj)} {ps : σ → List (Str × Value)} {P : σ → Prop} {ip : Addr × Obj} {s₁ : Shared} {h' : Heap} {tk : Nat} {news' : List (Addr × Obj)}
    (c : σ) (F : Fr h₀ L h' m') (N : News h₀ L h' news') (hi : ip ∈ news') (hn : ∀ p ∈ Led c, p ∈ news') (hk : ∀ p ∈ ps c, m' p.1 = some p.2)
    (hr : ∀ z, z ≠ x → (∀ p ∈ ps c, z ≠ p.1) → stored.contains z = false → m' z = m₀ z) (hp : P c) : FEnd h₀ L x stored m₀ Led ps P ip s₁ { s₁ with heap := h', toks := tk } :=
  ⟨c, h', tk, m', news', rfl, F, N, hi, hn, hk, hr, hp⟩

/-- what holds between the turns -/
def FAt (x : Str) (stored : List Str) (m₀ : Str → Option Value) (Led : σ → List (Addr × Obj)) (ps : σ → List (Str × Value)) (P : σ → Prop) (m : Str → Option Value) (news : List (Addr × Obj)) : Prop :=
  ∃ c, news = Led c ∧ (∀ p ∈ ps c, m p.1 = some p.2) ∧ (∀ z, z ≠ x → (∀ p ∈ ps c, z ≠ p.1) → stored.contains z = false → m z = m₀ z) ∧ P c

theorem post_unr {L I : Addr} {it : Obj} {stored : List Str} {m₀ : Str → Option Value} {Led : σ → List (Addr × Obj)} {ps : σ → List (Str × Value)} {P : σ → Prop} {s₁ : Shared} {rest : (Str → Option Value) → List (Addr × Obj) → Prop}
    (off : ∀ c, ∀ p ∈ Led c, p.1 ≠ I) (hrest : ∀ m news, FAt x stored m₀ Led ps P m news → rest m news) {f : Flow} {s₂ : Shared} (h : FPost h₀ L x stored m₀ Led ps P (I, it) s₁ Q f s₂) : UnrPost h₀ L s₁ I it rest Q f s₂ := by
  have fin : FEnd h₀ L x stored m₀ Led ps P (I, it) s₁ s₂ → UnrEnd h₀ L s₁ I it rest s₂ := by
    rintro ⟨c, h', tk, m', news', rfl, F, N, hi, hn, hk, hr, hp⟩
    refine ⟨h', tk, m', Led c, rfl, F, fun p hp => ?_, off c, hrest _ _ ⟨c, rfl, hk, hr, hp⟩⟩
    rcases List.mem_cons.mp hp with rfl | hp
    · exact N _ hi
    · exact N _ (hn p hp)
  cases f with
  | ret v => exact h
  | brk => exact h
  | next => exact fin h
  | cont => exact fin h

theorem for_range {r : Addr} {a₀ b₀ : Int} {t₀ u₀ v₀ : Tok} {n : Nat} {m₀ : Str → Option Value} {news : List (Addr × Obj)} (Led : σ → List (Addr × Obj)) (ps : σ → List (Str × Value)) (stored : List Str) (P : Nat → σ → Prop) (c₀ : σ)
    (hh : A.handled = none) (hr : IsRange s.heap r a₀ b₀ 1 t₀ u₀ v₀) (hsmall : Builtin.Range.small a₀ b₀ 1 = true) (hn : Builtin.Range.rangeSize a₀ b₀ 1 = (n : Int)) (F : Fr h₀ env.locals s.heap m₀) (N : News h₀ env.locals s.heap news)
    (hl : ∀ p ∈ Led c₀, p ∈ news) (hadr : ∀ c, ∀ p ∈ Led c, ∃ q ∈ Led c₀, q.1 = p.1) (hk : ∀ p ∈ ps c₀, m₀ p.1 = some p.2) (hp : P 0 c₀)
    (turn : ∀ (i : Nat) (c : σ) (u : Str → Option Value) (t : Tok) (I : Addr) (it : Obj) (h : Heap) (tk : Nat), i < n → P i c → (∀ p ∈ Led c, p.1 < I) → it.cls = .type "range_iterator" →
      Fr h₀ env.locals h (fun y => if y = x then some (.int (a₀ + (i : Int)) t) else kstB (fun z => if stored.contains z then u z else m₀ z) (ps c) y) → News h₀ env.locals h ((I, it) :: Led c) →
      wpAny (model prog w) A (execs body env) (FPost h₀ env.locals x stored m₀ Led ps (P (i + 1)) (I, it) { s with heap := h, toks := tk } Q) E { s with heap := h, toks := tk })
    (done : ∀ (c : σ) (u : Str → Option Value) (h : Heap) (tk : Nat), P n c → Fr h₀ env.locals h (fun y => if y = x then u y else kstB (fun z => if stored.contains z then u z else m₀ z) (ps c) y) → News h₀ env.locals h (Led c) → Q .next { s with heap := h, toks := tk }) :
    wpAny (model prog w) A (pyIter (.ref r)) (fun it s₂ => LoopAtV prog w A h₀ env x body Q E it s₂) E s := by
  refine iter_rangeUnr hh hr hsmall hn F (fun p hp => N p (hl p hp)) fun I hI => ?_
  have off : ∀ c, ∀ p ∈ Led c, p.1 < I := fun c p hp => by
    obtain ⟨q, hq, e⟩ := hadr c p hp
    exact e ▸ hI q hq
  have all : ∀ k i m nw, i + k = n → FAt x stored m₀ Led ps (P i) m nw → RangeRest prog w A E h₀ env x body Q s I a₀ n k i m nw := by
    intro k
    induction k with
    | zero =>
      rintro i m nw hi ⟨c, rfl, h1, h2, hP⟩
      refine RangeRest.zero fun h tk F' N' => ?_
      obtain rfl : i = n := by omega
      exact done c m h tk hP (kst_frOut h1 h2 F') N'
    | succ k ih =>
      rintro i m nw hi ⟨c, rfl, h1, h2, hP⟩
      refine RangeRest.succ fun t h tk F' N' => ?_
      refine wpAny_mono (turn i c m t I _ h tk (by omega) hP (off c) rfl (kst_fr h1 h2 F') N') (fun f s₂ p => ?_) fun _ _ e => e
      exact post_unr (fun c p hp => Nat.ne_of_lt (off c p hp)) (fun m nw q => ih (i + 1) m nw (by omega) q) p
  exact all n 0 m₀ _ (by omega) ⟨c₀, rfl, hk, fun _ _ _ _ => rfl, hp⟩

theorem for_list {ax : Addr} {lo : Obj} {vs : List Value} {nn : Nat} {m₀ : Str → Option Value} {news : List (Addr × Obj)} (Led : σ → List (Addr × Obj)) (ps : σ → List (Str × Value)) (stored : List Str) (P : Nat → σ → Prop) (c₀ : σ)
    (hh : A.handled = none) (F : Fr h₀ env.locals s.heap m₀) (N : News h₀ env.locals s.heap news) (hm : ∀ c, (ax, lo) ∈ Led c) (hc : lo.cls = .type "list") (hd : lo.data = .seq vs.toArray nn)
    (hl : ∀ p ∈ Led c₀, p ∈ news) (hadr : ∀ c, ∀ p ∈ Led c, ∃ q ∈ Led c₀, q.1 = p.1) (hk : ∀ p ∈ ps c₀, m₀ p.1 = some p.2) (hp : P 0 c₀)
    (turn : ∀ (i : Nat) (v : Value) (c : σ) (u : Str → Option Value) (I : Addr) (it : Obj) (h : Heap) (tk : Nat), vs[i]? = some v → P i c → (∀ p ∈ Led c, p.1 < I) → it.cls = .type "list_iterator" →
      Fr h₀ env.locals h (fun y => if y = x then some v else kstB (fun z => if stored.contains z then u z else m₀ z) (ps c) y) → News h₀ env.locals h ((I, it) :: Led c) →
      wpAny (model prog w) A (execs body env) (FPost h₀ env.locals x stored m₀ Led ps (P (i + 1)) (I, it) { s with heap := h, toks := tk } Q) E { s with heap := h, toks := tk })
    (done : ∀ (c : σ) (u : Str → Option Value) (h : Heap) (tk : Nat), P vs.length c → Fr h₀ env.locals h (fun y => if y = x then u y else kstB (fun z => if stored.contains z then u z else m₀ z) (ps c) y) → News h₀ env.locals h (Led c) → Q .next { s with heap := h, toks := tk }) :
    wpAny (model prog w) A (pyIter (.ref ax)) (fun it s₂ => LoopAtV prog w A h₀ env x body Q E it s₂) E s := by
  refine iter_listUnr hh F (fun p hp => N p (hl p hp)) (hm c₀) hc hd fun I hI => ?_
  have off : ∀ c, ∀ p ∈ Led c, p.1 < I := fun c p hp => by
    obtain ⟨q, hq, e⟩ := hadr c p hp
    exact e ▸ hI q hq
  have all : ∀ (r : List Value) i m nw, vs.drop i = r → i ≤ vs.length → FAt x stored m₀ Led ps (P i) m nw → ListRest prog w A E h₀ env x body Q s I (ax, lo) r m nw := by
    intro r
    induction r with
    | nil =>
      rintro i m nw hi hle ⟨c, rfl, h1, h2, hP⟩
      refine ListRest.zero fun h tk F' N' => ?_
      obtain rfl : i = vs.length := Nat.le_antisymm hle (List.drop_eq_nil_iff.mp hi)
      exact done c m h tk hP (kst_frOut h1 h2 F') N'
    | cons v r ih =>
      rintro i m nw hi hle ⟨c, rfl, h1, h2, hP⟩
      refine ListRest.succ fun it h tk hic F' N' => ?_
      have hv : vs[i]? = some v := by
        have := congrArg List.head? hi
        simpa [List.head?_drop] using this
      have hlt : i < vs.length := by
        rcases Nat.lt_or_ge i vs.length with q | q
        · exact q
        · rw [List.drop_eq_nil_of_le q] at hi; cases hi
      have hi' : vs.drop (i + 1) = r := by rw [← List.drop_drop, hi]; rfl
      refine wpAny_mono (turn i v c m I it h tk hv hP (off c) hic (kst_fr h1 h2 F') N') (fun f s₂ p => ?_) fun _ _ e => e
      refine post_unr (fun c p hp => Nat.ne_of_lt (off c p hp)) (fun m nw q => ⟨?_, ih (i + 1) m nw hi' hlt q⟩) p
      obtain ⟨c', rfl, _⟩ := q
      exact hm c'
  exact all vs 0 m₀ _ rfl (Nat.zero_le _) ⟨c₀, rfl, hk, fun _ _ _ _ => rfl, hp⟩

/-- a for over a ledger's list that appends to another list of the ledger -/
theorem for_append {ax d : Addr} {lo : Obj} {vs ws₀ : List Value} {nn n₀ : Nat} {m₀ : Str → Option Value} {news : List (Addr × Obj)} (P : Nat → List Value → Prop)
    (hh : A.handled = none) (F : Fr h₀ env.locals s.heap m₀) (N : News h₀ env.locals s.heap ((d, listOf ws₀.toArray n₀) :: news)) (hm : (ax, lo) ∈ news) (hc : lo.cls = .type "list") (hd : lo.data = .seq vs.toArray nn) (hp : P 0 ws₀)
    (turn : ∀ (i : Nat) (v : Value) (ws : List Value) (n : Nat) (u : Str → Option Value) (I : Addr) (it : Obj) (h : Heap) (tk : Nat), vs[i]? = some v → P i ws → d < I → (∀ p ∈ news, p.1 < I) → it.cls = .type "list_iterator" →
      Fr h₀ env.locals h (fun y => if y = x then some v else m₀ y) → News h₀ env.locals h ((I, it) :: (d, listOf ws.toArray n) :: news) →
      wpAny (model prog w) A (execs body env) (FPost h₀ env.locals x [] m₀ (fun c : List Value × Nat => (d, listOf c.1.toArray c.2) :: news) (fun _ => []) (fun c => P (i + 1) c.1) (I, it) { s with heap := h, toks := tk } Q) E { s with heap := h, toks := tk })
    (done : ∀ (ws : List Value) (n : Nat) (u : Str → Option Value) (h : Heap) (tk : Nat), P vs.length ws → Fr h₀ env.locals h (fun y => if y = x then u y else m₀ y) → News h₀ env.locals h ((d, listOf ws.toArray n) :: news) → Q .next { s with heap := h, toks := tk }) :
    wpAny (model prog w) A (pyIter (.ref ax)) (fun it s₂ => LoopAtV prog w A h₀ env x body Q E it s₂) E s := by
  refine for_list (σ := List Value × Nat) (fun c => (d, listOf c.1.toArray c.2) :: news) (fun _ => []) [] (fun i c => P i c.1) (ws₀, n₀) hh F N (fun c => List.mem_cons_of_mem _ hm) hc hd (fun p hp => hp) ?_ (fun p hp => nomatch hp) hp ?_ ?_
  · intro c p hp
    rcases List.mem_cons.mp hp with rfl | hp
    · exact ⟨_, List.mem_cons_self, rfl⟩
    · exact ⟨p, List.mem_cons_of_mem _ hp, rfl⟩
  · intro i v c u I it h tk hv hP hlt hic F' N'
    refine turn i v c.1 c.2 u I it h tk hv hP (hlt _ List.mem_cons_self) (fun p hp => hlt p (List.mem_cons_of_mem _ hp)) hic ?_ N'
    simpa [kstB] using F'
  · intro c u h tk hP F' N'
    refine done c.1 c.2 u h tk hP ?_ N'
    simpa [kstB] using F'
end

section
variable {prog : Program} {w : World} {A : Around} {E : Value → Shared → Prop} {s : Shared} {h₀ : Heap} {L : Addr} {news : List (Addr × Obj)} {value slice : PySem.Expr} {a : Addr} {ws : List Value} {ns : List Int} {n : Nat} {u : Tok} {Q : Value → Shared → Prop}
theorem ints_last (hi : IntsAre ws ns) (hne : 0 < ns.length) : ∃ t, ws[(-1 + (ws.length : Int)).toNat]? = some (.int (ns.getLastD 0) t) := by
  have hl := hi.length
  obtain ⟨t, ht⟩ := hi.get (ns.length - 1) (ns.getLastD 0) (by
    cases ns with
    | nil => simp at hne
    | cons b r => simp [List.getLastD_eq_getLast?, List.getLast?_eq_getElem?])
  refine ⟨t, ?_⟩
  rw [show (-1 + (ws.length : Int)).toNat = ns.length - 1 by omega]
  exact ht
theorem it_back (N : News h₀ L s.heap news) (hm : (a, listOf ws.toArray n) ∈ news) (hi : IntsAre ws ns) (hne : 0 < ns.length) (h : ∀ t, Q (.int (ns.getLastD 0) t) s)
    (hs : subscripted slice false (.ref a) (.int (-1) u) = operate [.ref a, .int (-1) u] (getItem (.ref a) (.int (-1) u)) := by with_unfolding_all rfl) (hg : ∀ r, letTemporaryGo value (.ref a) r = pure () := by intro _; with_unfolding_all rfl) :
    wpAny (model prog w) A (subscriptTail value slice (.ref a) (.int (-1) u)) Q E s := by
  obtain ⟨t, ht⟩ := ints_last hi hne
  have hl := hi.length
  exact kim_back (lo := listOf ws.toArray n) N hm rfl rfl (by decide) (by omega) (by decide) ht (h t) hs hg
theorem it_at {k : Int} (N : News h₀ L s.heap news) (hm : (a, listOf ws.toArray n) ∈ news) (hi : IntsAre ws ns) (h0 : 0 ≤ k) (hlt : k < (ns.length : Int)) (hsm : ns.length < 1000) (h : ∀ t, Q (.int (ns.getD k.toNat 0) t) s)
    (hs : subscripted slice false (.ref a) (.int k u) = operate [.ref a, .int k u] (getItem (.ref a) (.int k u)) := by with_unfolding_all rfl) (hg : ∀ r, letTemporaryGo value (.ref a) r = pure () := by intro _; with_unfolding_all rfl) :
    wpAny (model prog w) A (subscriptTail value slice (.ref a) (.int k u)) Q E s := by
  obtain ⟨t, ht⟩ := hi.get k.toNat (ns.getD k.toNat 0) (by
    rw [List.getD_eq_getElem?_getD, List.getElem?_eq_getElem (show k.toNat < ns.length by omega)]; rfl)
  have hbig : (1000 : Int) < 2 ^ 63 := by decide
  exact kim_list (lo := listOf ws.toArray n) N hm rfl rfl h0 (by omega) ht (h t) hs hg
end
theorem all_ne {news : List (Addr × Obj)} {d : Addr} (h : ∀ p ∈ news, p.1 < d) : ∀ p ∈ news, p.1 ≠ d := fun p hp => Nat.ne_of_lt (h p hp)
theorem arr_fits {ws : List Value} (h : ws.length ≤ 1000) : ws.toArray.size ≤ sizeLine := by
  rw [List.size_toArray, sizeLine_eq]; omega
theorem fr_to {h₀ h : Heap} {L : Addr} {m m' : Str → Option Value} (F : Fr h₀ L h m) (e : m = m') : Fr h₀ L h m' := e ▸ F
theorem rng_size (n : Nat) : Builtin.Range.rangeSize 0 (n : Int) 1 = (n : Int) := by
  unfold Builtin.Range.rangeSize
  simp only [show ((1 : Int) > 0) by decide, if_true, Int.ediv_one]
  split <;> omega
theorem fits_small {i : Int} (h0 : 0 ≤ i) (h1 : i ≤ 2000) : Builtin.Range.rangeFitsLong i = true := by
  unfold Builtin.Range.rangeFitsLong
  rw [Bool.and_eq_true]
  exact ⟨decide_eq_true (by omega), decide_eq_true (by omega)⟩
theorem rng_small {n : Nat} (h : n ≤ 1000) : Builtin.Range.small 0 (n : Int) 1 = true := by
  unfold Builtin.Range.small
  rw [rng_size, if_pos (by decide), fits_small (i := 0) (by omega) (by omega), fits_small (i := (n : Int)) (by omega) (by omega), fits_small (i := 1) (by omega) (by omega), fits_small (i := (n : Int) + (1 - 1)) (by omega) (by omega), Bool.or_true]
  rfl

section
variable {prog : Program} {w : World} {A : Around} {E : Value → Shared → Prop} {s : Shared} {env : Env} {h₀ : Heap} {x : Str} {body : List Stmt} {Q : Flow → Shared → Prop} {σ : Type}
/-- a for over range(n) that leaves the ledger as it is -/
theorem for_rangeC {r : Addr} {t₀ u₀ v₀ : Tok} {n : Nat} {m₀ : Str → Option Value} {news : List (Addr × Obj)} (ps : σ → List (Str × Value)) (stored : List Str) (P : Nat → σ → Prop) (c₀ : σ)
    (hh : A.handled = none) (hr : IsRange s.heap r 0 (n : Int) 1 t₀ u₀ v₀) (hsm : n ≤ 1000) (F : Fr h₀ env.locals s.heap m₀) (N : News h₀ env.locals s.heap news)
    (hk : ∀ p ∈ ps c₀, m₀ p.1 = some p.2) (hp : P 0 c₀)
    (turn : ∀ (i : Nat) (c : σ) (u : Str → Option Value) (t : Tok) (I : Addr) (it : Obj) (h : Heap) (tk : Nat), i < n → P i c → (∀ p ∈ news, p.1 < I) → it.cls = .type "range_iterator" →
      Fr h₀ env.locals h (fun y => if y = x then some (.int (i : Int) t) else kstB (fun z => if stored.contains z then u z else m₀ z) (ps c) y) → News h₀ env.locals h ((I, it) :: news) →
      wpAny (model prog w) A (execs body env) (FPost h₀ env.locals x stored m₀ (fun _ => news) ps (P (i + 1)) (I, it) { s with heap := h, toks := tk } Q) E { s with heap := h, toks := tk })
    (done : ∀ (c : σ) (u : Str → Option Value) (h : Heap) (tk : Nat), P n c → Fr h₀ env.locals h (fun y => if y = x then u y else kstB (fun z => if stored.contains z then u z else m₀ z) (ps c) y) → News h₀ env.locals h news → Q .next { s with heap := h, toks := tk }) :
    wpAny (model prog w) A (pyIter (.ref r)) (fun it s₂ => LoopAtV prog w A h₀ env x body Q E it s₂) E s := by
  refine for_range (fun _ => news) ps stored P c₀ hh hr (rng_small hsm) (rng_size n) F N (fun p hp => hp) (fun _ p hp => ⟨p, hp, rfl⟩) hk hp ?_ done
  intro i c u t I it h tk hi hP hl hic F' N'
  rw [Int.zero_add] at F'
  exact turn i c u t I it h tk hi hP hl hic F' N'
end
end Mine
namespace Mine
def wts : Int → List Int → List Int
  | w, [] => [w]
  | w, h :: hs => w :: wts (if h = 0 then w * 2 else w) hs
local macro_rules | `(tactic| walk_at "FPost") => `(tactic| (dsimp only [FPost]))
theorem wts_pos : ∀ (w : Int) (hs : List Int), 0 < (wts w hs).length
  | _, [] => Nat.one_pos
  | _, _ :: _ => Nat.succ_pos _
local macro_rules | `(tactic| walk_at "subscriptTail Name UnaryOp ref int") => `(tactic| (k_here; (with_unfolding_all refine' it_back ?k1 ?k2 ?k3 ?k4 ?_; (case k1 => k_asm); (case k2 => k_mem); (case k3 => l_ints); (case k4 => first | exact wts_pos _ _ | omega); k_whole); intro tBk))
local macro_rules | `(tactic| walk_at "call builtin:list.append") => `(tactic| (k_here; (with_reducible show wpAny _ _ (call (Value.builtin _) [Value.ref _, _]) _ _ _); k_dflt (refine' append_K ?k1 ?k2 (Upd.tail ?k3 (Upd.head ?k4)) ?_ ?z; (case k1 => k_asm); (case k2 => k_asm); (case k3 => exact Nat.ne_of_gt (by assumption)); (case k4 => exact all_ne (by assumption)); (case z => exact arr_fits (by assumption)); k_whole); intro h' F' N'))
theorem wts_len : ∀ (w : Int) (hs : List Int), (wts w hs).length = hs.length + 1
  | _, [] => rfl
  | w, _ :: hs => by rw [wts, List.length_cons, wts_len _ hs, List.length_cons]
theorem wts_snoc (h : Int) : ∀ (w : Int) (hs : List Int), wts w (hs ++ [h]) = wts w hs ++ [if h = 0 then (wts w hs).getLastD 0 * 2 else (wts w hs).getLastD 0]
  | w, [] => rfl
  | w, g :: hs => by
    show w :: wts _ (hs ++ [h]) = _
    rw [wts_snoc h _ hs]
    have := wts_pos (if g = 0 then w * 2 else w) hs
    show _ = (w :: wts _ hs) ++ [if h = 0 then (w :: wts _ hs).getLastD 0 * 2 else (w :: wts _ hs).getLastD 0]
    revert this
    generalize wts (if g = 0 then w * 2 else w) hs = l
    intro this
    cases l with
    | nil => cases this
    | cons a r => simp [List.getLastD_eq_getLast?]
theorem wts_step {hs : List Int} {i : Nat} {z v : Int} {t : Tok} {ws : List Value} (hP : IntsAre ws (wts 1 (hs.take i))) (hz : hs[i]? = some z) (hv : v = if z = 0 then (wts 1 (hs.take i)).getLastD 0 * 2 else (wts 1 (hs.take i)).getLastD 0) :
    IntsAre (ws ++ [.int v t]) (wts 1 (hs.take (i + 1))) := by
  have e : hs.take (i + 1) = hs.take i ++ [z] := by rw [List.take_add_one, hz]; rfl
  rw [e, wts_snoc, ← hv]
  exact hP.append (.cons _ _ .nil)
theorem weights_ok {w : World} {mean : ExcName → Option Value} {mg mb : Str → Option Value} {news : List (Addr × Obj)} (l : Addr) (vs : List Value) (hs : List Int) (nn : Nat) (hm : (l, listOf vs.toArray nn) ∈ news) (hi : IntsAre vs hs) (hlen : hs.length ≤ 5) :
    Ok w mean mg mb 60 1 [.ref l] news (fun r tl => ∃ d ws n, r = .ref d ∧ tl = [(d, listOf ws.toArray n)] ∧ IntsAre ws (wts 1 hs)) := by
  w_top off
  k_with_none
  unfold Ok
  k_fill
  intro dp un gd cn cs a ccd cl outer A₀ base h₀ L m s Q E B F X N T hk hdp hun hret
  refine wpAny_call ?_
  k_dflt ktr_enter
  rename Fr _ _ _ _ => F1
  replace F1 := fr_to F1 (m' := fun y => List.lookup y [(Str.ofString "hands", Value.ref l)]) rfl
  repeat' (first | (k_unfold; (try dsimp only)) | walk1 | (dsimp only; walk1) | fail "no step")
  rename Fr _ _ _ _ => F1
  rename News _ _ _ _ => N1
  rename (∀ p ∈ news, p.1 < _) => l1
  rename IntsAre _ _ => hi
  refine for_append (fun i ws => IntsAre ws (wts 1 (hs.take i))) rfl F1 N1 hm rfl rfl (.cons _ _ .nil) ?turn ?done
  case turn =>
    intro i v ws n u I it h tk hv hP hdI hlt hic F' N'
    obtain ⟨z, t, rfl, hz⟩ := hi.at i v hv
    clear hi F1 N1
    have hwl : ws.length ≤ 1000 := by
      have h1 := hP.length
      rw [wts_len, List.length_take] at h1
      omega
    repeat' (first | (k_unfold; (try dsimp only)) | walk1 | (dsimp only; walk1) | fail "no step")
    all_goals (
      rename News _ _ _ _ => N2
      rename Fr _ _ _ _ => F2
      simp only [List.push_toArray] at N2
      refine FEnd.intro (ws ++ [_], _) F2 N2 List.mem_cons_self (fun p hp => List.mem_cons_of_mem _ hp) (fun p hp => nomatch hp) (by intro z h1 _ _; simp [h1]) (wts_step hP hz ?_))
    · rename _ = (0 : Int) => e
      rw [if_pos e]
    · rename ¬ _ = (0 : Int) => e
      rw [if_neg e]
  case done =>
    intro ws n u h tk hP F' N'
    rw [hi.length, List.take_length] at hP
    clear hi F1 N1
    repeat' (first | (k_unfold; (try dsimp only)) | walk1 | (dsimp only; walk1) | fail "no step")
    exact hret _ [_] _ _ (by assumption) (by assumption) ⟨_, _, _, rfl, rfl, hP⟩
theorem wts_all_pos : ∀ (w : Int) (hs : List Int), 0 < w → ∀ x ∈ wts w hs, 0 < x
  | w, [], hw, x, hx => by rw [wts, List.mem_singleton] at hx; omega
  | w, h :: hs, hw, x, hx => by
    rw [wts] at hx
    rcases List.mem_cons.mp hx with rfl | hx
    · exact hw
    · exact wts_all_pos _ hs (by split <;> omega) x hx
theorem wts_last_pos (hs : List Int) : 0 < (wts 1 hs).getLastD 0 := by
  have h := wts_pos 1 hs
  refine wts_all_pos 1 hs (by omega) _ ?_
  revert h
  generalize wts 1 hs = l
  intro h
  cases l with
  | nil => cases h
  | cons a r => rw [List.getLastD_eq_getLast?, List.getLast?_eq_some_getLast (by simp)]; exact List.getLast_mem _
theorem wts_at_pos (hs : List Int) {i : Nat} (hi : i ≤ hs.length) : 0 < (wts 1 hs).getD i 0 := by
  have h := wts_len 1 hs
  refine wts_all_pos 1 hs (by omega) _ ?_
  rw [List.getD_eq_getElem?_getD, List.getElem?_eq_getElem (show i < (wts 1 hs).length by omega)]
  exact List.getElem_mem _
theorem wts_all_le : ∀ (n : Nat) (w : Int) (hs : List Int), hs.length ≤ n → 0 < w → ∀ x ∈ wts w hs, x ≤ w * 2 ^ n
  | n, w, [], _, hw, x, hx => by
    rw [wts, List.mem_singleton] at hx
    rw [hx]
    have h1 : (1 : Int) ≤ 2 ^ n := by have : (0 : Int) < 2 ^ n := Int.pow_pos (by decide); omega
    have := Int.mul_le_mul_of_nonneg_left h1 (Int.le_of_lt hw)
    omega
  | 0, w, h :: hs, hn, hw, x, hx => by simp at hn
  | n + 1, w, h :: hs, hn, hw, x, hx => by
    rw [wts] at hx
    have h1 : (1 : Int) ≤ 2 ^ n := by have : (0 : Int) < 2 ^ n := Int.pow_pos (by decide); omega
    have h2 := Int.mul_le_mul_of_nonneg_left h1 (Int.le_of_lt hw)
    have e : w * 2 ^ (n + 1) = w * 2 ^ n * 2 := by rw [Int.pow_succ, Int.mul_assoc]
    have hn' : hs.length ≤ n := by simpa using hn
    rcases List.mem_cons.mp hx with rfl | hx
    · omega
    · have h3 := wts_all_le n _ hs hn' (by split <;> omega) x hx
      split at h3
      · have e2 : w * 2 * 2 ^ n = w * 2 ^ n * 2 := by rw [Int.mul_assoc, Int.mul_comm 2, ← Int.mul_assoc]
        omega
      · omega
theorem getLastD_mem {l : List Int} (h : 0 < l.length) : l.getLastD 0 ∈ l := by
  cases l with
  | nil => cases h
  | cons a r => rw [List.getLastD_eq_getLast?, List.getLast?_eq_some_getLast (by simp)]; exact List.getLast_mem _
theorem getD_mem {l : List Int} {i : Nat} (h : i < l.length) : l.getD i 0 ∈ l := by
  rw [List.getD_eq_getElem?_getD, List.getElem?_eq_getElem h]
  exact List.getElem_mem _
theorem wts_last_le {hs : List Int} (h : hs.length ≤ 5) : (wts 1 hs).getLastD 0 ≤ 32 := by
  have := wts_all_le 5 1 hs h (by decide) _ (getLastD_mem (wts_pos 1 hs))
  simpa using this
theorem wts_at_le {hs : List Int} {i : Nat} (h : hs.length ≤ 5) (hi : i ≤ hs.length) : (wts 1 hs).getD i 0 ≤ 32 := by
  have := wts_all_le 5 1 hs h (by decide) _ (getD_mem (l := wts 1 hs) (i := i) (by rw [wts_len]; omega))
  simpa using this
end Mine
namespace Mine
theorem weights_use {w : World} {mean : ExcName → Option Value} {mg mb : Str → Option Value} {news : List (Addr × Obj)} {l : Addr} {vs : List Value} {hs : List Int} {nn : Nat}
    {dp un : Nat} {gd : Option (List Code)} {cn : Str} {cs : Scope} {a : Addr} {ccd : Value} {cl : List (Str × Addr)} {outer : List Env} {A₀ : Around} {base h₀ : Heap} {L : Addr} {m : Str → Option Value} {s : Shared} {Q E : Value → Shared → Prop}
    (B : Below A₀ base outer h₀) (F : Fr h₀ L s.heap m) (X : (hd.heap_39 w.params).In h₀) (N : News h₀ L s.heap news) (T : Top hd.view_39 (looseW hd.view_39 []) mean mg mb h₀) (hk : cs.kind = .function) (hdp : dp + 1 < recursionLimit) (hun : un + 8 * 1 < cLine)
    (hm : (l, listOf vs.toArray nn) ∈ news) (hi : IntsAre vs hs) (hlen : hs.length ≤ 5)
    (ret : ∀ d ws n h' tk', Fr h₀ L h' m → News h₀ L h' ((d, listOf ws.toArray n) :: news) → IntsAre ws (wts 1 hs) → Q (.ref d) { s with heap := h', toks := tk' }) :
    wpAny (model Challenge.rw_nb0018_01.row.prog w) (ktrTop dp un gd cn cs L a ccd cl outer) (call (.ref 60) [.ref l]) Q E s :=
  weights_ok l vs hs nn hm hi hlen dp un gd cn cs a ccd cl outer A₀ base h₀ L m s Q E B F X N T hk hdp hun fun r tl h' tk' F' N' hr => by
    obtain ⟨d, ws, n, rfl, rfl, hi'⟩ := hr
    exact ret d ws n h' tk' F' N' hi'

def aleft : Int → List Int → List Int → Int
  | l, h :: hs, w :: ws => aleft (if h = 1 then l - 2 * w else l) hs ws
  | l, _, _ => l
def aloneZ (count : Int) (hs : List Int) : Int :=
  (if (aleft (count + 1) hs (wts 1 hs)).fdiv ((wts 1 hs).getLastD 0) > 1 then (aleft (count + 1) hs (wts 1 hs)).fdiv ((wts 1 hs).getLastD 0) else 1) - 1
theorem aleft_nil (l : Int) (ws : List Int) : aleft l [] ws = l := by cases ws <;> rfl

local macro_rules | `(tactic| k_mem) => `(tactic| (refine List.mem_cons_of_mem _ ?_; k_mem))
local macro_rules | `(tactic| k_mem) => `(tactic| exact List.mem_cons_self)
local macro_rules | `(tactic| k_mem) => `(tactic| (with_reducible assumption))
local macro_rules | `(tactic| walk_at "FPost") => `(tactic| (dsimp only [FPost]))
local macro_rules | `(tactic| walk_at "subscriptTail Name UnaryOp ref int") => `(tactic| (k_here; (with_unfolding_all refine' it_back ?k1 ?k2 ?k3 ?k4 ?_; (case k1 => k_asm); (case k2 => k_mem); (case k3 => l_ints); (case k4 => first | exact wts_pos _ _ | omega); k_whole); intro tBk))
local macro_rules | `(tactic| walk_at "call ref") => `(tactic| (k_here; k_dflt (refine' weights_use ?k1 ?k2 ?k3 ?k4 ?k5 ?kK ?kd ?ku ?h1 ?h2 ?h3 ?_; (case k1 => k_asm); (case k2 => k_asm); (case k3 => k_asm); (case k4 => k_asm); (case k5 => k_asm); (case kK => first | exact rfl | assumption); (case kd => ktr_room); (case ku => ktr_units); (case h1 => k_mem); (case h2 => l_ints); (case h3 => assumption); k_whole); intro d9 ws9 n9 h9 tk9 F9 N9 hi9))

local macro_rules | `(tactic| walk_at "call builtin:len") => `(tactic| (k_here; (with_reducible show wpAny _ _ (call (Value.builtin "len") [Value.ref _]) _ _ _); k_dflt (refine' kst_len ?k1 ?k2 ?k3 ?k4 ?_; (case k1 => k_asm); (case k2 => k_mem); (case k3 => exact IntsAre.length (by assumption)); (case k4 => omega); k_whole)))
local macro_rules | `(tactic| walk_at "subscriptTail Name Name ref int") => `(tactic| (k_here; (with_unfolding_all refine' it_at ?k1 ?k2 ?k3 ?k4 ?k5 ?k6 ?_; (case k1 => k_asm); (case k2 => k_mem); (case k3 => l_ints); (case k4 => omega); (case k5 => (try simp only [wts_len]; omega)); (case k6 => (try simp only [wts_len]; omega)); k_whole); intro tBk))
theorem aleft_step {left left' R : Int} {hs ws : List Int} {i : Nat} (hP : aleft left (hs.drop i) (ws.drop i) = R) (hi : i < hs.length ∧ i < ws.length) (e : left' = if hs.getD i 0 = 1 then left - 2 * ws.getD i 0 else left) :
    aleft left' (hs.drop (i + 1)) (ws.drop (i + 1)) = R := by
  rw [List.drop_eq_getElem_cons hi.1, List.drop_eq_getElem_cons hi.2] at hP
  rw [e, List.getD_eq_getElem?_getD, List.getD_eq_getElem?_getD, List.getElem?_eq_getElem hi.1, List.getElem?_eq_getElem hi.2]
  exact hP
theorem alone_ok {w : World} {mean : ExcName → Option Value} {mg mb : Str → Option Value} {news : List (Addr × Obj)} (count : Int) (tc : Tok) (l : Addr) (vs : List Value) (hs : List Int) (nn : Nat) (hm : (l, listOf vs.toArray nn) ∈ news) (hi : IntsAre vs hs) (hlen : hs.length ≤ 5) :
    Ok w mean mg mb 67 2 [.int count tc, .ref l] news (fun r tl => ∃ t, r = .int (aloneZ count hs) t ∧ tl = []) := by
  w_top off
  k_with_none
  unfold Ok
  k_fill
  intro dp un gd cn cs a ccd cl outer A₀ base h₀ L m s Q E B F X N T hk hdp hun hret
  refine wpAny_call ?_
  k_dflt ktr_enter
  rename Fr _ _ _ _ => F1
  replace F1 := fr_to F1 (m' := fun y => List.lookup y [(Str.ofString "hands", Value.ref l), (Str.ofString "count", Value.int count tc)]) rfl
  repeat' ((fail_if_success (with_reducible show wpAny _ _ (pyIter _) _ _ _)); first | (k_unfold; (try dsimp only)) | walk1 | (dsimp only; walk1) | fail "no step")
  rename Fr _ _ _ _ => F1
  rename News _ _ _ _ => N1
  rename IntsAre _ (wts 1 hs) => hw
  rename IntsAre vs hs => hi
  rename IsRange _ _ _ _ _ _ _ _ => hr
  have hwl := wts_len 1 hs
  have hwp := wts_last_pos hs
  have hwq := wts_last_le hlen
  refine for_rangeC (σ := Int × Tok) (fun c => [(Str.ofString "left", .int c.1 c.2)]) [] (fun i c => aleft c.1 (hs.drop i) ((wts 1 hs).drop i) = aleft (count + 1) hs (wts 1 hs)) (count + 1, ?tk0) rfl hr (by omega) F1 N1 ?a1 ?a2 ?turn ?done
  case a1 =>
    intro p hp
    rw [List.mem_singleton.mp hp]
    rfl
  case a2 => rfl
  case turn =>
    rintro i ⟨left, tl⟩ u t I it h tk hin hP hlt hic F' N'
    dsimp only at hP
    simp only [kstB, List.contains_nil, Bool.false_eq_true, if_false] at F'
    repeat' ((fail_if_success (with_reducible show wpAny _ _ (pyIter _) _ _ _)); first | (k_unfold; (try dsimp only)) | walk1 | (dsimp only; walk1) | fail "no step")
    · rename News _ _ _ _ => N2
      rename Fr _ _ _ _ => F2
      rename _ = (1 : Int) => e
      refine FEnd.intro (?v9, ?t9) F2 N2 List.mem_cons_self (fun p hp => List.mem_cons_of_mem _ hp) ?b1 ?b2 (aleft_step hP (by omega) ?b3)
      case b1 => intro p hp; rw [List.mem_singleton.mp hp]; rfl
      case b2 => intro z h1 h2 h3; have h2 := h2 _ (List.mem_singleton.mpr rfl); simp_all [kstB]
      case b3 => rw [if_pos (by simpa using e)]; rfl
    · rename News _ _ _ _ => N2
      rename Fr _ _ _ _ => F2
      rename ¬ _ = (1 : Int) => e
      refine FEnd.intro (left, tl) F2 N2 List.mem_cons_self (fun p hp => List.mem_cons_of_mem _ hp) ?c1 ?c2 (aleft_step hP (by omega) ?c3)
      case c1 => intro p hp; rw [List.mem_singleton.mp hp]; rfl
      case c2 => intro z h1 h2 h3; have h2 := h2 _ (List.mem_singleton.mpr rfl); simp_all [kstB]
      case c3 => rw [if_neg (by simpa using e)]
  case done =>
    rintro ⟨left, tl⟩ u h tk hP F' N'
    dsimp only at hP
    simp only [kstB, List.contains_nil, Bool.false_eq_true, if_false] at F'
    rw [List.drop_length, aleft_nil] at hP
    clear F1 N1
    repeat' ((fail_if_success (with_reducible show wpAny _ _ (pyIter _) _ _ _)); first | (k_unfold; (try dsimp only)) | walk1 | (dsimp only; walk1) | fail "no step")
    rename News h₀ L _ _ => N2
    exact hret _ [] _ _ (by assumption) (fun p hp => N2 p (List.mem_cons_of_mem _ hp)) ⟨_, by rw [hP]; rfl, rfl⟩
end Mine
namespace Mine
def lostF : Int → Int → List Int → List Int → Int
  | i, r, h :: hs, w :: ws => if h = 0 ∧ (r ≤ 0 ∨ (r.fdiv w).fmod 2 = 0) then i else lostF (i + 1) (r - w) hs ws
  | i, _, _, _ => i
theorem lostF_nil (i r : Int) (ws : List Int) : lostF i r [] ws = i := by cases ws <;> rfl
theorem lostF_at {r R : Int} {hs ws : List Int} {i : Nat} (hP : lostF i r (hs.drop i) (ws.drop i) = R) (hi : i < hs.length ∧ i < ws.length) :
    (if hs.getD i 0 = 0 ∧ (r ≤ 0 ∨ (r.fdiv (ws.getD i 0)).fmod 2 = 0) then (i : Int) else lostF ((i + 1 : Nat) : Int) (r - ws.getD i 0) (hs.drop (i + 1)) (ws.drop (i + 1))) = R := by
  rw [List.drop_eq_getElem_cons hi.1, List.drop_eq_getElem_cons hi.2] at hP
  rw [List.getD_eq_getElem?_getD, List.getD_eq_getElem?_getD, List.getElem?_eq_getElem hi.1, List.getElem?_eq_getElem hi.2]
  exact hP
local macro_rules | `(tactic| k_mem) => `(tactic| (refine List.mem_cons_of_mem _ ?_; k_mem))
local macro_rules | `(tactic| k_mem) => `(tactic| exact List.mem_cons_self)
local macro_rules | `(tactic| k_mem) => `(tactic| (with_reducible assumption))
local macro_rules | `(tactic| walk_at "FPost") => `(tactic| (dsimp only [FPost]))
local macro_rules | `(tactic| walk_at "subscriptTail Name UnaryOp ref int") => `(tactic| (k_here; (with_unfolding_all refine' it_back ?k1 ?k2 ?k3 ?k4 ?_; (case k1 => k_asm); (case k2 => k_mem); (case k3 => l_ints); (case k4 => first | exact wts_pos _ _ | omega); k_whole); intro tBk))
local macro_rules | `(tactic| walk_at "call ref") => `(tactic| (k_here; k_dflt (refine' weights_use ?k1 ?k2 ?k3 ?k4 ?k5 ?kK ?kd ?ku ?h1 ?h2 ?h3 ?_; (case k1 => k_asm); (case k2 => k_asm); (case k3 => k_asm); (case k4 => k_asm); (case k5 => k_asm); (case kK => first | exact rfl | assumption); (case kd => ktr_room); (case ku => ktr_units); (case h1 => k_mem); (case h2 => l_ints); (case h3 => assumption); k_whole); intro d9 ws9 n9 h9 tk9 F9 N9 hi9))
local macro_rules | `(tactic| walk_at "call builtin:len") => `(tactic| (k_here; (with_reducible show wpAny _ _ (call (Value.builtin "len") [Value.ref _]) _ _ _); k_dflt (refine' kst_len ?k1 ?k2 ?k3 ?k4 ?_; (case k1 => k_asm); (case k2 => k_mem); (case k3 => exact IntsAre.length (by assumption)); (case k4 => omega); k_whole)))
local macro_rules | `(tactic| walk_at "subscriptTail Name Name ref int") => `(tactic| (k_here; (with_unfolding_all refine' it_at ?k1 ?k2 ?k3 ?k4 ?k5 ?k6 ?_; (case k1 => k_asm); (case k2 => k_mem); (case k3 => l_ints); (case k4 => omega); (case k5 => (try simp only [wts_len]; omega)); (case k6 => (try simp only [wts_len]; omega)); k_whole); intro tBk))
theorem lost_ok {w : World} {mean : ExcName → Option Value} {mg mb : Str → Option Value} {news : List (Addr × Obj)} (front : Int) (tc : Tok) (l : Addr) (vs : List Value) (hs : List Int) (nn : Nat) (hm : (l, listOf vs.toArray nn) ∈ news) (hi : IntsAre vs hs) (hlen : hs.length ≤ 5) :
    Ok w mean mg mb 74 2 [.int front tc, .ref l] news (fun r tl => ∃ t, r = .int (lostF 0 front hs (wts 1 hs)) t ∧ tl = []) := by
  w_top off
  k_with_none
  unfold Ok
  k_fill
  intro dp un gd cn cs a ccd cl outer A₀ base h₀ L m s Q E B F X N T hk hdp hun hret
  refine wpAny_call ?_
  k_dflt ktr_enter
  rename Fr _ _ _ _ => F1
  replace F1 := fr_to F1 (m' := fun y => List.lookup y [(Str.ofString "hands", Value.ref l), (Str.ofString "front", Value.int front tc)]) rfl
  repeat' ((fail_if_success (with_reducible show wpAny _ _ (pyIter _) _ _ _)); first | (k_unfold; (try dsimp only)) | walk1 | (dsimp only; walk1) | fail "no step")
  rename Fr _ _ _ _ => F1
  rename News _ _ _ _ => N1
  rename IntsAre _ (wts 1 hs) => hw
  rename IntsAre vs hs => hi
  rename IsRange _ _ _ _ _ _ _ _ => hr
  have hwl := wts_len 1 hs
  refine for_rangeC (σ := Int × Tok) (fun c => [(Str.ofString "rest", .int c.1 c.2)]) [] (fun i c => lostF i c.1 (hs.drop i) ((wts 1 hs).drop i) = lostF 0 front hs (wts 1 hs)) (front, ?tk0) rfl hr (by omega) F1 N1 ?a1 ?a2 ?turn ?done
  case a1 =>
    intro p hp
    rw [List.mem_singleton.mp hp]
    rfl
  case a2 => rfl
  case turn =>
    rintro i ⟨rest, tl⟩ u t I it h tk hin hP hlt hic F' N'
    dsimp only at hP
    simp only [kstB, List.contains_nil, Bool.false_eq_true, if_false] at F'
    have hP := lostF_at hP (by omega)
    have hwp : 0 < (wts 1 hs).getD (Int.toNat (i : Int)) 0 := wts_at_pos hs (by omega)
    have hwq : (wts 1 hs).getD (Int.toNat (i : Int)) 0 ≤ 32 := wts_at_le hlen (by omega)
    repeat' ((fail_if_success (with_reducible show wpAny _ _ (pyIter _) _ _ _)); first | (k_unfold; (try dsimp only)) | walk1 | (dsimp only; walk1) | fail "no step")
    · rw [if_pos ⟨by assumption, .inl (by assumption)⟩] at hP
      rename News h₀ L _ _ => N2
      exact hret _ [] _ _ (by assumption) (fun p hp => N2 p (List.mem_cons_of_mem _ (List.mem_cons_of_mem _ hp))) ⟨_, by rw [hP], rfl⟩
    · rw [if_pos ⟨by assumption, .inr (by assumption)⟩] at hP
      rename News h₀ L _ _ => N2
      exact hret _ [] _ _ (by assumption) (fun p hp => N2 p (List.mem_cons_of_mem _ (List.mem_cons_of_mem _ hp))) ⟨_, by rw [hP], rfl⟩
    · rename News _ _ _ _ => N2
      rename Fr _ _ _ _ => F2
      rw [if_neg (fun hc => hc.2.elim (by assumption) (by assumption))] at hP
      refine FEnd.intro (?v9, ?t9) F2 N2 List.mem_cons_self (fun p hp => List.mem_cons_of_mem _ hp) ?b1 ?b2 ?b3
      case b1 => intro p hp; rw [List.mem_singleton.mp hp]; rfl
      case b2 => intro z h1 h2 h3; have h2 := h2 _ (List.mem_singleton.mpr rfl); simp_all
      case b3 => exact hP
    · rename News _ _ _ _ => N2
      rename Fr _ _ _ _ => F2
      rw [if_neg (fun hc => absurd hc.1 (by assumption))] at hP
      refine FEnd.intro (?w9, ?u9) F2 N2 List.mem_cons_self (fun p hp => List.mem_cons_of_mem _ hp) ?c1 ?c2 ?c3
      case c1 => intro p hp; rw [List.mem_singleton.mp hp]; rfl
      case c2 => intro z h1 h2 h3; have h2 := h2 _ (List.mem_singleton.mpr rfl); simp_all
      case c3 => exact hP
  case done =>
    rintro ⟨left, tl⟩ u h tk hP F' N'
    dsimp only at hP
    simp only [kstB, List.contains_nil, Bool.false_eq_true, if_false] at F'
    rw [List.drop_length, lostF_nil] at hP
    clear F1 N1
    repeat' ((fail_if_success (with_reducible show wpAny _ _ (pyIter _) _ _ _)); first | (k_unfold; (try dsimp only)) | walk1 | (dsimp only; walk1) | fail "no step")
    rename News h₀ L _ _ => N2
    exact hret _ [] _ _ (by assumption) (fun p hp => N2 p (List.mem_cons_of_mem _ hp)) ⟨_, by rw [hP], rfl⟩
end Mine
namespace Mine
/-- a text's signs -/
abbrev cl (x : Str) : List Nat := x.cps.toList
def sOf (l : List Nat) : Str := ⟨l.toArray⟩
theorem cl_sOf (l : List Nat) : cl (sOf l) = l := rfl
theorem sOf_cl (x : Str) : sOf (cl x) = x := rfl
theorem cl_inj {x y : Str} (h : cl x = cl y) : x = y := by rw [← sOf_cl x, ← sOf_cl y, h]
theorem cl_len (x : Str) : x.length = (cl x).length := by simp [Str.length]
theorem cl_append (x y : Str) : cl (x ++ y) = cl x ++ cl y := by
  show (x ++ y).cps.toList = _
  rw [Str.cps_append, Array.toList_append]
theorem cl_quote : cl (Str.ofString "\"") = [34] := by decide +kernel
theorem cl_257 : cl (Str.ofString "257") = [50, 53, 55] := by decide +kernel
theorem cl_257b : cl (Str.ofString "257 ") = [50, 53, 55, 32] := by decide +kernel
theorem cl_bq : cl (Str.ofString " \"") = [32, 34] := by decide +kernel
theorem cl_empty : cl (Str.ofString "") = [] := by decide +kernel

theorem sl_from {x : Str} {i : Int} (h : 0 ≤ i ∧ i ≤ (cl x).length) : cl (Txt.slice x (some i) none) = (cl x).drop i.toNat := by
  show cl (StrLaws.sliceText x (some i) none) = _
  rw [StrLaws.sliceText_from h]
  show List.take _ _ = _
  rw [List.take_of_length_le]
  rw [List.length_drop]; omega
theorem sl_to {x : Str} {j : Int} (h : 0 ≤ j ∧ j ≤ (cl x).length) : cl (Txt.slice x none (some j)) = (cl x).take j.toNat := by
  show cl (StrLaws.sliceText x none (some j)) = _
  rw [StrLaws.sliceText_to h]
  show List.take _ (List.drop 0 _) = _
  rw [List.drop_zero, Int.sub_zero]
theorem sl_mid {x : Str} {i j : Int} (h : 0 ≤ i ∧ i ≤ j ∧ j ≤ (cl x).length) : cl (Txt.slice x (some i) (some j)) = ((cl x).drop i.toNat).take (j - i).toNat := by
  show cl (StrLaws.sliceText x (some i) (some j)) = _
  rw [StrLaws.sliceText_plain h]
theorem sl_last {x : Str} (h : 1 ≤ (cl x).length) : cl (Txt.slice x none (some (-1))) = (cl x).dropLast := by
  rw [slice_to_neg (by decide)]
  have hl := cl_len x
  rw [show max (0 : Int) ((x.length : Int) + -1) = ((cl x).length : Int) - 1 by omega, sl_to (by omega), List.dropLast_eq_take]
  congr 1
  omega
theorem starts_iff (x : Str) : Txt.startswith x (Str.ofString "\"") = true ↔ (cl x).head? = some 34 := by
  unfold Txt.startswith
  rw [StrLaws.subAt_eq, show (Str.ofString "\"").length = 1 by decide +kernel, show (Str.ofString "\"").cps.toList = [34] from cl_quote, cl_len]
  show (decide (0 + 1 ≤ (cl x).length) && ((cl x).drop 0).take 1 == [34]) = true ↔ _
  cases cl x with
  | nil => simp
  | cons c r => simp
theorem ends_iff (x : Str) : Txt.endswith x (Str.ofString "\"") = true ↔ (cl x).getLast? = some 34 := by
  unfold Txt.endswith
  rw [StrLaws.subAt_eq, show (Str.ofString "\"").length = 1 by decide +kernel, show (Str.ofString "\"").cps.toList = [34] from cl_quote, cl_len]
  show (decide (0 + 1 ≤ (cl x).length) && ((cl x).drop ((cl x).length - 1)).take 1 == [34]) = true ↔ _
  generalize cl x = l
  rcases List.eq_nil_or_concat l with rfl | ⟨r, c, rfl⟩
  · simp
  · simp
theorem item_cl {x : Str} {i : Int} (h0 : 0 ≤ i) (h1 : i < (x.length : Int)) : cl (Txt.item x i) = [(cl x).getD i.toNat 0] := by
  rw [W.item_meets ⟨h0, h1⟩]
  simp
theorem item_quote {x : Str} {i : Int} (h0 : 0 ≤ i) (h1 : i < (x.length : Int)) : Txt.item x i = Str.ofString "\"" ↔ (cl x).getD i.toNat 0 = 34 := by
  constructor
  · intro e
    have := item_cl h0 h1
    rw [e, cl_quote] at this
    simpa using this.symm
  · intro e
    exact cl_inj (by rw [item_cl h0 h1, e, cl_quote])
def quotes (n : Int) : List Nat := List.replicate n.toNat 34
theorem rep_fold : ∀ (k : Nat) (a : Array Nat), ((List.replicate k #[34]).foldl (· ++ ·) a).toList = a.toList ++ List.replicate k 34
  | 0, a => by simp
  | k + 1, a => by
    rw [List.replicate_succ, List.foldl_cons, rep_fold k, List.replicate_succ]
    simp
theorem cl_mul (n : Int) : cl (Txt.mul (Str.ofString "\"") n) = quotes n := by
  unfold Txt.mul
  have e : (Str.ofString "\"").cps = #[34] := by decide +kernel
  split
  · rename_i h
    rw [quotes, show n.toNat = 0 by omega]
    rfl
  · split
    · rename_i h1 h2
      have : n = 1 := by
        rcases Bool.or_eq_true_iff.mp h2 with q | q
        · simpa using q
        · exact absurd q (by decide +kernel)
      subst this
      rw [cl_quote]; rfl
    · show Array.toList (List.foldl (· ++ ·) #[] (List.replicate n.toNat (Str.ofString "\"").cps)) = _
      rw [e, rep_fold]
      simp [quotes]
theorem mul_eq (n : Int) : Txt.mul (Str.ofString "\"") n = sOf (quotes n) := cl_inj (by rw [cl_mul, cl_sOf])
theorem mulOk {n : Int} (h0 : -100000 ≤ n) (h1 : n ≤ 100000) : MulOk (Str.ofString "\"") n := by
  have hl : (Str.ofString "\"").length = 1 := by decide +kernel
  refine ⟨?_, fun h2 _ => ?_, fun _ _ => ?_⟩
  · rw [Bool.or_eq_false_iff]
    exact ⟨decide_eq_false (by omega), decide_eq_false (by omega)⟩
  · rw [hl]
    have : (1 : Int) ≤ (2 ^ 63 - 1) / n := by
      rw [Int.le_ediv_iff_mul_le (by omega)]
      omega
    omega
  · rw [hl]
    exact decide_eq_false (by rw [sizeLine_eq]; omega)
def Bnd (n : Int) : Prop := -100000 ≤ n ∧ n ≤ 100000
theorem mul_q {prog : Program} {w : World} {A : Around} {E : Value → Shared → Prop} {s : Shared} {t u : Tok} {Q : Value → Shared → Prop} {n : Int} (hb : Bnd n) (h : ∀ t' k, Q (.str (sOf (quotes n)) t') { s with toks := k }) :
    wpAny (model prog w) A (binaryOp .Mult (.str (Str.ofString "\"") t) (.int n u)) Q E s :=
  SB.mul (mulOk hb.1 hb.2) (by rw [mul_eq]; exact h)
theorem sOf_len (l : List Nat) : (sOf l).length = l.length := by rw [cl_len, cl_sOf]
theorem quotes_len (n : Int) : (quotes n).length = n.toNat := by simp [quotes]
def Sml (k : Nat) (x : Str) : Prop := x.length ≤ k
theorem sml_add {a b : Nat} {x y : Str} (hx : Sml a x) (hy : Sml b y) : Sml (a + b) (x ++ y) := by
  unfold Sml at *
  rw [Str.length_append]; omega
theorem add_fits {a b : Nat} {x y : Str} (hx : Sml a x) (hy : Sml b y) (h : a + b ≤ 100000) : x.length + y.length ≤ sizeLine := by
  unfold Sml at *
  rw [sizeLine_eq]; omega
end Mine
namespace Mine
def stripL (l : List Nat) : List Nat :=
  if (if l.head? = some 34 then l.drop 1 else l).getLast? = some 34 then (if l.head? = some 34 then l.drop 1 else l).dropLast else (if l.head? = some 34 then l.drop 1 else l)
def parseQ : List Nat → List Nat
  | [] => []
  | [c] => if c = 34 then [] else [c]
  | c :: d :: r => if c = 34 then (if d = 34 then 34 :: parseQ r else []) else c :: parseQ (d :: r)
def parseL : List Nat → List Nat
  | [] => []
  | c :: r => if c = 34 then parseQ r else []
theorem parseQ_ne {c : Nat} (h : c ≠ 34) (r : List Nat) : parseQ (c :: r) = c :: parseQ r := by
  cases r with
  | nil => simp [parseQ, h]
  | cons d r => simp [parseQ, h]
theorem parseQ_one : parseQ [34] = [] := by simp [parseQ]
theorem parseQ_stop {d : Nat} (h : d ≠ 34) (r : List Nat) : parseQ (34 :: d :: r) = [] := by simp [parseQ, h]
theorem parseQ_two (r : List Nat) : parseQ (34 :: 34 :: r) = 34 :: parseQ r := by simp [parseQ]
theorem drop_at {l : List Nat} {k : Nat} (h : k < l.length) : l.drop k = l.getD k 0 :: l.drop (k + 1) := by
  rw [List.drop_eq_getElem_cons h, List.getD_eq_getElem?_getD, List.getElem?_eq_getElem h]; rfl
theorem beq_str {x y : Str} : (x == y) = true ↔ x = y := beq_iff_eq
theorem bne_str {x y : Str} : (x != y) = false ↔ x = y := bne_eq_false_iff_eq
theorem bne_strT {x y : Str} : (x != y) = true ↔ x ≠ y := bne_iff_ne

section
variable {x d : Str} {i : Int} {R : List Nat}
theorem pq_end (h0 : 0 ≤ i) (h1 : ¬ i < (x.length : Int)) (hP : cl d ++ parseQ ((cl x).drop i.toNat) = R) : cl d = R := by
  rw [List.drop_eq_nil_of_le (by rw [← cl_len]; omega)] at hP
  simpa [parseQ] using hP
theorem pq_last (h0 : 0 ≤ i) (h1 : i < (x.length : Int)) (hq : (Txt.item x i == Str.ofString "\"") = true) (h2 : (x.length : Int) ≤ i + 1) (hP : cl d ++ parseQ ((cl x).drop i.toNat) = R) : cl d = R := by
  have e := (item_quote h0 h1).mp (beq_str.mp hq)
  rw [drop_at (by rw [← cl_len]; omega), e, List.drop_eq_nil_of_le (by rw [← cl_len]; omega), parseQ_one, List.append_nil] at hP
  exact hP
theorem toNat_succ (h0 : 0 ≤ i) : (i + 1).toNat = i.toNat + 1 := by omega
theorem pq_stop (h0 : 0 ≤ i) (h1 : i < (x.length : Int)) (hq : (Txt.item x i == Str.ofString "\"") = true) (h2 : ¬ (x.length : Int) ≤ i + 1) (hn : (Txt.item x (i + 1) != Str.ofString "\"") = true) (hP : cl d ++ parseQ ((cl x).drop i.toNat) = R) : cl d = R := by
  have e := (item_quote h0 h1).mp (beq_str.mp hq)
  have e2 : (cl x).getD (i.toNat + 1) 0 ≠ 34 := fun q => bne_strT.mp hn ((item_quote (by omega) (by omega)).mpr (by rw [toNat_succ h0]; exact q))
  rw [drop_at (by rw [← cl_len]; omega), e, drop_at (k := i.toNat + 1) (by rw [← cl_len]; omega), parseQ_stop e2, List.append_nil] at hP
  exact hP
theorem pq_two (h0 : 0 ≤ i) (h1 : i < (x.length : Int)) (hq : (Txt.item x i == Str.ofString "\"") = true) (h2 : ¬ (x.length : Int) ≤ i + 1) (hn : (Txt.item x (i + 1) != Str.ofString "\"") = false) (hP : cl d ++ parseQ ((cl x).drop i.toNat) = R) :
    cl (d ++ Txt.item x i) ++ parseQ ((cl x).drop (i + 1 + 1).toNat) = R := by
  have e := (item_quote h0 h1).mp (beq_str.mp hq)
  have e2 := (item_quote (by omega) (by omega)).mp (bne_str.mp hn)
  rw [toNat_succ h0] at e2
  rw [drop_at (by rw [← cl_len]; omega), e, drop_at (k := i.toNat + 1) (by rw [← cl_len]; omega), e2, parseQ_two] at hP
  rw [cl_append, item_cl h0 h1, e, toNat_succ (by omega), toNat_succ h0]
  simpa using hP
theorem pq_one (h0 : 0 ≤ i) (h1 : i < (x.length : Int)) (hq : (Txt.item x i == Str.ofString "\"") = false) (hP : cl d ++ parseQ ((cl x).drop i.toNat) = R) :
    cl (d ++ Txt.item x i) ++ parseQ ((cl x).drop (i + 1).toNat) = R := by
  have e : (cl x).getD i.toNat 0 ≠ 34 := fun q => by
    have := (item_quote h0 h1).mpr q
    rw [this] at hq
    simp at hq
  rw [drop_at (by rw [← cl_len]; omega), parseQ_ne e] at hP
  rw [cl_append, item_cl h0 h1, toNat_succ h0]
  simpa using hP
end
theorem head_257 (y : Str) : Txt.slice (Str.ofString "257 " ++ y) none (some 3) = Str.ofString "257" := by
  refine cl_inj ?_
  rw [sl_to (by rw [cl_append, cl_257b]; simp; omega), cl_append, cl_257b, cl_257]
  rfl
theorem mid_257 {y : Str} : Txt.slice (Str.ofString "257 " ++ y) (some 3) (some 5) = Str.ofString " \"" ↔ (cl y).head? = some 34 := by
  have e : cl (Str.ofString "257 " ++ y) = 50 :: 53 :: 55 :: 32 :: cl y := by rw [cl_append, cl_257b]; rfl
  cases hy : cl y with
  | nil =>
    constructor
    · intro q
      have h1 := congrArg cl q
      rw [cl_bq] at h1
      have h2 := (slice_ns_cases' (Str.ofString "257 " ++ y) 5)
      have h3 := PySem.Txt.slice_le (Str.ofString "257 " ++ y) (some 3) (some 5)
      exfalso
      have h4 : Txt.slice (Str.ofString "257 " ++ y) (some 3) (some 5) = Str.ofString " " := by
        have : y = Str.ofString "" := cl_inj (by rw [hy, cl_empty])
        rw [this]
        decide +kernel
      rw [h4] at q
      exact absurd q (by decide +kernel)
    · intro q; cases q
  | cons c r =>
    have h1 : cl (Txt.slice (Str.ofString "257 " ++ y) (some 3) (some 5)) = [32, c] := by
      rw [sl_mid (by rw [e, hy]; simp; omega), e, hy]
      rfl
    constructor
    · intro q
      rw [q, cl_bq] at h1
      simp at h1
      simp [h1]
    · intro q
      have : c = 34 := by simpa using q
      subst this
      exact cl_inj (by rw [h1, cl_bq])

theorem parse_ok {w : World} {mean : ExcName → Option Value} {mg mb : Str → Option Value} {news : List (Addr × Obj)} (y : Str) (t : Tok) (hy : y.length ≤ 1000) :
    Ok w mean mg mb 46 1 [.str (Str.ofString "257 " ++ y) t] news (fun r tl => tl = [] ∧ ∃ z t, r = .str z t ∧ cl z = parseL (cl y)) := by
  w_top off
  k_with_none
  unfold Ok
  k_fill
  intro dp un gd cn cs a ccd cl' outer A₀ base h₀ L m s Q E B F X N T hk hdp hun hret
  have h3 := head_257 y
  have h5 := @mid_257 y
  have hlen : (Str.ofString "257 " ++ y).length = 4 + y.length := by rw [Str.length_append]; rfl
  have hcl : cl (Str.ofString "257 " ++ y) = 50 :: 53 :: 55 :: 32 :: cl y := by rw [cl_append, cl_257b]; rfl
  revert h3 h5 hlen hcl
  generalize Str.ofString "257 " ++ y = x
  intro h3 h5 hlen hcl
  have hx : x.length ≤ 1004 := by omega
  refine wpAny_call ?_
  k_dflt ktr_enter
  rename Fr _ _ _ _ => F1
  replace F1 := fr_to F1 (m' := fun y => List.lookup y [(Str.ofString "resp", Value.str x t)]) rfl
  repeat' ((fail_if_success (with_reducible show wpAny _ _ (exec (Stmt.While _ _ _ _) _) _ _ _)); first | (k_unfold; (try dsimp only)) | walk1 | (dsimp only; walk1) | fail "no step")
  · rename (Txt.slice x none (some 3) != _) = true => e
    rw [h3] at e
    simp at e
  · rename (Txt.slice x (some 3) (some 5) != _) = true => e
    have hne := bne_strT.mp e
    refine hret _ [] _ _ (by assumption) (by assumption) ⟨rfl, _, _, rfl, ?_⟩
    rw [cl_empty]
    cases hc : cl y with
    | nil => rfl
    | cons c r =>
      have : c ≠ 34 := fun q => hne (h5.mpr (by rw [hc, q]; rfl))
      simp [parseL, this]
  · rename Fr _ _ _ _ => F1
    rename News _ _ _ _ => N1
    rename (Txt.slice x (some 3) (some 5) != _) = false => e
    have hq := h5.mp (bne_str.mp e)
    have hR : parseQ ((cl x).drop 5) = parseL (cl y) := by
      rw [hcl]
      cases hc : cl y with
      | nil => rw [hc] at hq; cases hq
      | cons c r =>
        rw [hc] at hq
        have : c = 34 := by simpa using hq
        subst this
        simp [parseL]
    refine ksw_while (σ := Str × Tok × Int × Tok) (fun _ => news) (fun c => [(Str.ofString "i", .int c.2.2.1 c.2.2.2), (Str.ofString "dirname", .str c.1 c.2.1)]) (fun _ => True) [Str.ofString "c"]
      (fun c => 5 ≤ c.2.2.1 ∧ c.1.length + 5 ≤ c.2.2.1 ∧ cl c.1 ++ parseQ ((cl x).drop c.2.2.1.toNat) = parseL (cl y)) (fun c => x.length - c.2.2.1.toNat) (Str.ofString "", ?t1, 5, ?t2) F1 N1 trivial ?a1 ?a2 ?turn
    case a1 =>
      intro p hp
      rcases List.mem_cons.mp hp with rfl | hp
      · rfl
      · rw [List.mem_singleton.mp hp]; rfl
    case a2 => exact ⟨Int.le_refl _, Int.le_refl _, hR⟩
    case turn =>
      rintro ⟨d, td, i, ti⟩ u h tk _ ⟨hi5, hd5, hP⟩ F' N'
      dsimp only at hi5 hd5 hP
      clear F1 N1
      simp only [kstB] at F'
      repeat' ((fail_if_success (with_reducible show KswEnd _ _ _ _ _ _ _ _ _ _ _ _)); first | (k_unfold; (try dsimp only)) | walk1 | (dsimp only; walk1) | fail "no step")
      · exact hret _ [] _ _ (by assumption) (by assumption) ⟨rfl, _, _, rfl, pq_last (by omega) (by assumption) (by assumption) (by assumption) hP⟩
      · exact hret _ [] _ _ (by assumption) (by assumption) ⟨rfl, _, _, rfl, pq_stop (by omega) (by assumption) (by assumption) (by assumption) (by assumption) hP⟩
      · rename News _ _ _ _ => N2
        rename Fr _ _ _ _ => F2
        refine ksw_end (d ++ Txt.item x i, ?d2, i + 1 + 1, ?d4) F2 N2 (fun p hp => hp) trivial ?b1 ?b2 ⟨?b3, ?b4, pq_two (i := i) (by omega) (by assumption) (by assumption) (by assumption) (by assumption) hP⟩ ?b5
        case b1 =>
          intro p hp
          rcases List.mem_cons.mp hp with rfl | hp
          · rfl
          · rw [List.mem_singleton.mp hp]; rfl
        case b2 =>
          intro z h2 h3
          have q1 := h2 _ List.mem_cons_self
          have q2 := h2 _ (List.mem_cons_of_mem _ (List.mem_singleton.mpr rfl))
          simp_all
        case b3 => dsimp only; omega
        case b4 => dsimp only; omega
        case b5 => dsimp only; omega
      · rename News _ _ _ _ => N2
        rename Fr _ _ _ _ => F2
        refine ksw_end (d ++ Txt.item x i, ?e2, i + 1, ?e4) F2 N2 (fun p hp => hp) trivial ?c1 ?c2 ⟨?c3, ?c4, pq_one (i := i) (by omega) (by assumption) (by assumption) hP⟩ ?c5
        case c1 =>
          intro p hp
          rcases List.mem_cons.mp hp with rfl | hp
          · rfl
          · rw [List.mem_singleton.mp hp]; rfl
        case c2 =>
          intro z h2 h3
          have q1 := h2 _ List.mem_cons_self
          have q2 := h2 _ (List.mem_cons_of_mem _ (List.mem_singleton.mpr rfl))
          simp_all
        case c3 => dsimp only; omega
        case c4 => dsimp only; omega
        case c5 => dsimp only; omega
      · exact hret _ [] _ _ (by assumption) (by assumption) ⟨rfl, _, _, rfl, pq_end (by omega) (by assumption) hP⟩
end Mine
namespace Mine
theorem head_len {l : List Nat} (h : l.head? = some 34) : 1 ≤ l.length := by cases l <;> simp_all
theorem last_len {l : List Nat} (h : l.getLast? = some 34) : 1 ≤ l.length := by cases l <;> simp_all
theorem cut1 {x : Str} (h : Txt.startswith x (Str.ofString "\"") = true) : cl (Txt.slice x (some 1) none) = (cl x).drop 1 :=
  sl_from ⟨by decide, by have := head_len ((starts_iff x).mp h); omega⟩
theorem cutL {x : Str} (h : Txt.endswith x (Str.ofString "\"") = true) : cl (Txt.slice x none (some (-1))) = (cl x).dropLast :=
  sl_last (last_len ((ends_iff x).mp h))
theorem not_starts {x : Str} (h : Txt.startswith x (Str.ofString "\"") = false) : ¬ (cl x).head? = some 34 := fun q => by
  rw [(starts_iff x).mpr q] at h; cases h
theorem not_ends {x : Str} (h : Txt.endswith x (Str.ofString "\"") = false) : ¬ (cl x).getLast? = some 34 := fun q => by
  rw [(ends_iff x).mpr q] at h; cases h
theorem strip_ok {w : World} {mean : ExcName → Option Value} {mg mb : Str → Option Value} {news : List (Addr × Obj)} (x : Str) (t : Tok) (hx : x.length ≤ 1000) :
    Ok w mean mg mb 53 1 [.str x t] news (fun r tl => tl = [] ∧ ∃ z t, r = .str z t ∧ cl z = stripL (cl x)) := by
  w_top off
  k_with_none
  unfold Ok
  k_fill
  intro dp un gd cn cs a ccd cl' outer A₀ base h₀ L m s Q E B F X N T hk hdp hun hret
  refine wpAny_call ?_
  k_dflt ktr_enter
  rename Fr _ _ _ _ => F1
  replace F1 := fr_to F1 (m' := fun y => List.lookup y [(Str.ofString "text", Value.str x t)]) rfl
  repeat' (first | (k_unfold; (try dsimp only)) | walk1 | (dsimp only; walk1) | fail "no step")
  · refine hret _ [] _ _ (by assumption) (by assumption) ⟨rfl, _, _, rfl, ?_⟩
    with_reducible rename Txt.startswith _ _ = true => e1
    with_reducible rename Txt.endswith _ _ = true => e2
    have q1 := (starts_iff x).mp e1
    have q2 := (ends_iff _).mp e2
    have c1 := cut1 e1
    rw [cutL e2]
    rw [c1] at q2 ⊢
    rw [stripL, if_pos q1, if_pos q2]
  · refine hret _ [] _ _ (by assumption) (by assumption) ⟨rfl, _, _, rfl, ?_⟩
    with_reducible rename Txt.startswith _ _ = true => e1
    with_reducible rename Txt.endswith _ _ = false => e2
    have q1 := (starts_iff x).mp e1
    have q2 := not_ends e2
    have c1 := cut1 e1
    rw [c1] at q2 ⊢
    rw [stripL, if_pos q1, if_neg q2]
  · refine hret _ [] _ _ (by assumption) (by assumption) ⟨rfl, _, _, rfl, ?_⟩
    with_reducible rename Txt.startswith _ _ = false => e1
    with_reducible rename Txt.endswith _ _ = true => e2
    have q1 := not_starts e1
    have q2 := (ends_iff _).mp e2
    rw [cutL e2]
    rw [stripL, if_neg q1, if_pos q2]
  · refine hret _ [] _ _ (by assumption) (by assumption) ⟨rfl, _, _, rfl, ?_⟩
    with_reducible rename Txt.startswith _ _ = false => e1
    with_reducible rename Txt.endswith _ _ = false => e2
    have q1 := not_starts e1
    have q2 := not_ends e2
    rw [stripL, if_neg q1, if_neg q2]
end Mine
namespace Mine
theorem lost_use {w : World} {mean : ExcName → Option Value} {mg mb : Str → Option Value} {news : List (Addr × Obj)} {front : Int} {tf : Tok} {l : Addr} {vs : List Value} {hs : List Int} {nn : Nat}
    {dp un : Nat} {gd : Option (List Code)} {cn : Str} {cs : Scope} {a : Addr} {ccd : Value} {cl : List (Str × Addr)} {outer : List Env} {A₀ : Around} {base h₀ : Heap} {L : Addr} {m : Str → Option Value} {s : Shared} {Q E : Value → Shared → Prop}
    (B : Below A₀ base outer h₀) (F : Fr h₀ L s.heap m) (X : (hd.heap_39 w.params).In h₀) (N : News h₀ L s.heap news) (T : Top hd.view_39 (looseW hd.view_39 []) mean mg mb h₀) (hk : cs.kind = .function) (hdp : dp + 2 < recursionLimit) (hun : un + 8 * 2 < cLine)
    (hm : (l, listOf vs.toArray nn) ∈ news) (hi : IntsAre vs hs) (hlen : hs.length ≤ 5)
    (ret : ∀ t h' tk', Fr h₀ L h' m → News h₀ L h' news → Q (.int (lostF 0 front hs (wts 1 hs)) t) { s with heap := h', toks := tk' }) :
    wpAny (model Challenge.rw_nb0018_01.row.prog w) (ktrTop dp un gd cn cs L a ccd cl outer) (call (.ref 74) [.int front tf, .ref l]) Q E s :=
  lost_ok front tf l vs hs nn hm hi hlen dp un gd cn cs a ccd cl outer A₀ base h₀ L m s Q E B F X N T hk hdp hun fun r tl h' tk' F' N' hr => by
    obtain ⟨t, rfl, rfl⟩ := hr
    exact ret t h' tk' F' N'
theorem alone_use {w : World} {mean : ExcName → Option Value} {mg mb : Str → Option Value} {news : List (Addr × Obj)} {count : Int} {tf : Tok} {l : Addr} {vs : List Value} {hs : List Int} {nn : Nat}
    {dp un : Nat} {gd : Option (List Code)} {cn : Str} {cs : Scope} {a : Addr} {ccd : Value} {cl : List (Str × Addr)} {outer : List Env} {A₀ : Around} {base h₀ : Heap} {L : Addr} {m : Str → Option Value} {s : Shared} {Q E : Value → Shared → Prop}
    (B : Below A₀ base outer h₀) (F : Fr h₀ L s.heap m) (X : (hd.heap_39 w.params).In h₀) (N : News h₀ L s.heap news) (T : Top hd.view_39 (looseW hd.view_39 []) mean mg mb h₀) (hk : cs.kind = .function) (hdp : dp + 2 < recursionLimit) (hun : un + 8 * 2 < cLine)
    (hm : (l, listOf vs.toArray nn) ∈ news) (hi : IntsAre vs hs) (hlen : hs.length ≤ 5)
    (ret : ∀ t h' tk', Fr h₀ L h' m → News h₀ L h' news → Q (.int (aloneZ count hs) t) { s with heap := h', toks := tk' }) :
    wpAny (model Challenge.rw_nb0018_01.row.prog w) (ktrTop dp un gd cn cs L a ccd cl outer) (call (.ref 67) [.int count tf, .ref l]) Q E s :=
  alone_ok count tf l vs hs nn hm hi hlen dp un gd cn cs a ccd cl outer A₀ base h₀ L m s Q E B F X N T hk hdp hun fun r tl h' tk' F' N' hr => by
    obtain ⟨t, rfl, rfl⟩ := hr
    exact ret t h' tk' F' N'
def leftF (last : Bool) (run : Int) : Int → List Int → List Int → Int
  | l, h :: hs, w :: ws => leftF last run (if h = 1 ∧ (last = true ∨ run.fmod w ≠ 0) then l - w else l) hs ws
  | l, _, _ => l
def wordsF (weight : Int) (hs ws : List Int) : List (Nat × Int) → List Nat
  | [] => []
  | (s, r) :: rest =>
    if rest = [] ∨ r.fmod weight ≠ 0 then s :: quotes ((if leftF rest.isEmpty r r hs ws > 0 then leftF rest.isEmpty r r hs ws else 0).fdiv weight)
    else s :: (quotes (r.fdiv weight) ++ wordsF weight hs ws rest)
def restZ (front : Int) (hs : List Int) (lost : Int) : Int :=
  (if front - ((wts 1 hs).take lost.toNat).sum > 0 then front - ((wts 1 hs).take lost.toNat).sum else 0).fdiv ((wts 1 hs).getD lost.toNat 0)
def toldZ (front : Int) (words : List (Nat × Int)) (hs : List Int) : List Nat :=
  if lostF 0 front hs (wts 1 hs) < hs.length then
    quotes (aloneZ (if (restZ front hs (lostF 0 front hs (wts 1 hs))).fdiv 2 - 1 > 0 then (restZ front hs (lostF 0 front hs (wts 1 hs))).fdiv 2 - 1 else 0) (hs.drop (lostF 0 front hs (wts 1 hs) + 1).toNat))
  else quotes (restZ front hs (lostF 0 front hs (wts 1 hs))) ++ wordsF ((wts 1 hs).getLastD 0) hs (wts 1 hs) words
theorem lostF_bounds : ∀ (i r : Int) (hs ws : List Int), i ≤ lostF i r hs ws ∧ lostF i r hs ws ≤ i + hs.length
  | i, r, [], ws => by rw [lostF_nil]; simp
  | i, r, h :: hs, [] => by show i ≤ i ∧ i ≤ _; omega
  | i, r, h :: hs, w :: ws => by
    have ih := lostF_bounds (i + 1) (r - w) hs ws
    rw [lostF, List.length_cons]
    split
    · omega
    · omega
theorem fdiv_b {a b M : Int} (h0 : 0 ≤ a) (hM : a ≤ M) (hb : 0 < b) : 0 ≤ a.fdiv b ∧ a.fdiv b ≤ M := by
  rw [Int.fdiv_eq_ediv_of_nonneg _ (Int.le_of_lt hb)]
  exact ⟨Int.ediv_nonneg h0 (Int.le_of_lt hb), Int.le_trans (Int.ediv_le_self _ h0) hM⟩
theorem fdiv_le {a b M : Int} (h0 : 0 ≤ M) (hM : a ≤ M) (hb : 0 < b) : a.fdiv b ≤ M := by
  rw [Int.fdiv_eq_ediv_of_nonneg _ (Int.le_of_lt hb)]
  exact Int.le_trans (Int.ediv_le_ediv hb hM) (Int.ediv_le_self _ h0)
theorem aleft_le : ∀ (l : Int) (hs ws : List Int), (∀ x ∈ ws, 0 < x) → aleft l hs ws ≤ l
  | l, [], ws, _ => by rw [aleft_nil]; exact Int.le_refl _
  | l, h :: hs, [], _ => Int.le_refl _
  | l, h :: hs, w :: ws, hp => by
    have h1 := hp w List.mem_cons_self
    have ih := aleft_le (if h = 1 then l - 2 * w else l) hs ws fun x hx => hp x (List.mem_cons_of_mem _ hx)
    rw [aleft]
    refine Int.le_trans ih ?_
    split <;> omega
theorem aloneZ_b {c : Int} (h0 : 0 ≤ c) (h1 : c ≤ 1000) (hs : List Int) : 0 ≤ aloneZ c hs ∧ aloneZ c hs ≤ 1000 := by
  have h2 := aleft_le (c + 1) hs (wts 1 hs) (wts_all_pos 1 hs (by decide))
  have h3 := fdiv_le (b := (wts 1 hs).getLastD 0) (M := 1001) (by decide) (by omega) (wts_last_pos hs) (a := aleft (c + 1) hs (wts 1 hs))
  rw [aloneZ]
  split <;> omega
theorem sum_pos : ∀ (l : List Int), (∀ x ∈ l, 0 < x) → 0 ≤ l.sum
  | [], _ => Int.le_refl _
  | a :: l, h => by
    have h1 := sum_pos l fun x hx => h x (List.mem_cons_of_mem _ hx)
    have h2 := h a List.mem_cons_self
    rw [List.sum_cons]; omega
theorem restZ_b {front : Int} (hs : List Int) (lost : Int) (h0 : 0 ≤ front) (h1 : front ≤ 1000) (hl : 0 ≤ lost ∧ lost ≤ hs.length) : 0 ≤ restZ front hs lost ∧ restZ front hs lost ≤ 1000 := by
  have h2 := sum_pos ((wts 1 hs).take lost.toNat) fun x hx => wts_all_pos 1 hs (by decide) x (List.mem_of_mem_take hx)
  have h3 := wts_at_pos hs (i := lost.toNat) (by omega)
  unfold restZ
  refine fdiv_b ?_ ?_ h3
  · split <;> omega
  · split <;> omega
theorem leftF_nil (b : Bool) (r l : Int) (ws : List Int) : leftF b r l [] ws = l := by cases ws <;> rfl
theorem leftF_step {b : Bool} {run left left' R : Int} {hs ws : List Int} {i : Nat} (hP : leftF b run left (hs.drop i) (ws.drop i) = R) (hi : i < hs.length ∧ i < ws.length)
    (e : left' = if hs.getD i 0 = 1 ∧ (b = true ∨ run.fmod (ws.getD i 0) ≠ 0) then left - ws.getD i 0 else left) : leftF b run left' (hs.drop (i + 1)) (ws.drop (i + 1)) = R := by
  rw [List.drop_eq_getElem_cons hi.1, List.drop_eq_getElem_cons hi.2] at hP
  rw [e, List.getD_eq_getElem?_getD, List.getD_eq_getElem?_getD, List.getElem?_eq_getElem hi.1, List.getElem?_eq_getElem hi.2]
  exact hP
theorem words_next {wt : Int} {hs wl : List Int} {ws : List (Nat × Int)} {i : Nat} {R : List Nat} {told : Str} (hP : cl told ++ wordsF wt hs wl (ws.drop i) = R) (hin : i < ws.length) (hnl : (i : Int) ≠ (ws.length : Int) - 1) (hm0 : (ws.getD i (0, 0)).2.fmod wt = 0) :
    cl (told ++ (sOf [(ws.getD i (0, 0)).1] ++ sOf (quotes ((ws.getD i (0, 0)).2.fdiv wt)))) ++ wordsF wt hs wl (ws.drop (i + 1)) = R := by
  rw [← hP, cl_append, cl_append, cl_sOf, cl_sOf]
  have e : ws.drop i = ws.getD i (0, 0) :: ws.drop (i + 1) := by
    rw [List.drop_eq_getElem_cons hin, List.getD_eq_getElem?_getD, List.getElem?_eq_getElem hin]; rfl
  have hne : ¬ ws.drop (i + 1) = [] := by rw [List.drop_eq_nil_iff]; omega
  rw [e]
  show _ = cl told ++ wordsF wt hs wl (((ws.getD i (0, 0)).1, (ws.getD i (0, 0)).2) :: ws.drop (i + 1))
  rw [wordsF, if_neg (fun q => q.elim hne fun q => q hm0)]
  simp
theorem words_last {wt : Int} {hs wl : List Int} {ws : List (Nat × Int)} {i : Nat} {R : List Nat} {told : Str} {b : Bool} {left : Int} (hP : cl told ++ wordsF wt hs wl (ws.drop i) = R) (hin : i < ws.length) (hb : b = ((i : Int) == (ws.length : Int) - 1))
    (hm0 : b = true ∨ (ws.getD i (0, 0)).2.fmod wt ≠ 0) (hl : left = leftF b (ws.getD i (0, 0)).2 (ws.getD i (0, 0)).2 hs wl) :
    cl (told ++ sOf [(ws.getD i (0, 0)).1] ++ sOf (quotes ((if left > 0 then left else 0).fdiv wt))) = R := by
  rw [← hP, cl_append, cl_append, cl_sOf, cl_sOf]
  have e : ws.drop i = ws.getD i (0, 0) :: ws.drop (i + 1) := by
    rw [List.drop_eq_getElem_cons hin, List.getD_eq_getElem?_getD, List.getElem?_eq_getElem hin]; rfl
  have hie : (ws.drop (i + 1)).isEmpty = b := by
    rw [hb, Bool.eq_iff_iff, List.isEmpty_iff, List.drop_eq_nil_iff, beq_iff_eq]; omega
  have hc : ws.drop (i + 1) = [] ∨ (ws.getD i (0, 0)).2.fmod wt ≠ 0 := by
    rcases hm0 with q | q
    · exact .inl (List.isEmpty_iff.mp (hie.trans q))
    · exact .inr q
  rw [e]
  show _ = cl told ++ wordsF wt hs wl (((ws.getD i (0, 0)).1, (ws.getD i (0, 0)).2) :: ws.drop (i + 1))
  rw [wordsF, if_pos hc, hie, ← hl]
  simp
/-- the words: tuples of the ledger -/
inductive WordsIn (news : List (Addr × Obj)) : List Value → List (Nat × Int) → Prop
  | nil : WordsIn news [] []
  | cons {a : Addr} {s : Nat} {r : Int} {t u : Tok} {n : Nat} {vs : List Value} {ws : List (Nat × Int)} : (a, ({ cls := .type "tuple", data := .seq #[.str (sOf [s]) t, .int r u] n } : Obj)) ∈ news → WordsIn news vs ws → WordsIn news (.ref a :: vs) ((s, r) :: ws)
theorem WordsIn.length {news : List (Addr × Obj)} {vs : List Value} {ws : List (Nat × Int)} (h : WordsIn news vs ws) : vs.length = ws.length := by
  induction h with
  | nil => rfl
  | cons _ _ ih => rw [List.length_cons, List.length_cons, ih]
theorem WordsIn.at {news : List (Addr × Obj)} {vs : List Value} {ws : List (Nat × Int)} (h : WordsIn news vs ws) : ∀ (i : Nat), i < ws.length → ∃ a t u n, vs[i]? = some (.ref a) ∧ (a, ({ cls := .type "tuple", data := .seq #[.str (sOf [(ws.getD i (0, 0)).1]) t, .int (ws.getD i (0, 0)).2 u] n } : Obj)) ∈ news := by
  induction h with
  | nil => intro i hi; simp at hi
  | @cons a s r t u n vs ws hm _ ih =>
    intro i hi
    cases i with
    | zero => exact ⟨a, t, u, n, rfl, hm⟩
    | succ i =>
      have := ih i (by simpa using hi)
      simpa using this
theorem WordsIn.mono {news news' : List (Addr × Obj)} {vs : List Value} {ws : List (Nat × Int)} (h : WordsIn news vs ws) (hs : ∀ p ∈ news, p ∈ news') : WordsIn news' vs ws := by
  induction h with
  | nil => exact .nil
  | cons hm _ ih => exact .cons (hs _ hm) ih
theorem it_word {prog : Program} {w : World} {A : Around} {E : Value → Shared → Prop} {s : Shared} {h₀ : Heap} {L : Addr} {news news' : List (Addr × Obj)} {value slice : PySem.Expr} {a : Addr} {wv : List Value} {ws : List (Nat × Int)} {n : Nat} {u : Tok} {Q : Value → Shared → Prop} {k : Int}
    (N : News h₀ L s.heap news') (hm : (a, listOf wv.toArray n) ∈ news') (hw : WordsIn news wv ws) (h0 : 0 ≤ k) (hlt : k < (ws.length : Int)) (hsm : ws.length < 1000)
    (h : ∀ b t u n, (b, ({ cls := .type "tuple", data := .seq #[.str (sOf [(ws.getD k.toNat (0, 0)).1]) t, .int (ws.getD k.toNat (0, 0)).2 u] n } : Obj)) ∈ news → Q (.ref b) s)
    (hs : subscripted slice false (.ref a) (.int k u) = operate [.ref a, .int k u] (getItem (.ref a) (.int k u)) := by with_unfolding_all rfl) (hg : ∀ r, letTemporaryGo value (.ref a) r = pure () := by intro _; with_unfolding_all rfl) :
    wpAny (model prog w) A (subscriptTail value slice (.ref a) (.int k u)) Q E s := by
  obtain ⟨b, t, u', n', hx, hmem⟩ := hw.at k.toNat (by omega)
  have hbig : (1000 : Int) < 2 ^ 63 := by decide
  exact kim_list (lo := listOf wv.toArray n) N hm rfl rfl h0 (by omega) hx (h b t u' n' hmem) hs hg
local macro_rules | `(tactic| k_mem) => `(tactic| (refine List.mem_cons_of_mem _ ?_; k_mem))
local macro_rules | `(tactic| k_mem) => `(tactic| exact List.mem_cons_self)
local macro_rules | `(tactic| k_mem) => `(tactic| (with_reducible assumption))
local macro_rules | `(tactic| walk_at "FPost") => `(tactic| (dsimp only [FPost]))
local macro_rules | `(tactic| walk_at "subscriptTail Name UnaryOp ref int") => `(tactic| (k_here; (with_unfolding_all refine' it_back ?k1 ?k2 ?k3 ?k4 ?_; (case k1 => k_asm); (case k2 => k_mem); (case k3 => l_ints); (case k4 => first | exact wts_pos _ _ | omega); k_whole); intro tBk))
local macro_rules | `(tactic| walk_at "call ref") => `(tactic| (k_here; k_dflt (refine' weights_use ?k1 ?k2 ?k3 ?k4 ?k5 ?kK ?kd ?ku ?h1 ?h2 ?h3 ?_; (case k1 => k_asm); (case k2 => k_asm); (case k3 => k_asm); (case k4 => k_asm); (case k5 => k_asm); (case kK => first | exact rfl | assumption); (case kd => ktr_room); (case ku => ktr_units); (case h1 => k_mem); (case h2 => l_ints); (case h3 => assumption); k_whole); intro d9 ws9 n9 h9 tk9 F9 N9 hi9))
local macro_rules | `(tactic| walk_at "call builtin:len") => `(tactic| (k_here; (with_reducible show wpAny _ _ (call (Value.builtin "len") [Value.ref _]) _ _ _); k_dflt (refine' kst_len ?k1 ?k2 ?k3 ?k4 ?_; (case k1 => k_asm); (case k2 => k_mem); (case k3 => exact IntsAre.length (by assumption)); (case k4 => omega); k_whole)))
local macro_rules | `(tactic| walk_at "subscriptTail Name Name ref int") => `(tactic| (k_here; (with_unfolding_all refine' it_at ?k1 ?k2 ?k3 ?k4 ?k5 ?k6 ?_; (case k1 => k_asm); (case k2 => k_mem); (case k3 => l_ints); (case k4 => omega); (case k5 => (try simp only [wts_len]; omega)); (case k6 => (try simp only [wts_len]; omega)); k_whole); intro tBk))
local macro_rules | `(tactic| walk_at "call ref") => `(tactic| (k_here; k_dflt (refine' lost_use ?k1 ?k2 ?k3 ?k4 ?k5 ?kK ?kd ?ku ?h1 ?h2 ?h3 ?_; (case k1 => k_asm); (case k2 => k_asm); (case k3 => k_asm); (case k4 => k_asm); (case k5 => k_asm); (case kK => first | exact rfl | assumption); (case kd => ktr_room); (case ku => ktr_units); (case h1 => k_mem); (case h2 => l_ints); (case h3 => assumption); k_whole); intro t9 h9 tk9 F9 N9))
local macro_rules | `(tactic| walk_at "call ref") => `(tactic| (k_here; k_dflt (refine' alone_use ?k1 ?k2 ?k3 ?k4 ?k5 ?kK ?kd ?ku ?h1 ?h2 ?h3 ?_; (case k1 => k_asm); (case k2 => k_asm); (case k3 => k_asm); (case k4 => k_asm); (case k5 => k_asm); (case kK => first | exact rfl | assumption); (case kd => ktr_room); (case ku => ktr_units); (case h1 => k_mem); (case h2 => l_ints); (case h3 => first | assumption | (simp only [List.length_drop]; omega)); k_whole); intro t9 h9 tk9 F9 N9))
local macro_rules | `(tactic| walk_at "binaryOp Mult str int") => `(tactic| (k_here; k_dflt (refine mul_q (by assumption) ?_); intro tq kq))
local macro_rules | `(tactic| walk_at "call builtin:len") => `(tactic| (k_here; (with_reducible show wpAny _ _ (call (Value.builtin "len") [Value.ref _]) _ _ _); k_dflt (refine' kst_len ?k1 ?k2 ?k3 ?k4 ?_; (case k1 => k_asm); (case k2 => k_mem); (case k3 => first | exact IntsAre.length (by assumption) | exact WordsIn.length (by assumption)); (case k4 => omega); k_whole)))
local macro_rules | `(tactic| kmk_nums) => `(tactic| ((with_reducible refine' kmk_from ?gi ?gx); (case gi => l_ints); (case gx => omega)))
local macro_rules | `(tactic| kmk_nums) => `(tactic| ((with_reducible refine' kmk_upto ?gi ?gx); (case gi => l_ints); (case gx => omega)))
local macro_rules | `(tactic| walk_at "subscriptTail Name Name ref int") => `(tactic| (k_here; (with_unfolding_all refine' it_word ?k1 ?k2 ?k3 ?k4 ?k5 ?k6 ?_; (case k1 => k_asm); (case k2 => k_mem); (case k3 => assumption); (case k4 => omega); (case k5 => omega); (case k6 => omega); k_whole); intro bW tW uW nW mW))
local macro_rules | `(tactic| walk_at "binaryOp Add str str") => `(tactic| (k_here; (with_reducible show wpAny _ _ (binaryOp Operator.Add (Value.str _ _) (Value.str _ _)) _ _ _); refine PyProof.Rows.add_str ?_ (by first | exact add_fits (by assumption) (by assumption) (by decide) | exact add_fits (sml_add (by assumption) (by assumption)) (by assumption) (by decide)); intro tA kA))
local macro_rules | `(tactic| walk_at "inplaceOp Add str str") => `(tactic| (k_here; (with_reducible show wpAny _ _ (inplaceOp Operator.Add (Value.str _ _) (Value.str _ _)) _ _ _); refine PyProof.Rows.iadd_str ?_ (by first | exact add_fits (by assumption) (by assumption) (by decide) | exact add_fits (by assumption) (sml_add (by assumption) (by assumption)) (by decide)); intro tA kA))
theorem told_ok {w : World} {mean : ExcName → Option Value} {mg mb : Str → Option Value} {news : List (Addr × Obj)} (front : Int) (tf : Tok) (lw : Addr) (wv : List Value) (ws : List (Nat × Int)) (nw : Nat) (l : Addr) (vs : List Value) (hs : List Int) (nn : Nat)
    (hmw : (lw, listOf wv.toArray nw) ∈ news) (hw : WordsIn news wv ws) (hwn : ws.length ≤ 5) (hwr : ∀ p ∈ ws, 0 ≤ p.2 ∧ p.2 ≤ 8)
    (hm : (l, listOf vs.toArray nn) ∈ news) (hi : IntsAre vs hs) (hlen : hs.length ≤ 5) (hf0 : 0 ≤ front) (hf1 : front ≤ 1000) :
    Ok w mean mg mb 81 3 [.int front tf, .ref lw, .ref l] news (fun r tl => tl = [] ∧ ∃ z t, r = .str z t ∧ cl z = toldZ front ws hs) := by
  w_top off
  k_with_none
  unfold Ok
  k_fill
  intro dp un gd cn cs a ccd cl' outer A₀ base h₀ L m s Q E B F X N T hk hdp hun hret
  have hwl := wts_len 1 hs
  have hwp := wts_last_pos hs
  have hwq := wts_last_le hlen
  have hlb := lostF_bounds 0 front hs (wts 1 hs)
  have hap := wts_at_pos hs (i := (lostF 0 front hs (wts 1 hs)).toNat) (by omega)
  have haq := wts_at_le (i := (lostF 0 front hs (wts 1 hs)).toNat) hlen (by omega)
  have hrb := restZ_b hs (lostF 0 front hs (wts 1 hs)) hf0 hf1 (by omega)
  have hb1 : Bnd (restZ front hs (lostF 0 front hs (wts 1 hs))) := by unfold Bnd; omega
  have hb2 : Bnd (aloneZ (if (restZ front hs (lostF 0 front hs (wts 1 hs))).fdiv 2 - 1 > 0 then (restZ front hs (lostF 0 front hs (wts 1 hs))).fdiv 2 - 1 else 0) (hs.drop (lostF 0 front hs (wts 1 hs) + 1).toNat)) := by
    have h2 := fdiv_b (b := 2) hrb.1 hrb.2 (by decide)
    have h3 := @aloneZ_b (if (restZ front hs (lostF 0 front hs (wts 1 hs))).fdiv 2 - 1 > 0 then (restZ front hs (lostF 0 front hs (wts 1 hs))).fdiv 2 - 1 else 0) (by split <;> omega) (by split <;> omega) (hs.drop (lostF 0 front hs (wts 1 hs) + 1).toNat)
    unfold Bnd
    omega
  clear hrb
  refine wpAny_call ?_
  k_dflt ktr_enter
  rename Fr _ _ _ _ => F1
  replace F1 := fr_to F1 (m' := fun y => List.lookup y [(Str.ofString "hands", Value.ref l), (Str.ofString "words", Value.ref lw), (Str.ofString "front", Value.int front tf)]) rfl
  repeat' ((fail_if_success (with_reducible show wpAny _ _ (pyIter _) _ _ _)); first | (k_unfold; (try dsimp only)) | walk1 | (dsimp only; walk1) | fail "no step")
  · rename News h₀ L _ _ => N2
    refine hret _ [] _ _ (by assumption) (fun p hp => N2 p (by repeat (first | exact hp | refine List.mem_cons_of_mem _ ?_))) ⟨rfl, _, _, rfl, ?_⟩
    rename lostF 0 front hs (wts 1 hs) < _ => hlt
    rw [cl_sOf, toldZ, if_pos hlt]
    rfl
  · rename Fr _ _ _ _ => F1
    rename News _ _ _ _ => N1
    rename IsRange _ _ _ _ _ _ _ _ => hr
    rename ¬ lostF 0 front hs (wts 1 hs) < _ => hnl
    have hRES : toldZ front ws hs = quotes (restZ front hs (lostF 0 front hs (wts 1 hs))) ++ wordsF ((wts 1 hs).getLastD 0) hs (wts 1 hs) ws := by rw [toldZ, if_neg hnl]
    have hrb := restZ_b hs (lostF 0 front hs (wts 1 hs)) hf0 hf1 (by omega)
    refine for_rangeC (σ := Str × Tok) (fun c => [(Str.ofString "told", .str c.1 c.2)]) [Str.ofString "sign", Str.ofString "run", Str.ofString "last", Str.ofString "left", Str.ofString "number"]
      (fun i c => c.1.length ≤ 2000 + 20 * i ∧ cl c.1 ++ wordsF ((wts 1 hs).getLastD 0) hs (wts 1 hs) (ws.drop i) = toldZ front ws hs) (sOf (quotes (restZ front hs (lostF 0 front hs (wts 1 hs)))), ?tk0) rfl hr (by omega) F1 N1 ?a1 ?a2 ?turn ?done
    case a1 =>
      intro p hp
      rw [List.mem_singleton.mp hp]
      rfl
    case a2 =>
      refine ⟨?_, ?_⟩
      · dsimp only
        rw [sOf_len, quotes_len]; omega
      · rw [hRES]; rfl
    case turn =>
      rintro i ⟨told, tt⟩ u t I it h tk hin ⟨hPl, hP⟩ hlt hic F' N'
      dsimp only at hP hPl
      clear F1 N1 hb1 hb2 hrb hnl hlb hap haq
      simp only [kstB] at F'
      have hrun := hwr (ws.getD i (0, 0)) (by rw [List.getD_eq_getElem?_getD, List.getElem?_eq_getElem hin]; exact List.getElem_mem _)
      have hb3 : Bnd ((ws.getD i (0, 0)).2.fdiv ((wts 1 hs).getLastD 0)) := by
        have h2 := fdiv_b (M := 8) hrun.1 hrun.2 hwp
        unfold Bnd; omega
      have hS1 : Sml 5000 told := by unfold Sml; omega
      have hS2 : Sml 1 (sOf [(ws.getD i (0, 0)).1]) := Nat.le_refl _
      have hS3 : Sml 8 (sOf (quotes ((ws.getD i (0, 0)).2.fdiv ((wts 1 hs).getLastD 0)))) := by
        unfold Sml
        have h2 := fdiv_b (M := 8) hrun.1 hrun.2 hwp
        rw [sOf_len, quotes_len]; omega
      repeat' ((fail_if_success (with_reducible show wpAny _ _ (pyIter _) _ _ _)); first | (k_unfold; (try dsimp only)) | walk1 | (dsimp only; walk1) | fail "no step")
      · rename Fr _ _ _ _ => F2
        rename News _ _ _ _ => N2
        rename IsRange _ _ _ _ _ _ _ _ => hr2
        rename (i : Int) = _ - 1 => hl1
        have hbb : ∃ b : Bool, b = ((i : Int) == (ws.length : Int) - 1) := ⟨_, rfl⟩
        obtain ⟨b, hb⟩ := hbb
        rw [← hb] at F2
        have hbm : b = true ∨ (ws.getD i (0, 0)).2.fmod ((wts 1 hs).getLastD 0) ≠ 0 := .inl (by rw [hb, hl1]; exact beq_self_eq_true _)
        refine for_rangeC (σ := Int × Tok) (fun c => [(Str.ofString "left", .int c.1 c.2)]) [] (fun j c => c.1 ≤ 8 ∧ leftF b (ws.getD i (0, 0)).2 c.1 (hs.drop j) ((wts 1 hs).drop j) = leftF b (ws.getD i (0, 0)).2 (ws.getD i (0, 0)).2 hs (wts 1 hs)) ((ws.getD i (0, 0)).2, ?tkla) rfl hr2 (by omega) F2 N2 ?i1a ?i2a ?iturna ?idonea
        case i1a =>
          intro p hp
          rw [List.mem_singleton.mp hp]
          rfl
        case i2a => exact ⟨hrun.2, rfl⟩
        case iturna =>
          rintro j ⟨left, tl⟩ u' t' I' it' h'' tk'' hjn ⟨hQl, hQ⟩ hlt' hic' F3 N3
          dsimp only at hQ hQl
          clear F2 N2
          simp only [kstB, List.contains_nil, Bool.false_eq_true, if_false] at F3
          have hjp : 0 < (wts 1 hs).getD (Int.toNat (j : Int)) 0 := wts_at_pos hs (by omega)
          have hjq : (wts 1 hs).getD (Int.toNat (j : Int)) 0 ≤ 32 := wts_at_le hlen (by omega)
          repeat' ((fail_if_success (with_reducible show wpAny _ _ (pyIter _) _ _ _)); first | (k_unfold; (try dsimp only)) | walk1 | (dsimp only; walk1) | fail "no step")
          · rename News _ _ _ _ => N4
            rename Fr _ _ _ _ => F4
            refine FEnd.intro (left - (wts 1 hs).getD j 0, ?xa1) F4 N4 List.mem_cons_self (fun p hp => List.mem_cons_of_mem _ hp) ?ua1 ?va1 ⟨Int.le_trans (Int.sub_le_self left (Int.le_of_lt hjp)) hQl, leftF_step hQ (by omega) ?wa1⟩
            case ua1 => intro p hp; rw [List.mem_singleton.mp hp]; rfl
            case va1 =>
              intro z h1 h2 h3
              have h2 : z ≠ Str.ofString "left" := h2 _ (List.mem_singleton.mpr rfl)
              simp only [h1, h2, if_false]
            case wa1 => exact (if_pos ⟨by assumption, .inl (by assumption)⟩).symm
          · rename News _ _ _ _ => N4
            rename Fr _ _ _ _ => F4
            refine FEnd.intro (left - (wts 1 hs).getD j 0, ?xa2) F4 N4 List.mem_cons_self (fun p hp => List.mem_cons_of_mem _ hp) ?ua2 ?va2 ⟨Int.le_trans (Int.sub_le_self left (Int.le_of_lt hjp)) hQl, leftF_step hQ (by omega) ?wa2⟩
            case ua2 => intro p hp; rw [List.mem_singleton.mp hp]; rfl
            case va2 =>
              intro z h1 h2 h3
              have h2 : z ≠ Str.ofString "left" := h2 _ (List.mem_singleton.mpr rfl)
              simp only [h1, h2, if_false]
            case wa2 => exact (if_pos ⟨by assumption, .inr (by assumption)⟩).symm
          · rename News _ _ _ _ => N4
            rename Fr _ _ _ _ => F4
            refine FEnd.intro (left, tl) F4 N4 List.mem_cons_self (fun p hp => List.mem_cons_of_mem _ hp) ?ua3 ?va3 ⟨hQl, leftF_step hQ (by omega) ?wa3⟩
            case ua3 => intro p hp; rw [List.mem_singleton.mp hp]; rfl
            case va3 =>
              intro z h1 h2 h3
              have h2 : z ≠ Str.ofString "left" := h2 _ (List.mem_singleton.mpr rfl)
              simp only [h1, h2, if_false]
            case wa3 => exact (if_neg (fun hc => hc.2.elim (fun q => absurd (q.symm.trans (by assumption : b = false)) (by decide)) (fun q => q (by assumption)))).symm
          · rename News _ _ _ _ => N4
            rename Fr _ _ _ _ => F4
            refine FEnd.intro (left, tl) F4 N4 List.mem_cons_self (fun p hp => List.mem_cons_of_mem _ hp) ?ua4 ?va4 ⟨hQl, leftF_step hQ (by omega) ?wa4⟩
            case ua4 => intro p hp; rw [List.mem_singleton.mp hp]; rfl
            case va4 =>
              intro z h1 h2 h3
              have h2 : z ≠ Str.ofString "left" := h2 _ (List.mem_singleton.mpr rfl)
              simp only [h1, h2, if_false]
            case wa4 => exact (if_neg (fun hc => absurd hc.1 (by assumption))).symm
        case idonea =>
          rintro ⟨left, tl⟩ u' h'' tk'' ⟨hQl, hQ⟩ F3 N3
          dsimp only at hQ hQl
          clear F2 N2
          simp only [kstB, List.contains_nil, Bool.false_eq_true, if_false] at F3
          rw [List.drop_length, leftF_nil] at hQ
          have hfb := fdiv_b (a := if left > 0 then left else 0) (M := 8) (by split <;> omega) (by split <;> omega) hwp
          have hb4 : Bnd ((if left > 0 then left else 0).fdiv ((wts 1 hs).getLastD 0)) := by unfold Bnd; omega
          have hS4 : Sml 8 (sOf (quotes ((if left > 0 then left else 0).fdiv ((wts 1 hs).getLastD 0)))) := by
            unfold Sml
            rw [sOf_len, quotes_len]; omega
          clear hfb
          repeat' ((fail_if_success (with_reducible show wpAny _ _ (pyIter _) _ _ _)); first | (k_unfold; (try dsimp only)) | walk1 | (dsimp only; walk1) | fail "no step")
          rename News h₀ L _ _ => N4
          exact hret _ [] _ _ (by assumption) (fun p hp => N4 p (by repeat (first | exact hp | refine List.mem_cons_of_mem _ ?_))) ⟨rfl, _, _, rfl, words_last hP hin hb hbm hQ⟩
      · rename Fr _ _ _ _ => F2
        rename News _ _ _ _ => N2
        rename IsRange _ _ _ _ _ _ _ _ => hr2
        rename Int.fmod _ _ ≠ 0 => hl1
        have hbb : ∃ b : Bool, b = ((i : Int) == (ws.length : Int) - 1) := ⟨_, rfl⟩
        obtain ⟨b, hb⟩ := hbb
        rw [← hb] at F2
        have hbm : b = true ∨ (ws.getD i (0, 0)).2.fmod ((wts 1 hs).getLastD 0) ≠ 0 := .inr hl1
        refine for_rangeC (σ := Int × Tok) (fun c => [(Str.ofString "left", .int c.1 c.2)]) [] (fun j c => c.1 ≤ 8 ∧ leftF b (ws.getD i (0, 0)).2 c.1 (hs.drop j) ((wts 1 hs).drop j) = leftF b (ws.getD i (0, 0)).2 (ws.getD i (0, 0)).2 hs (wts 1 hs)) ((ws.getD i (0, 0)).2, ?tklb) rfl hr2 (by omega) F2 N2 ?i1b ?i2b ?iturnb ?idoneb
        case i1b =>
          intro p hp
          rw [List.mem_singleton.mp hp]
          rfl
        case i2b => exact ⟨hrun.2, rfl⟩
        case iturnb =>
          rintro j ⟨left, tl⟩ u' t' I' it' h'' tk'' hjn ⟨hQl, hQ⟩ hlt' hic' F3 N3
          dsimp only at hQ hQl
          clear F2 N2
          simp only [kstB, List.contains_nil, Bool.false_eq_true, if_false] at F3
          have hjp : 0 < (wts 1 hs).getD (Int.toNat (j : Int)) 0 := wts_at_pos hs (by omega)
          have hjq : (wts 1 hs).getD (Int.toNat (j : Int)) 0 ≤ 32 := wts_at_le hlen (by omega)
          repeat' ((fail_if_success (with_reducible show wpAny _ _ (pyIter _) _ _ _)); first | (k_unfold; (try dsimp only)) | walk1 | (dsimp only; walk1) | fail "no step")
          · rename News _ _ _ _ => N4
            rename Fr _ _ _ _ => F4
            refine FEnd.intro (left - (wts 1 hs).getD j 0, ?xb1) F4 N4 List.mem_cons_self (fun p hp => List.mem_cons_of_mem _ hp) ?ub1 ?vb1 ⟨Int.le_trans (Int.sub_le_self left (Int.le_of_lt hjp)) hQl, leftF_step hQ (by omega) ?wb1⟩
            case ub1 => intro p hp; rw [List.mem_singleton.mp hp]; rfl
            case vb1 =>
              intro z h1 h2 h3
              have h2 : z ≠ Str.ofString "left" := h2 _ (List.mem_singleton.mpr rfl)
              simp only [h1, h2, if_false]
            case wb1 => exact (if_pos ⟨by assumption, .inl (by assumption)⟩).symm
          · rename News _ _ _ _ => N4
            rename Fr _ _ _ _ => F4
            refine FEnd.intro (left - (wts 1 hs).getD j 0, ?xb2) F4 N4 List.mem_cons_self (fun p hp => List.mem_cons_of_mem _ hp) ?ub2 ?vb2 ⟨Int.le_trans (Int.sub_le_self left (Int.le_of_lt hjp)) hQl, leftF_step hQ (by omega) ?wb2⟩
            case ub2 => intro p hp; rw [List.mem_singleton.mp hp]; rfl
            case vb2 =>
              intro z h1 h2 h3
              have h2 : z ≠ Str.ofString "left" := h2 _ (List.mem_singleton.mpr rfl)
              simp only [h1, h2, if_false]
            case wb2 => exact (if_pos ⟨by assumption, .inr (by assumption)⟩).symm
          · rename News _ _ _ _ => N4
            rename Fr _ _ _ _ => F4
            refine FEnd.intro (left, tl) F4 N4 List.mem_cons_self (fun p hp => List.mem_cons_of_mem _ hp) ?ub3 ?vb3 ⟨hQl, leftF_step hQ (by omega) ?wb3⟩
            case ub3 => intro p hp; rw [List.mem_singleton.mp hp]; rfl
            case vb3 =>
              intro z h1 h2 h3
              have h2 : z ≠ Str.ofString "left" := h2 _ (List.mem_singleton.mpr rfl)
              simp only [h1, h2, if_false]
            case wb3 => exact (if_neg (fun hc => hc.2.elim (fun q => absurd (q.symm.trans (by assumption : b = false)) (by decide)) (fun q => q (by assumption)))).symm
          · rename News _ _ _ _ => N4
            rename Fr _ _ _ _ => F4
            refine FEnd.intro (left, tl) F4 N4 List.mem_cons_self (fun p hp => List.mem_cons_of_mem _ hp) ?ub4 ?vb4 ⟨hQl, leftF_step hQ (by omega) ?wb4⟩
            case ub4 => intro p hp; rw [List.mem_singleton.mp hp]; rfl
            case vb4 =>
              intro z h1 h2 h3
              have h2 : z ≠ Str.ofString "left" := h2 _ (List.mem_singleton.mpr rfl)
              simp only [h1, h2, if_false]
            case wb4 => exact (if_neg (fun hc => absurd hc.1 (by assumption))).symm
        case idoneb =>
          rintro ⟨left, tl⟩ u' h'' tk'' ⟨hQl, hQ⟩ F3 N3
          dsimp only at hQ hQl
          clear F2 N2
          simp only [kstB, List.contains_nil, Bool.false_eq_true, if_false] at F3
          rw [List.drop_length, leftF_nil] at hQ
          have hfb := fdiv_b (a := if left > 0 then left else 0) (M := 8) (by split <;> omega) (by split <;> omega) hwp
          have hb4 : Bnd ((if left > 0 then left else 0).fdiv ((wts 1 hs).getLastD 0)) := by unfold Bnd; omega
          have hS4 : Sml 8 (sOf (quotes ((if left > 0 then left else 0).fdiv ((wts 1 hs).getLastD 0)))) := by
            unfold Sml
            rw [sOf_len, quotes_len]; omega
          clear hfb
          repeat' ((fail_if_success (with_reducible show wpAny _ _ (pyIter _) _ _ _)); first | (k_unfold; (try dsimp only)) | walk1 | (dsimp only; walk1) | fail "no step")
          rename News h₀ L _ _ => N4
          exact hret _ [] _ _ (by assumption) (fun p hp => N4 p (by repeat (first | exact hp | refine List.mem_cons_of_mem _ ?_))) ⟨rfl, _, _, rfl, words_last hP hin hb hbm hQ⟩
      · rename News _ _ _ _ => N2
        rename Fr _ _ _ _ => F2
        rename (_ : Int) ≠ _ - 1 => hnl
        rename Int.fmod _ _ = 0 => hm0
        refine FEnd.intro (?s9, ?t9) F2 N2 List.mem_cons_self (fun p hp => List.mem_cons_of_mem _ hp) ?b1 ?b2 ⟨?b3, ?b4⟩
        case b1 => intro p hp; rw [List.mem_singleton.mp hp]; rfl
        case b2 =>
          intro z h1 h2 h3
          have h2 : z ≠ Str.ofString "told" := h2 _ (List.mem_singleton.mpr rfl)
          have h4 := h3
          simp only [List.contains_cons, List.contains_nil, Bool.or_false, Bool.or_eq_false_iff, beq_eq_false_iff_ne, ne_eq] at h4
          obtain ⟨q1, q2, q3, q4, q5⟩ := h4
          simp only [h1, h2, h3, q1, q2, q3, q4, q5, Bool.false_eq_true, if_false]
        case b3 =>
          dsimp only
          rw [Str.length_append, Str.length_append]
          unfold Sml at hS2 hS3
          have e2 : (sOf [(ws.getD (Int.toNat (i : Int)) (0, 0)).1]).length ≤ 1 := hS2
          have e3 : (sOf (quotes ((ws.getD (Int.toNat (i : Int)) (0, 0)).2.fdiv ((wts 1 hs).getLastD 0)))).length ≤ 8 := hS3
          omega
        case b4 => exact words_next hP hin hnl hm0
    case done =>
      rintro ⟨told, tt⟩ u h tk ⟨hPl, hP⟩ F' N'
      dsimp only at hP hPl
      clear F1 N1 hb1 hb2 hrb hnl hlb hap haq
      simp only [kstB] at F'
      rw [List.drop_length, wordsF, List.append_nil] at hP
      repeat' ((fail_if_success (with_reducible show wpAny _ _ (pyIter _) _ _ _)); first | (k_unfold; (try dsimp only)) | walk1 | (dsimp only; walk1) | fail "no step")
      rename News h₀ L _ _ => N2
      exact hret _ [] _ _ (by assumption) (fun p hp => N2 p (by repeat (first | exact hp | refine List.mem_cons_of_mem _ ?_))) ⟨rfl, _, _, rfl, hP⟩
end Mine
namespace Mine
/-! the plain law: what a hand makes of what is told -/
def step (h : Int) (l : List Nat) : List Nat := if h = 0 then parseL l else stripL l

/-! quotes -/
theorem quotes_succ {n : Int} (h : 0 ≤ n) : quotes (n + 1) = 34 :: quotes n := by
  rw [quotes, quotes, show (n + 1).toNat = n.toNat + 1 by omega, List.replicate_succ]
theorem quotes_snoc {n : Int} (h : 0 ≤ n) : quotes (n + 1) = quotes n ++ [34] := by
  rw [quotes, quotes, show (n + 1).toNat = n.toNat + 1 by omega, List.replicate_succ']
theorem quotes_zero {n : Int} (h : n ≤ 0) : quotes n = [] := by rw [quotes, show n.toNat = 0 by omega]; rfl
theorem quotes_cases {n : Int} (h : 0 < n) : ∃ k, n = k + 1 ∧ 0 ≤ k := ⟨n - 1, by omega, by omega⟩

/-! parse over quotes: r behind begins with no quote -/
theorem parseQ_pairs : ∀ (k : Nat) (r : List Nat), parseQ (List.replicate (2 * k) 34 ++ r) = List.replicate k 34 ++ parseQ r
  | 0, r => rfl
  | k + 1, r => by
    show parseQ (List.replicate (2 * k + 1 + 1) 34 ++ r) = _
    rw [List.replicate_succ, List.replicate_succ, List.cons_append, List.cons_append, parseQ_two, parseQ_pairs k r, List.replicate_succ, List.cons_append]
theorem parseQ_odd (k : Nat) {r : List Nat} (hr : r.head? ≠ some 34) : parseQ (List.replicate (2 * k + 1) 34 ++ r) = List.replicate k 34 := by
  rw [List.replicate_succ', List.append_assoc, parseQ_pairs]
  cases r with
  | nil => show _ ++ parseQ [34] = _; rw [parseQ_one, List.append_nil]
  | cons d r =>
    have hd : d ≠ 34 := fun q => hr (by rw [q]; rfl)
    show _ ++ parseQ (34 :: d :: r) = _
    rw [parseQ_stop hd, List.append_nil]

/-! alone -/
theorem step_alone (h : Int) (hh : h = 0 ∨ h = 1) {c : Int} (hc : 0 ≤ c) : step h (quotes c) = quotes (if h = 0 then (c - 1) / 2 else c - 2) := by
  rcases hh with rfl | rfl
  · rw [step, if_pos rfl, if_pos rfl]
    rcases Int.lt_or_le 0 c with h0 | h0
    · obtain ⟨k, rfl, hk⟩ := quotes_cases h0
      rw [quotes_succ hk]
      show (if (34 : Nat) = 34 then parseQ (quotes k) else []) = _
      rw [if_pos rfl]
      rcases Nat.mod_two_eq_zero_or_one k.toNat with e | e
      · have e2 : k.toNat = 2 * (k.toNat / 2) := by omega
        have := parseQ_pairs (k.toNat / 2) []
        rw [List.append_nil, ← e2] at this
        rw [quotes, this, quotes, parseQ, List.append_nil]
        congr 1
        omega
      · have e2 : k.toNat = 2 * (k.toNat / 2) + 1 := by omega
        have := parseQ_odd (k.toNat / 2) (r := []) (by simp)
        rw [List.append_nil, ← e2] at this
        rw [quotes, this, quotes]
        congr 1
        omega
    · rw [quotes_zero h0, quotes_zero (by omega)]; rfl
  · rw [step, if_neg (by decide), if_neg (by decide)]
    rcases Int.lt_or_le 1 c with h0 | h0
    · obtain ⟨k, rfl, hk⟩ : ∃ k, c = k + 1 + 1 ∧ 0 ≤ k := ⟨c - 2, by omega, by omega⟩
      rw [show k + 1 + 1 - 2 = k by omega, quotes_succ (by omega), quotes_snoc hk, stripL]
      simp
    · rcases Int.lt_or_le 0 c with h1 | h1
      · have : c = 1 := by omega
        subst this
        rfl
      · rw [quotes_zero h1, quotes_zero (by omega)]; rfl

/-! one hand more -/
theorem last_cons {a b : Int} {l : List Int} : (a :: b :: l).getLastD 0 = (b :: l).getLastD 0 := by
  simp [List.getLastD_eq_getLast?]
theorem aleft_snoc (h x : Int) : ∀ (l : Int) (hs wl : List Int), wl.length = hs.length + 1 →
    aleft l (hs ++ [h]) (wl ++ [x]) = if h = 1 then aleft l hs wl - 2 * wl.getLastD 0 else aleft l hs wl
  | l, [], [a], _ => by
    show aleft (if h = 1 then l - 2 * a else l) [] [x] = _
    rw [aleft_nil, aleft_nil]; rfl
  | l, [], [], hl => by simp at hl
  | l, [], _ :: _ :: _, hl => by simp at hl
  | l, g :: hs, [], hl => by simp at hl
  | l, g :: hs, [a], hl => by simp at hl
  | l, g :: hs, a :: b :: wl, hl => by
    have ih := aleft_snoc h x (if g = 1 then l - 2 * a else l) hs (b :: wl) (by simpa using hl)
    show aleft (if g = 1 then l - 2 * a else l) (hs ++ [h]) ((b :: wl) ++ [x]) = _
    rw [ih, last_cons]
    rfl
theorem leftF_snoc (b : Bool) (r h x : Int) : ∀ (l : Int) (hs wl : List Int), wl.length = hs.length + 1 →
    leftF b r l (hs ++ [h]) (wl ++ [x]) = if h = 1 ∧ (b = true ∨ r.fmod (wl.getLastD 0) ≠ 0) then leftF b r l hs wl - wl.getLastD 0 else leftF b r l hs wl
  | l, [], [a], _ => by
    show leftF b r (if h = 1 ∧ (b = true ∨ r.fmod a ≠ 0) then l - a else l) [] [x] = _
    rw [leftF_nil, leftF_nil]; rfl
  | l, [], [], hl => by simp at hl
  | l, [], _ :: _ :: _, hl => by simp at hl
  | l, g :: hs, [], hl => by simp at hl
  | l, g :: hs, [a], hl => by simp at hl
  | l, g :: hs, a :: c :: wl, hl => by
    have ih := leftF_snoc b r h x (if g = 1 ∧ (b = true ∨ r.fmod a ≠ 0) then l - a else l) hs (c :: wl) (by simpa using hl)
    show leftF b r (if g = 1 ∧ (b = true ∨ r.fmod a ≠ 0) then l - a else l) (hs ++ [h]) ((c :: wl) ++ [x]) = _
    rw [ih, last_cons]
    rfl
theorem lostF_snoc (h x : Int) : ∀ (i r : Int) (hs wl : List Int), wl.length = hs.length + 1 →
    lostF i r (hs ++ [h]) (wl ++ [x]) = if lostF i r hs wl < i + hs.length then lostF i r hs wl
      else if h = 0 ∧ (r - (wl.take hs.length).sum ≤ 0 ∨ ((r - (wl.take hs.length).sum).fdiv (wl.getLastD 0)).fmod 2 = 0) then i + hs.length else i + hs.length + 1
  | i, r, [], [a], _ => by
    show (if h = 0 ∧ (r ≤ 0 ∨ (r.fdiv a).fmod 2 = 0) then i else lostF (i + 1) (r - a) [] [x]) = _
    have h1 : ¬ (i < i + (([] : List Int).length : Int)) := by simp
    rw [lostF_nil, lostF_nil, if_neg h1]
    simp
  | i, r, [], [], hl => by simp at hl
  | i, r, [], _ :: _ :: _, hl => by simp at hl
  | i, r, g :: hs, [], hl => by simp at hl
  | i, r, g :: hs, [a], hl => by simp at hl
  | i, r, g :: hs, a :: b :: wl, hl => by
    have ih := lostF_snoc h x (i + 1) (r - a) hs (b :: wl) (by simpa using hl)
    show (if g = 0 ∧ (r ≤ 0 ∨ (r.fdiv a).fmod 2 = 0) then i else lostF (i + 1) (r - a) (hs ++ [h]) ((b :: wl) ++ [x])) = _
    rw [ih, last_cons]
    show _ = if (if g = 0 ∧ (r ≤ 0 ∨ (r.fdiv a).fmod 2 = 0) then i else lostF (i + 1) (r - a) hs (b :: wl)) < i + ((hs.length + 1 : Nat) : Int) then _ else _
    by_cases hc : g = 0 ∧ (r ≤ 0 ∨ (r.fdiv a).fmod 2 = 0)
    · rw [if_pos hc, if_pos hc, if_pos (by omega)]
      show i = if _ then _ else _
      rw [if_pos hc]
    · rw [if_neg hc, if_neg hc]
      have e : lostF i r (g :: hs) (a :: b :: wl) = lostF (i + 1) (r - a) hs (b :: wl) := by
        show (if _ then _ else _) = _
        rw [if_neg hc]
      rw [e]
      have e2 : r - ((a :: b :: wl).take (g :: hs).length).sum = r - a - ((b :: wl).take hs.length).sum := by
        rw [List.length_cons, List.take_succ_cons, List.sum_cons]; omega
      rw [e2]
      have e3 : i + ((g :: hs).length : Int) = i + 1 + (hs.length : Int) := by rw [List.length_cons]; omega
      rw [e3, show i + ((hs.length + 1 : Nat) : Int) = i + 1 + (hs.length : Int) by omega]

theorem quotes_eq {a b : Int} (h : a.toNat = b.toNat) : quotes a = quotes b := by rw [quotes, quotes, h]
theorem last_snoc (l : List Int) (a : Int) : (l ++ [a]).getLastD 0 = a := by simp [List.getLastD_eq_getLast?]
theorem alone_snoc {c : Int} (ks : List Int) (h : Int) (hh : h = 0 ∨ h = 1) : step h (quotes (aloneZ c ks)) = quotes (aloneZ c (ks ++ [h])) := by
  have hW := wts_last_pos ks
  have hl := wts_len 1 ks
  have hc0 : 0 ≤ aloneZ c ks := by unfold aloneZ; split <;> omega
  rw [step_alone h hh hc0]
  refine quotes_eq ?_
  unfold aloneZ
  rw [wts_snoc, aleft_snoc _ _ _ _ _ hl, last_snoc]
  revert hW
  generalize aleft (c + 1) ks (wts 1 ks) = A
  generalize (wts 1 ks).getLastD 0 = W
  intro hW
  rcases hh with rfl | rfl
  · simp only [if_true, show ((0 : Int) = 1) = False by simp, if_false]
    rw [Int.fdiv_eq_ediv_of_nonneg _ (Int.le_of_lt hW), Int.fdiv_eq_ediv_of_nonneg _ (show 0 ≤ W * 2 by omega), ← Int.ediv_ediv_of_nonneg (Int.le_of_lt hW)]
    generalize A / W = x
    split <;> split <;> omega
  · simp only [show ((1 : Int) = 0) = False by simp, if_true, if_false]
    rw [Int.fdiv_eq_ediv_of_nonneg _ (Int.le_of_lt hW), Int.fdiv_eq_ediv_of_nonneg _ (Int.le_of_lt hW)]
    have e : (A - 2 * W) / W = A / W - 2 := by
      rw [show A - 2 * W = A + (-2) * W by omega, Int.add_mul_ediv_right _ _ (by omega)]
      omega
    rw [e]
    generalize A / W = x
    split <;> split <;> omega

/-! the words -/
def max0 (a : Int) : Int := if a > 0 then a else 0
theorem max0_nonneg (a : Int) : 0 ≤ max0 a := by unfold max0; split <;> omega
theorem max0_le {a M : Int} (h : a ≤ M) (hM : 0 ≤ M) : max0 a ≤ M := by unfold max0; split <;> omega
def stripE (l : List Nat) : List Nat := if l.getLast? = some 34 then l.dropLast else l
theorem stripE_append (a : List Nat) {t : List Nat} (ht : t ≠ []) : stripE (a ++ t) = a ++ stripE t := by
  obtain ⟨r, c, rfl⟩ : ∃ r c, t = r ++ [c] := by
    rcases List.eq_nil_or_concat t with rfl | ⟨r, c, rfl⟩
    · exact absurd rfl ht
    · exact ⟨r, c, by rw [List.concat_eq_append]⟩
  unfold stripE
  rw [← List.append_assoc, List.getLast?_concat, List.getLast?_concat, List.dropLast_concat, List.dropLast_concat]
  split <;> simp
theorem stripE_one {s : Nat} (hs : s ≠ 34) {k : Int} (hk : 0 ≤ k) : stripE (s :: quotes k) = s :: quotes (k - 1) := by
  rcases Int.lt_or_le 0 k with h0 | h0
  · obtain ⟨j, rfl, hj⟩ := quotes_cases h0
    rw [quotes_snoc hj, show j + 1 - 1 = j by omega]
    show stripE ((s :: quotes j) ++ [34]) = _
    unfold stripE
    rw [List.getLast?_concat, if_pos rfl, List.dropLast_concat]
  · rw [quotes_zero h0, quotes_zero (by omega)]
    unfold stripE
    rw [if_neg (by simpa using hs)]
theorem parseQ_quotes {k : Int} (hk : 0 ≤ k) : parseQ (quotes k) = quotes (k / 2) := by
  rcases Nat.mod_two_eq_zero_or_one k.toNat with e | e
  · have e2 : k.toNat = 2 * (k.toNat / 2) := by omega
    have := parseQ_pairs (k.toNat / 2) []
    rw [List.append_nil, ← e2] at this
    rw [quotes, this, quotes, parseQ, List.append_nil]
    congr 1
    omega
  · have e2 : k.toNat = 2 * (k.toNat / 2) + 1 := by omega
    have := parseQ_odd (k.toNat / 2) (r := []) (by simp)
    rw [List.append_nil, ← e2] at this
    rw [quotes, this, quotes]
    congr 1
    omega
theorem parseQ_even {k : Int} (hk : 0 ≤ k) (t : List Nat) : parseQ (quotes (2 * k) ++ t) = quotes k ++ parseQ t := by
  rw [quotes, quotes, show (2 * k).toNat = 2 * k.toNat by omega, parseQ_pairs]
theorem parseQ_odd' {k : Int} (hk : 0 ≤ k) {t : List Nat} (ht : t.head? ≠ some 34) : parseQ (quotes (2 * k + 1) ++ t) = quotes k := by
  rw [quotes, quotes, show (2 * k + 1).toNat = 2 * k.toNat + 1 by omega, parseQ_odd _ ht]
theorem leftF_div (r : Int) : ∀ (l : Int) (hs wl : List Int), (∀ w ∈ wl, r.fmod w = 0) → leftF false r l hs wl = l
  | l, [], wl, _ => leftF_nil _ _ _ _
  | l, h :: hs, [], _ => rfl
  | l, h :: hs, w :: wl, hd => by
    show leftF false r (if h = 1 ∧ (false = true ∨ r.fmod w ≠ 0) then l - w else l) hs wl = l
    rw [if_neg (fun q => q.2.elim (fun e => by cases e) fun e => e (hd w List.mem_cons_self))]
    exact leftF_div r l hs wl fun x hx => hd x (List.mem_cons_of_mem _ hx)
theorem wordsF_head {W : Int} {hs wl : List Int} {ws : List (Nat × Int)} (hne : ws ≠ []) (hsg : ∀ p ∈ ws, p.1 ≠ 34) : wordsF W hs wl ws ≠ [] ∧ (wordsF W hs wl ws).head? ≠ some 34 := by
  cases ws with
  | nil => exact absurd rfl hne
  | cons p ws =>
    obtain ⟨s, r⟩ := p
    have := hsg (s, r) List.mem_cons_self
    rw [wordsF]
    split
    · exact ⟨by simp, by simpa using this⟩
    · exact ⟨by simp, by simpa using this⟩
theorem wordsF_cons (W : Int) (hs wl : List Int) (s : Nat) (r : Int) (ws : List (Nat × Int)) : wordsF W hs wl ((s, r) :: ws) =
    if ws = [] ∨ r.fmod W ≠ 0 then s :: quotes ((max0 (leftF ws.isEmpty r r hs wl)).fdiv W) else s :: (quotes (r.fdiv W) ++ wordsF W hs wl ws) := rfl
theorem dvd_of_fmod {a b : Int} (hb : 0 < b) : a.fmod b = 0 ↔ a % b = 0 := by rw [Int.fmod_eq_emod_of_nonneg _ (Int.le_of_lt hb)]

theorem words_strip {W x : Int} {hs wl : List Int} (hW : 0 < W) (hlast : wl.getLastD 0 = W) (hl : wl.length = hs.length + 1) : ∀ (ws : List (Nat × Int)), ws ≠ [] → (∀ p ∈ ws, p.1 ≠ 34) →
    stripE (wordsF W hs wl ws) = wordsF W (hs ++ [1]) (wl ++ [x]) ws
  | [], hne, _ => absurd rfl hne
  | (s, r) :: ws, _, hsg => by
    have hs34 : s ≠ 34 := hsg (s, r) List.mem_cons_self
    rw [wordsF_cons, wordsF_cons]
    by_cases hc : ws = [] ∨ r.fmod W ≠ 0
    · rw [if_pos hc, if_pos hc, leftF_snoc _ _ _ _ _ _ _ hl, hlast]
      have hc2 : (1 : Int) = 1 ∧ (ws.isEmpty = true ∨ r.fmod W ≠ 0) := ⟨rfl, hc.imp (fun q => by rw [q]; rfl) id⟩
      rw [if_pos hc2]
      generalize leftF ws.isEmpty r r hs wl = left
      rw [Int.fdiv_eq_ediv_of_nonneg _ (Int.le_of_lt hW), Int.fdiv_eq_ediv_of_nonneg _ (Int.le_of_lt hW), stripE_one hs34 (Int.ediv_nonneg (max0_nonneg _) (Int.le_of_lt hW))]
      congr 1
      refine quotes_eq ?_
      unfold max0
      rcases Int.lt_or_le left W with h | h
      · have e1 : (if left > 0 then left else 0) / W = 0 := Int.ediv_eq_zero_of_lt (by split <;> omega) (by split <;> omega)
        have e2 : (if left - W > 0 then left - W else 0) = 0 := if_neg (by omega)
        rw [e1, e2, Int.zero_ediv]; rfl
      · have e1 : (if left > 0 then left else 0) = left := if_pos (by omega)
        have e2 : (if left - W > 0 then left - W else 0) = left - W := by split <;> omega
        have e3 : (left - W) / W = left / W - 1 := by
          rw [show left - W = left + (-1) * W by omega, Int.add_mul_ediv_right _ _ (by omega)]; omega
        rw [e1, e2, e3]
    · rw [if_neg hc, if_neg hc]
      have hne : ws ≠ [] := fun q => hc (.inl q)
      have hsg' : ∀ p ∈ ws, p.1 ≠ 34 := fun p hp => hsg p (List.mem_cons_of_mem _ hp)
      have ih := words_strip (x := x) hW hlast hl ws hne hsg'
      rw [← List.cons_append, stripE_append _ (wordsF_head hne hsg').1, ih, List.cons_append]

theorem words_parse {W x : Int} {hs wl : List Int} (hW : 0 < W) (hdv : ∀ w ∈ wl, 0 < w ∧ w ∣ W) (hl : wl.length = hs.length + 1) : ∀ (ws : List (Nat × Int)), ws ≠ [] → (∀ p ∈ ws, p.1 ≠ 34 ∧ 0 ≤ p.2) →
    parseQ (wordsF W hs wl ws) = wordsF (W * 2) (hs ++ [0]) (wl ++ [x]) ws
  | [], hne, _ => absurd rfl hne
  | (s, r) :: ws, _, hsg => by
    have hs34 : s ≠ 34 := (hsg (s, r) List.mem_cons_self).1
    have hr0 : 0 ≤ r := (hsg (s, r) List.mem_cons_self).2
    have hW2 : 0 < W * 2 := by omega
    have hsn : ∀ b, leftF b r r (hs ++ [0]) (wl ++ [x]) = leftF b r r hs wl := fun b => by rw [leftF_snoc _ _ _ _ _ _ _ hl, if_neg (by simp)]
    rw [wordsF_cons, wordsF_cons, hsn]
    by_cases hc : ws = [] ∨ r.fmod W ≠ 0
    · have hc2 : ws = [] ∨ r.fmod (W * 2) ≠ 0 := hc.imp id fun q e => q (by
        rw [dvd_of_fmod hW2] at e
        rw [dvd_of_fmod hW]
        exact Int.emod_eq_zero_of_dvd (Int.dvd_trans (Int.dvd_mul_right W 2) (Int.dvd_of_emod_eq_zero e)))
      rw [if_pos hc, if_pos hc2, parseQ_ne hs34, Int.fdiv_eq_ediv_of_nonneg _ (Int.le_of_lt hW), Int.fdiv_eq_ediv_of_nonneg _ (Int.le_of_lt hW2), parseQ_quotes (Int.ediv_nonneg (max0_nonneg _) (Int.le_of_lt hW)), ← Int.ediv_ediv_of_nonneg (Int.le_of_lt hW)]
    · have hne : ws ≠ [] := fun q => hc (.inl q)
      have hm : r % W = 0 := by
        have : r.fmod W = 0 := Classical.byContradiction fun q => hc (.inr q)
        exact (dvd_of_fmod hW).mp this
      have hsg' : ∀ p ∈ ws, p.1 ≠ 34 ∧ 0 ≤ p.2 := fun p hp => hsg p (List.mem_cons_of_mem _ hp)
      have hhd := wordsF_head (W := W) (hs := hs) (wl := wl) hne fun p hp => (hsg' p hp).1
      have ih := words_parse (x := x) hW hdv hl ws hne hsg'
      have hq : 0 ≤ r / W := Int.ediv_nonneg hr0 (Int.le_of_lt hW)
      have hrW : r = W * (r / W) := by have := Int.emod_add_mul_ediv r W; omega
      rw [if_neg hc, parseQ_ne hs34, Int.fdiv_eq_ediv_of_nonneg _ (Int.le_of_lt hW), Int.fdiv_eq_ediv_of_nonneg _ (Int.le_of_lt hW2), Int.fdiv_eq_ediv_of_nonneg _ (Int.le_of_lt hW2), ← Int.ediv_ediv_of_nonneg (Int.le_of_lt hW), ← Int.ediv_ediv_of_nonneg (Int.le_of_lt hW)]
      rcases (by omega : r / W % 2 = 0 ∨ r / W % 2 = 1) with e | e
      · have hk : r / W = 2 * (r / W / 2) := by omega
        have hc2 : ¬ (ws = [] ∨ r.fmod (W * 2) ≠ 0) := by
          rintro (q | q)
          · exact hne q
          · refine q ((dvd_of_fmod hW2).mpr (Int.emod_eq_zero_of_dvd ⟨r / W / 2, ?_⟩))
            rw [Int.mul_assoc, ← hk]; exact hrW
        rw [if_neg hc2]
        conv => lhs; rw [hk]
        rw [parseQ_even (by omega), ih]
      · have hk : r / W = 2 * (r / W / 2) + 1 := by omega
        have hc2 : ws = [] ∨ r.fmod (W * 2) ≠ 0 := by
          refine .inr fun q => ?_
          obtain ⟨k, hk2⟩ := Int.dvd_of_emod_eq_zero ((dvd_of_fmod hW2).mp q)
          have : r / W = 2 * k := by rw [hk2, Int.mul_assoc, Int.mul_ediv_cancel_left _ (by omega)]
          omega
        have hie : ws.isEmpty = false := by cases ws with
          | nil => exact absurd rfl hne
          | cons _ _ => rfl
        rw [if_pos hc2, hie, leftF_div r r hs wl fun w hw => (dvd_of_fmod (hdv w hw).1).mpr (Int.emod_eq_zero_of_dvd (Int.dvd_trans (hdv w hw).2 (Int.dvd_of_emod_eq_zero hm)))]
        conv => lhs; rw [hk]
        rw [parseQ_odd' (by omega) hhd.2]
        have : max0 r = r := by unfold max0; split <;> omega
        rw [this]

theorem wts_mem_head (w : Int) (hs : List Int) : w ∈ wts w hs := by cases hs <;> exact List.mem_cons_self
theorem wts_dvd : ∀ (w : Int) (hs : List Int), ∀ x ∈ wts w hs, x ∣ (wts w hs).getLastD 0
  | w, [], x, hx => by
    rw [wts, List.mem_singleton] at hx
    rw [hx]; exact Int.dvd_refl _
  | w, h :: hs, x, hx => by
    have hp := wts_pos (if h = 0 then w * 2 else w) hs
    have e : (wts w (h :: hs)).getLastD 0 = (wts (if h = 0 then w * 2 else w) hs).getLastD 0 := by
      show (w :: wts _ hs).getLastD 0 = _
      revert hp
      generalize wts (if h = 0 then w * 2 else w) hs = l
      intro hp
      cases l with
      | nil => cases hp
      | cons a r => exact last_cons
    rw [e]
    rw [wts] at hx
    rcases List.mem_cons.mp hx with rfl | hx
    · refine Int.dvd_trans ?_ (wts_dvd _ hs _ (wts_mem_head _ hs))
      split
      · exact Int.dvd_mul_right _ 2
      · exact Int.dvd_refl _
    · exact wts_dvd _ hs x hx
theorem getD_last {l : List Int} {n : Nat} (h : l.length = n + 1) : l.getD n 0 = l.getLastD 0 := by
  rw [List.getLastD_eq_getLast?, List.getLast?_eq_getElem?, h, List.getD_eq_getElem?_getD]
  simp
theorem take_sum {l : List Int} {n : Nat} (h : l.length = n + 1) : l.sum = (l.take n).sum + l.getLastD 0 := by
  have e : l.take n ++ [l.getLastD 0] = l := by
    have h1 : n < l.length := by omega
    have := List.take_append_getElem h1
    rw [← getD_last h, List.getD_eq_getElem?_getD, List.getElem?_eq_getElem h1, Option.getD_some]
    rw [show l.take n ++ [l[n]] = l.take (n + 1) from this, List.take_of_length_le (by omega)]
  conv => lhs; rw [← e]
  rw [List.sum_append, List.sum_singleton]
theorem aloneZ_nil {c : Int} (h : 0 ≤ c) : aloneZ c [] = c := by
  unfold aloneZ
  show (if (c + 1).fdiv 1 > 1 then (c + 1).fdiv 1 else 1) - 1 = c
  rw [Int.fdiv_one]
  split <;> omega
theorem restZ_eq (front : Int) (hs : List Int) : restZ front hs (hs.length : Int) = (max0 (front - ((wts 1 hs).take hs.length).sum)).fdiv ((wts 1 hs).getLastD 0) := by
  unfold restZ
  rw [Int.toNat_natCast, getD_last (wts_len 1 hs)]
  rfl
theorem restZ_old {front h lost : Int} {hs : List Int} (h0 : 0 ≤ lost) (h1 : lost ≤ hs.length) : restZ front (hs ++ [h]) lost = restZ front hs lost := by
  have hl := wts_len 1 hs
  unfold restZ
  rw [wts_snoc, List.take_append_of_le_length (by omega)]
  have e : ((wts 1 hs) ++ [if h = 0 then (wts 1 hs).getLastD 0 * 2 else (wts 1 hs).getLastD 0]).getD lost.toNat 0 = (wts 1 hs).getD lost.toNat 0 := by
    rw [List.getD_eq_getElem?_getD, List.getD_eq_getElem?_getD, List.getElem?_append_left (by omega)]
  rw [e]
theorem restZ_new (front h : Int) (hs : List Int) : restZ front (hs ++ [h]) ((hs.length : Int) + 1) = (max0 (front - ((wts 1 hs).take hs.length).sum - (wts 1 hs).getLastD 0)).fdiv (if h = 0 then (wts 1 hs).getLastD 0 * 2 else (wts 1 hs).getLastD 0) := by
  have hl := wts_len 1 hs
  have h1 := restZ_eq front (hs ++ [h])
  rw [List.length_append, List.length_singleton, wts_snoc, last_snoc, List.take_append_of_le_length (by omega), List.take_of_length_le (by omega), take_sum hl] at h1
  rw [show (hs.length : Int) + 1 = ((hs.length + 1 : Nat) : Int) by omega, h1]
  congr 2
  omega
theorem stripL_front {f : Int} (hf : 0 ≤ f) {t : List Nat} (hne : t ≠ []) (ht : t.head? ≠ some 34) : stripL (quotes f ++ t) = quotes (f - 1) ++ stripE t := by
  have h1 : (if (quotes f ++ t).head? = some 34 then (quotes f ++ t).drop 1 else quotes f ++ t) = quotes (f - 1) ++ t := by
    rcases Int.lt_or_le 0 f with h0 | h0
    · obtain ⟨j, rfl, hj⟩ := quotes_cases h0
      rw [quotes_succ hj, show j + 1 - 1 = j by omega]
      simp
    · rw [quotes_zero h0, quotes_zero (by omega), List.nil_append, if_neg ht]
  unfold stripL
  rw [h1]
  exact stripE_append _ hne
theorem lost_cond {rest W : Int} (hW : 0 < W) : (rest ≤ 0 ∨ (rest.fdiv W).fmod 2 = 0) ↔ (max0 rest / W) % 2 = 0 := by
  rw [Int.fdiv_eq_ediv_of_nonneg _ (Int.le_of_lt hW), Int.fmod_eq_emod_of_nonneg _ (by decide)]
  unfold max0
  by_cases h : rest > 0
  · rw [if_pos h]
    constructor
    · rintro (q | q)
      · omega
      · exact q
    · exact .inr
  · rw [if_neg h, Int.zero_ediv]
    constructor
    · intro _; rfl
    · intro _; exact .inl (by omega)

theorem told_snoc {front : Int} {ws : List (Nat × Int)} (hne : ws ≠ []) (hsg : ∀ p ∈ ws, p.1 ≠ 34 ∧ 0 ≤ p.2) (hs : List Int) (h : Int) (hh : h = 0 ∨ h = 1) :
    step h (toldZ front ws hs) = toldZ front ws (hs ++ [h]) := by
  have hW := wts_last_pos hs
  have hl := wts_len 1 hs
  have hb := lostF_bounds 0 front hs (wts 1 hs)
  have hsn := lostF_snoc h (if h = 0 then (wts 1 hs).getLastD 0 * 2 else (wts 1 hs).getLastD 0) 0 front hs (wts 1 hs) hl
  rw [← wts_snoc, Int.zero_add] at hsn
  have hhd := wordsF_head (W := (wts 1 hs).getLastD 0) (hs := hs) (wl := wts 1 hs) hne fun p hp => (hsg p hp).1
  have hlen : ((hs ++ [h]).length : Int) = (hs.length : Int) + 1 := by rw [List.length_append, List.length_singleton]; omega
  by_cases hc : lostF 0 front hs (wts 1 hs) < (hs.length : Int)
  · rw [if_pos hc] at hsn
    have hlt2 : lostF 0 front hs (wts 1 hs) < ((hs ++ [h]).length : Int) := by omega
    rw [toldZ, if_pos hc, toldZ, hsn, if_pos hlt2, restZ_old (by omega) (by omega), List.drop_append_of_le_length (by omega)]
    exact alone_snoc _ h hh
  · rw [if_neg hc] at hsn
    have hlo : lostF 0 front hs (wts 1 hs) = (hs.length : Int) := by omega
    simp only [lost_cond hW] at hsn
    rw [toldZ, if_neg hc, hlo, restZ_eq]
    rw [toldZ, hsn]
    have hf : (max0 (front - ((wts 1 hs).take hs.length).sum)).fdiv ((wts 1 hs).getLastD 0) = max0 (front - ((wts 1 hs).take hs.length).sum) / (wts 1 hs).getLastD 0 := Int.fdiv_eq_ediv_of_nonneg _ (Int.le_of_lt hW)
    rw [hf]
    have hf0 : 0 ≤ max0 (front - ((wts 1 hs).take hs.length).sum) / (wts 1 hs).getLastD 0 := Int.ediv_nonneg (max0_nonneg _) (Int.le_of_lt hW)
    rcases hh with rfl | rfl
    · rw [step, if_pos rfl]
      by_cases hev : (max0 (front - ((wts 1 hs).take hs.length).sum) / (wts 1 hs).getLastD 0) % 2 = 0
      · have hlt2 : (hs.length : Int) < ((hs ++ [(0 : Int)]).length : Int) := by omega
        have hcd : (0 : Int) = 0 ∧ (max0 (front - ((wts 1 hs).take hs.length).sum) / (wts 1 hs).getLastD 0) % 2 = 0 := ⟨rfl, hev⟩
        rw [if_pos hcd, if_pos hlt2, restZ_old (by omega) (by omega), restZ_eq, hf]
        rw [List.drop_of_length_le (by rw [List.length_append, List.length_singleton]; omega), Int.fdiv_eq_ediv_of_nonneg _ (by decide)]
        revert hf0 hev
        generalize max0 (front - ((wts 1 hs).take hs.length).sum) / (wts 1 hs).getLastD 0 = f
        intro hf0 hev
        rw [aloneZ_nil (by split <;> omega)]
        rcases Int.lt_or_le 0 f with h0 | h0
        · obtain ⟨k, rfl⟩ : ∃ k, f = 2 * k + 1 + 1 := ⟨f / 2 - 1, by omega⟩
          rw [quotes_succ (by omega), List.cons_append, parseL, if_pos rfl, parseQ_odd' (by omega) hhd.2]
          refine quotes_eq ?_
          split <;> omega
        · rw [quotes_zero h0, List.nil_append, quotes_zero (by split <;> omega)]
          cases ht : wordsF ((wts 1 hs).getLastD 0) hs (wts 1 hs) ws with
          | nil => rfl
          | cons c r =>
            rw [ht] at hhd
            have : c ≠ 34 := fun q => hhd.2 (by rw [q]; rfl)
            rw [parseL, if_neg this]
      · have hlt2 : ¬ (hs.length : Int) + 1 < ((hs ++ [(0 : Int)]).length : Int) := by omega
        have hcd : ¬ ((0 : Int) = 0 ∧ (max0 (front - ((wts 1 hs).take hs.length).sum) / (wts 1 hs).getLastD 0) % 2 = 0) := fun q => hev q.2
        rw [if_neg hcd, if_neg hlt2, restZ_new, if_pos rfl, wts_snoc, last_snoc, if_pos rfl]
        rw [← words_parse (x := (wts 1 hs).getLastD 0 * 2) hW (fun w hw => ⟨wts_all_pos 1 hs (by decide) w hw, wts_dvd 1 hs w hw⟩) hl ws hne hsg]
        have hg : (max0 (front - ((wts 1 hs).take hs.length).sum - (wts 1 hs).getLastD 0)).fdiv ((wts 1 hs).getLastD 0 * 2) = (max0 (front - ((wts 1 hs).take hs.length).sum) / (wts 1 hs).getLastD 0 - 1) / 2 := by
          revert hev hW
          generalize front - ((wts 1 hs).take hs.length).sum = rest
          generalize (wts 1 hs).getLastD 0 = W
          intro hW hev
          rw [Int.fdiv_eq_ediv_of_nonneg _ (by omega), ← Int.ediv_ediv_of_nonneg (Int.le_of_lt hW)]
          congr 1
          have h1 : W ≤ rest := by
            rcases Int.lt_or_le rest W with q | q
            · exfalso
              have : max0 rest / W = 0 := Int.ediv_eq_zero_of_lt (max0_nonneg _) (by unfold max0; split <;> omega)
              omega
            · exact q
          have e1 : max0 rest = rest := by unfold max0; split <;> omega
          have e2 : max0 (rest - W) = rest - W := by unfold max0; split <;> omega
          rw [e1, e2, show rest - W = rest + (-1) * W by omega, Int.add_mul_ediv_right _ _ (by omega)]
          omega
        rw [hg]
        revert hf0 hev
        generalize max0 (front - ((wts 1 hs).take hs.length).sum) / (wts 1 hs).getLastD 0 = f
        intro hf0 hev
        obtain ⟨k, rfl⟩ : ∃ k, f = 2 * k + 1 := ⟨f / 2, by omega⟩
        rw [quotes_succ (by omega), List.cons_append, parseL, if_pos rfl, parseQ_even (by omega), show (2 * k + 1 - 1) / 2 = k by omega]
    · have hlt2 : ¬ (hs.length : Int) + 1 < ((hs ++ [(1 : Int)]).length : Int) := by omega
      have h10 : ¬ ((1 : Int) = 0 ∧ (max0 (front - ((wts 1 hs).take hs.length).sum) / (wts 1 hs).getLastD 0) % 2 = 0) := fun q => absurd q.1 (by decide)
      rw [step, if_neg (by decide), if_neg h10, if_neg hlt2, restZ_new, if_neg (by decide), wts_snoc, last_snoc, if_neg (by decide)]
      rw [stripL_front hf0 hhd.1 hhd.2, words_strip (x := (wts 1 hs).getLastD 0) hW rfl hl ws hne fun p hp => (hsg p hp).1]
      congr 1
      refine quotes_eq ?_
      revert hW
      generalize front - ((wts 1 hs).take hs.length).sum = rest
      generalize (wts 1 hs).getLastD 0 = W
      intro hW
      rw [Int.fdiv_eq_ediv_of_nonneg _ (Int.le_of_lt hW)]
      rcases Int.lt_or_le rest W with q | q
      · have e1 : max0 rest / W = 0 := Int.ediv_eq_zero_of_lt (max0_nonneg _) (by unfold max0; split <;> omega)
        have e2 : max0 (rest - W) = 0 := by unfold max0; split <;> omega
        rw [e1, e2, Int.zero_ediv]; rfl
      · have e1 : max0 rest = rest := by unfold max0; split <;> omega
        have e2 : max0 (rest - W) = rest - W := by unfold max0; split <;> omega
        have e3 : (rest - W) / W = rest / W - 1 := by
          rw [show rest - W = rest + (-1) * W by omega, Int.add_mul_ediv_right _ _ (by omega)]; omega
        rw [e1, e2, e3]

def wtext : List (Nat × Int) → List Nat
  | [] => []
  | (s, r) :: ws => s :: (quotes r ++ wtext ws)
theorem words_nil : ∀ (ws : List (Nat × Int)), (∀ p ∈ ws, 0 ≤ p.2) → wordsF 1 [] [1] ws = wtext ws
  | [], _ => rfl
  | (s, r) :: ws, h => by
    have hr : 0 ≤ r := h (s, r) List.mem_cons_self
    have ih := words_nil ws fun p hp => h p (List.mem_cons_of_mem _ hp)
    rw [wordsF_cons, leftF_nil, wtext, Int.fdiv_one, Int.fdiv_one, show r.fmod 1 = 0 by rw [Int.fmod_eq_emod_of_nonneg _ (by decide)]; omega]
    have e : max0 r = r := by unfold max0; split <;> omega
    rw [e]
    split
    · rename_i hc
      rcases hc with rfl | hc
      · simp [wtext]
      · exact absurd rfl hc
    · rw [ih]
theorem told_nil {front : Int} (hf : 0 ≤ front) {ws : List (Nat × Int)} (hw : ∀ p ∈ ws, 0 ≤ p.2) : toldZ front ws [] = quotes front ++ wtext ws := by
  have e : restZ front [] 0 = front := by
    unfold restZ
    show (if front - 0 > 0 then front - 0 else 0).fdiv 1 = front
    rw [Int.fdiv_one]; split <;> omega
  unfold toldZ
  show (if (0 : Int) < (([] : List Int).length : Int) then _ else quotes (restZ front [] 0) ++ wordsF 1 [] [1] ws) = _
  rw [if_neg (by decide), e, words_nil ws hw]
theorem parseQ_len : ∀ (n : Nat) (l : List Nat), l.length ≤ n → (parseQ l).length ≤ l.length
  | _, [], _ => Nat.le_refl _
  | _, [c], _ => by rw [parseQ]; split <;> simp
  | 0, _ :: _ :: _, h => by simp at h
  | n + 1, c :: d :: r, h => by
    rw [parseQ]
    have h1 := parseQ_len n r (by simp at h; omega)
    have h2 := parseQ_len n (d :: r) (by simpa using h)
    simp only [List.length_cons] at h2 ⊢
    split
    · split
      · simp only [List.length_cons]; omega
      · simp
    · simp only [List.length_cons]; omega
theorem parseL_len (l : List Nat) : (parseL l).length ≤ l.length := by
  cases l with
  | nil => exact Nat.le_refl _
  | cons c r =>
    rw [parseL]
    have := parseQ_len r.length r (Nat.le_refl _)
    split
    · simp only [List.length_cons]; omega
    · simp
theorem stripL_len (l : List Nat) : (stripL l).length ≤ l.length := by
  unfold stripL
  have h1 : (if l.head? = some 34 then l.drop 1 else l).length ≤ l.length := by split <;> simp
  revert h1
  generalize (if l.head? = some 34 then l.drop 1 else l) = m
  intro h1
  split
  · rw [List.length_dropLast]; omega
  · exact h1
end Mine
namespace Mine
section
variable {prog : Program} {w : World} {A : Around} {s : Shared} {h₀ : Heap} {L : Addr} {m : Str → Option Value} {env : Env}
theorem cend_mono {s₁ : Shared} {I C D : Addr} {oI oC oD : Obj} {S : List (Addr × Obj) → Prop} {r r' : Value → List (Addr × Obj) → Prop} (h : ∀ y n, r y n → r' y n) {y : Value} {s₂ : Shared}
    (x : LCg.CompEnd h₀ L m s₁ I oI C oC D oD S r y s₂) : LCg.CompEnd h₀ L m s₁ I oI C oC D oD S r' y s₂ := by
  obtain ⟨h', tk, news', e, F, N, o, hS, q⟩ := x
  exact ⟨h', tk, news', e, F, N, o, hS, h _ _ q⟩
/-- a comprehension by what holds between its turns -/
theorem comp_ind {elt : PySem.Expr} {x : Str} {scope : Scope} {cl : List (Str × Addr)} {S : List (Addr × Obj) → Prop} {P : Nat → Value → Prop} {Fin : List Value → List (Addr × Obj) → Prop} {n : Nat} {news₀ : List (Addr × Obj)} (Inv : Nat → List Value → List (Addr × Obj) → Prop)
    (h0 : Inv 0 [] news₀)
    (turn : ∀ (i : Nat) (v : Value) (ys : List Value) (news : List (Addr × Obj)) (I : Addr) (oI : Obj) (C : Addr) (oC : Obj) (D : Addr) (m₂ : Str → Option Value) (h : Heap) (tk : Nat) (E' : Value → Shared → Prop), i < n → P i v → Inv i ys news → LCg.NsObj oC m₂ → m₂ x = some v → Fr h₀ L h m →
      News h₀ L h ((I, oI) :: (C, oC) :: (D, LCg.lst ys) :: news) → LCg.Off3 I C D news → ((@Ne Nat I C) ∧ (@Ne Nat I D) ∧ (@Ne Nat C D)) →
      wpAny (model prog w) A (eval elt (compEnvC scope cl C env)) (LCg.CompEnd h₀ L m { s with heap := h, toks := tk } I oI C oC D (LCg.lst ys) S (fun y news' => Inv (i + 1) (ys ++ [y]) news')) E' { s with heap := h, toks := tk })
    (fin : ∀ ys news, Inv n ys news → Fin ys news) : LCg.CompRest prog w A h₀ L m env elt x scope cl s S P Fin n 0 [] news₀ := by
  have all : ∀ k i ys news, i + k = n → Inv i ys news → LCg.CompRest prog w A h₀ L m env elt x scope cl s S P Fin k i ys news := by
    intro k
    induction k with
    | zero =>
      intro i ys news hi hI
      obtain rfl : i = n := by omega
      exact LCg.CompRest.zero (fin ys news hI)
    | succ k ih =>
      intro i ys news hi hI
      refine LCg.CompRest.succ fun v I oI C oC D m₂ h tk E' hP hC hx F N off ne => ?_
      exact wpAny_mono (turn i v ys news I oI C oC D m₂ h tk E' (by omega) hP hI hC hx F N off ne) (fun y s₂ q => cend_mono (fun y n q => ih (i + 1) _ _ (by omega) q) q) fun _ _ e => e
  exact all n 0 [] news₀ (by omega) h0
theorem comp_indP {elt : PySem.Expr} {x x₂ : Str} {scope : Scope} {cl : List (Str × Addr)} {S : List (Addr × Obj) → Prop} {P : Nat → Value → Prop} {Fin : List Value → List (Addr × Obj) → Prop} {n : Nat} {news₀ : List (Addr × Obj)} (Inv : Nat → List Value → List (Addr × Obj) → Prop)
    (h0 : Inv 0 [] news₀)
    (turn : ∀ (i : Nat) (v : Value) (ys : List Value) (news : List (Addr × Obj)), i < n → P i v → Inv i ys news → ∃ (t : Addr) (ot : Obj) (v₁ v₂ : Value) (nt : Nat), v = .ref t ∧ (t, ot) ∈ news ∧ ot.cls = .type "tuple" ∧ ot.data = .seq #[v₁, v₂] nt ∧
      ∀ (I : Addr) (oI : Obj) (C : Addr) (oC : Obj) (D : Addr) (m₂ : Str → Option Value) (h : Heap) (tk : Nat) (E' : Value → Shared → Prop), LCg.NsObj oC m₂ → m₂ x = some v₁ → m₂ x₂ = some v₂ → Fr h₀ L h m →
      News h₀ L h ((I, oI) :: (C, oC) :: (D, LCg.lst ys) :: news) → LCg.Off3 I C D news → ((@Ne Nat I C) ∧ (@Ne Nat I D) ∧ (@Ne Nat C D)) →
      wpAny (model prog w) A (eval elt (compEnvC scope cl C env)) (LCg.CompEnd h₀ L m { s with heap := h, toks := tk } I oI C oC D (LCg.lst ys) S (fun y news' => Inv (i + 1) (ys ++ [y]) news')) E' { s with heap := h, toks := tk })
    (fin : ∀ ys news, Inv n ys news → Fin ys news) : LCp.CompRestP prog w A h₀ L m env elt x x₂ scope cl s S P Fin n 0 [] news₀ := by
  have all : ∀ k i ys news, i + k = n → Inv i ys news → LCp.CompRestP prog w A h₀ L m env elt x x₂ scope cl s S P Fin k i ys news := by
    intro k
    induction k with
    | zero =>
      intro i ys news hi hI
      obtain rfl : i = n := by omega
      exact LCp.CompRestP.zero (fin ys news hI)
    | succ k ih =>
      intro i ys news hi hI
      refine LCp.CompRestP.succ fun v hP => ?_
      obtain ⟨t, ot, v₁, v₂, nt, e1, e2, e3, e4, f⟩ := turn i v ys news (by omega) hP hI
      refine ⟨t, ot, v₁, v₂, nt, e1, e2, e3, e4, fun I oI C oC D m₂ h tk E' hC hx hx2 F N off ne => ?_⟩
      exact wpAny_mono (f I oI C oC D m₂ h tk E' hC hx hx2 F N off ne) (fun y s₂ q => cend_mono (fun y n q => ih (i + 1) _ _ (by omega) q) q) fun _ _ e => e
  exact all n 0 [] news₀ (by omega) h0
end
end Mine
namespace Mine
theorem parse_use {w : World} {mean : ExcName → Option Value} {mg mb : Str → Option Value} {news : List (Addr × Obj)} {y : Str} {t : Tok}
    {dp un : Nat} {gd : Option (List Code)} {cn : Str} {cs : Scope} {a : Addr} {ccd : Value} {cl' : List (Str × Addr)} {outer : List Env} {A₀ : Around} {base h₀ : Heap} {L : Addr} {m : Str → Option Value} {s : Shared} {Q E : Value → Shared → Prop}
    (B : Below A₀ base outer h₀) (F : Fr h₀ L s.heap m) (X : (hd.heap_39 w.params).In h₀) (N : News h₀ L s.heap news) (T : Top hd.view_39 (looseW hd.view_39 []) mean mg mb h₀) (hk : cs.kind = .function) (hdp : dp + 1 < recursionLimit) (hun : un + 8 * 1 < cLine)
    (hy : Sml 1000 y)
    (ret : ∀ z t h' tk', Fr h₀ L h' m → News h₀ L h' news → cl z = parseL (cl y) → Q (.str z t) { s with heap := h', toks := tk' }) :
    wpAny (model Challenge.rw_nb0018_01.row.prog w) (ktrTop dp un gd cn cs L a ccd cl' outer) (call (.ref 46) [.str (Str.ofString "257 " ++ y) t]) Q E s :=
  parse_ok y t hy dp un gd cn cs a ccd cl' outer A₀ base h₀ L m s Q E B F X N T hk hdp hun fun r tl h' tk' F' N' hr => by
    obtain ⟨rfl, z, t, rfl, hz⟩ := hr
    exact ret z t h' tk' F' N' hz
theorem strip_use {w : World} {mean : ExcName → Option Value} {mg mb : Str → Option Value} {news : List (Addr × Obj)} {y : Str} {t : Tok}
    {dp un : Nat} {gd : Option (List Code)} {cn : Str} {cs : Scope} {a : Addr} {ccd : Value} {cl' : List (Str × Addr)} {outer : List Env} {A₀ : Around} {base h₀ : Heap} {L : Addr} {m : Str → Option Value} {s : Shared} {Q E : Value → Shared → Prop}
    (B : Below A₀ base outer h₀) (F : Fr h₀ L s.heap m) (X : (hd.heap_39 w.params).In h₀) (N : News h₀ L s.heap news) (T : Top hd.view_39 (looseW hd.view_39 []) mean mg mb h₀) (hk : cs.kind = .function) (hdp : dp + 1 < recursionLimit) (hun : un + 8 * 1 < cLine)
    (hy : Sml 1000 y)
    (ret : ∀ z t h' tk', Fr h₀ L h' m → News h₀ L h' news → cl z = stripL (cl y) → Q (.str z t) { s with heap := h', toks := tk' }) :
    wpAny (model Challenge.rw_nb0018_01.row.prog w) (ktrTop dp un gd cn cs L a ccd cl' outer) (call (.ref 53) [.str y t]) Q E s :=
  strip_ok y t hy dp un gd cn cs a ccd cl' outer A₀ base h₀ L m s Q E B F X N T hk hdp hun fun r tl h' tk' F' N' hr => by
    obtain ⟨rfl, z, t, rfl, hz⟩ := hr
    exact ret z t h' tk' F' N' hz
theorem told_use {w : World} {mean : ExcName → Option Value} {mg mb : Str → Option Value} {news : List (Addr × Obj)} {front : Int} {tf : Tok} {lw : Addr} {wv : List Value} {ws : List (Nat × Int)} {nw : Nat} {l : Addr} {vs : List Value} {hs : List Int} {nn : Nat} {wnews : List (Addr × Obj)}
    {dp un : Nat} {gd : Option (List Code)} {cn : Str} {cs : Scope} {a : Addr} {ccd : Value} {cl' : List (Str × Addr)} {outer : List Env} {A₀ : Around} {base h₀ : Heap} {L : Addr} {m : Str → Option Value} {s : Shared} {Q E : Value → Shared → Prop}
    (B : Below A₀ base outer h₀) (F : Fr h₀ L s.heap m) (X : (hd.heap_39 w.params).In h₀) (N : News h₀ L s.heap news) (T : Top hd.view_39 (looseW hd.view_39 []) mean mg mb h₀) (hk : cs.kind = .function) (hdp : dp + 3 < recursionLimit) (hun : un + 8 * 3 < cLine)
    (hmw : (lw, listOf wv.toArray nw) ∈ news) (hw : WordsIn wnews wv ws) (hsub : ∀ p ∈ wnews, p ∈ news) (hwn : ws.length ≤ 5) (hwr : ∀ p ∈ ws, 0 ≤ p.2 ∧ p.2 ≤ 8)
    (hm : (l, listOf vs.toArray nn) ∈ news) (hi : IntsAre vs hs) (hlen : hs.length ≤ 5) (hf0 : 0 ≤ front) (hf1 : front ≤ 1000)
    (ret : ∀ z t h' tk', Fr h₀ L h' m → News h₀ L h' news → cl z = toldZ front ws hs → Q (.str z t) { s with heap := h', toks := tk' }) :
    wpAny (model Challenge.rw_nb0018_01.row.prog w) (ktrTop dp un gd cn cs L a ccd cl' outer) (call (.ref 81) [.int front tf, .ref lw, .ref l]) Q E s :=
  told_ok front tf lw wv ws nw l vs hs nn hmw (hw.mono hsub) hwn hwr hm hi hlen hf0 hf1 dp un gd cn cs a ccd cl' outer A₀ base h₀ L m s Q E B F X N T hk hdp hun fun r tl h' tk' F' N' hr => by
    obtain ⟨rfl, z, t, rfl, hz⟩ := hr
    exact ret z t h' tk' F' N' hz
end Mine
namespace Mine
section
variable {prog : Program} {w : World} {A : Around} {E : Value → Shared → Prop} {s : Shared} {env : Env} {h₀ : Heap} {target : PySem.Expr} {body : List Stmt} {Q : Flow → Shared → Prop}
/-- a for over a tuple of the ledger whose turns change no more than the names stored -/
theorem for_tup {ax : Addr} {lo : Obj} {vs : List Value} {nn : Nat} {m₀ : Str → Option Value} {news : List (Addr × Obj)} (x : Str) (stored : List Str) (hx : stored.contains x = true)
    (hh : A.handled = none) (F : Fr h₀ env.locals s.heap m₀) (N : News h₀ env.locals s.heap news) (hm : (ax, lo) ∈ news) (hc : lo.cls = .type "tuple") (hd : lo.data = .seq vs.toArray nn)
    (turn : ∀ (v : Value) (u : Str → Option Value) (I : Addr) (it : Obj) (h : Heap) (tk : Nat), v ∈ vs → (∀ p ∈ news, p.1 < I) → it.cls = .type "tuple_iterator" →
      Fr h₀ env.locals h (fun y => if stored.contains y then u y else m₀ y) → News h₀ env.locals h ((I, it) :: news) →
      wpAny (model prog w) A (assign target env v) (fun _ s₂ => wpAny (model prog w) A (execs body env) (FPost h₀ env.locals x stored m₀ (fun _ : Unit => news) (fun _ => []) (fun _ => True) (I, it) { s with heap := h, toks := tk } Q) E s₂) E { s with heap := h, toks := tk })
    (done : ∀ (u : Str → Option Value) (h : Heap) (tk : Nat), Fr h₀ env.locals h (fun y => if stored.contains y then u y else m₀ y) → News h₀ env.locals h news → Q .next { s with heap := h, toks := tk }) :
    wpAny (model prog w) A (pyIter (.ref ax)) (fun it s₂ => TurnsAt prog w A h₀ env target body Q E it s₂) E s := by
  refine iter_tupTurns hh F N hm hc hd fun I hI => ?_
  have fix : ∀ (m : Str → Option Value), (∀ z, stored.contains z = false → m z = m₀ z) → m = fun y => if stored.contains y then m y else m₀ y := by
    intro m hmz
    funext y
    cases hb : stored.contains y with
    | true => simp
    | false => simp [hmz y hb]
  have all : ∀ (r : List Value), (∀ v ∈ r, v ∈ vs) → ∀ m, (∀ z, stored.contains z = false → m z = m₀ z) → ItemsRest prog w A E h₀ env target body Q s [(I, "tuple_iterator")] [(ax, lo)] (r.map .val) m news := by
    intro r
    induction r with
    | nil =>
      intro _ m hmz
      refine ItemsRest.zero fun h tk F' N' => ?_
      exact done m h tk (fr_to F' (fix m hmz)) N'
    | cons v r ih =>
      intro hsub m hmz
      refine ItemsRest.val fun h tk F' => AllObj.cons fun it hic => AllObj.nil fun N' => ?_
      refine wpAny_mono (turn v m I it h tk (hsub v List.mem_cons_self) hI hic (fr_to F' (fix m hmz)) N') (fun _ s₂ p => ?_) fun _ _ e => e
      refine wpAny_mono p (fun f s₃ q => ?_) fun _ _ e => e
      have fin : FEnd h₀ env.locals x stored m₀ (fun _ : Unit => news) (fun _ => []) (fun _ => True) (I, it) { s with heap := h, toks := tk } s₃ →
          UnrEndW h₀ env.locals { s with heap := h, toks := tk } [(I, it)] (fun m' n' => SubL [(ax, lo)] n' ∧ ItemsRest prog w A E h₀ env target body Q s [(I, "tuple_iterator")] [(ax, lo)] (r.map .val) m' n') s₃ := by
        rintro ⟨c, h', tk', m', news', rfl, F2, N2, hi, hn, hk, hr, -⟩
        refine ⟨h', tk', m', news, rfl, F2, fun p hp => ?_, fun p hp q hq => ?_, ⟨hm, trivial⟩, ?_⟩
        · rcases List.mem_cons.mp hp with rfl | hp
          · exact N2 _ hi
          · exact N2 _ (hn p hp)
        · rw [List.mem_singleton.mp hq]
          exact Nat.ne_of_lt (hI p hp)
        · refine ih (fun v hv => hsub v (List.mem_cons_of_mem _ hv)) m' fun z hz => hr z ?_ (fun p hp => nomatch hp) hz
          intro e
          rw [e, hx] at hz
          cases hz
      cases f with
      | ret v => exact q
      | brk => exact q
      | next => exact fin q
      | cont => exact fin q
  exact all vs (fun v hv => hv) m₀ fun z _ => rfl
end
end Mine
namespace Mine
def sgn (n : Int) : Nat := (cl (Txt.item (Str.ofString "ab\\ .") (n.fmod 5))).headD 0
def wOf (n : Int) : Nat × Int := (sgn n, n.fmod 9)
theorem sgn_item (n : Int) : Txt.item (Str.ofString "ab\\ .") (n.fmod 5) = sOf [sgn n] := rfl
theorem sgn_ne (n : Int) : sgn n ≠ 34 := by
  have h1 : n.fmod 5 = n % 5 := Int.fmod_eq_emod_of_nonneg _ (by decide)
  have h2 : n.fmod 5 = 0 ∨ n.fmod 5 = 1 ∨ n.fmod 5 = 2 ∨ n.fmod 5 = 3 ∨ n.fmod 5 = 4 := by omega
  unfold sgn
  rcases h2 with h | h | h | h | h <;> rw [h] <;> decide +kernel
theorem wOf_all (rows : List Int) : ∀ p ∈ rows.map wOf, p.1 ≠ 34 ∧ 0 ≤ p.2 := by
  intro p hp
  obtain ⟨n, -, rfl⟩ := List.mem_map.mp hp
  have h1 : n.fmod 9 = n % 9 := Int.fmod_eq_emod_of_nonneg _ (by decide)
  exact ⟨sgn_ne n, by show 0 ≤ n.fmod 9; omega⟩
theorem wOf_run (rows : List Int) : ∀ p ∈ rows.map wOf, 0 ≤ p.2 ∧ p.2 ≤ 8 := by
  intro p hp
  obtain ⟨n, -, rfl⟩ := List.mem_map.mp hp
  have h1 : n.fmod 9 = n % 9 := Int.fmod_eq_emod_of_nonneg _ (by decide)
  show 0 ≤ n.fmod 9 ∧ n.fmod 9 ≤ 8
  omega
theorem sum_le32 : ∀ (l : List Int), (∀ x ∈ l, x ≤ 32) → l.sum ≤ 32 * l.length
  | [], _ => by simp
  | a :: l, h => by
    have ih := sum_le32 l fun x hx => h x (List.mem_cons_of_mem _ hx)
    have h2 := h a List.mem_cons_self
    rw [List.sum_cons, List.length_cons]; omega
theorem lift_b {hs : List Int} (h : hs.length ≤ 5) (k : Nat) : 0 ≤ ((wts 1 hs).take k).sum ∧ ((wts 1 hs).take k).sum ≤ 192 := by
  have h1 := sum_pos ((wts 1 hs).take k) fun x hx => wts_all_pos 1 hs (by decide) x (List.mem_of_mem_take hx)
  have h2 := sum_le32 ((wts 1 hs).take k) fun x hx => wts_all_le 5 1 hs h (by decide) x (List.mem_of_mem_take hx)
  have h3 := wts_len 1 hs
  have h4 : ((wts 1 hs).take k).length ≤ hs.length + 1 := by rw [List.length_take]; omega
  omega
def wtx (p : Nat × Int) : Str := sOf [p.1] ++ sOf (quotes p.2)
theorem cl_wtx (p : Nat × Int) : cl (wtx p) = p.1 :: quotes p.2 := by rw [wtx, cl_append, cl_sOf, cl_sOf]; rfl
theorem wtx_len {p : Nat × Int} (h : 0 ≤ p.2 ∧ p.2 ≤ 8) : (wtx p).length ≤ 10 := by
  rw [cl_len, cl_wtx, List.length_cons, quotes_len]; omega
theorem cl_join : ∀ (ws : List (Nat × Int)), cl (Str.join (Str.ofString "") (ws.map wtx)) = wtext ws
  | [] => rfl
  | [(s, r)] => by
    show cl (wtx (s, r)) = _
    rw [cl_wtx]; simp [wtext]
  | (s, r) :: q :: ws => by
    have ih := cl_join (q :: ws)
    show cl (wtx (s, r) ++ Str.ofString "" ++ Str.join (Str.ofString "") ((q :: ws).map wtx)) = _
    have e : wtext ((s, r) :: q :: ws) = s :: (quotes r ++ wtext (q :: ws)) := rfl
    rw [cl_append, cl_append, ih, cl_wtx, cl_empty, e, List.append_nil]
    rfl
theorem cl_txt (ws : List (Nat × Int)) : cl (Txt.join (Str.ofString "") (ws.map wtx)) = wtext ws := by
  show cl (Builtin.Str.glued (Str.ofString "") (ws.map wtx)) = _
  rw [StrLaws.glued_eq_join]
  exact cl_join ws
theorem wtext_len : ∀ (ws : List (Nat × Int)), (∀ p ∈ ws, 0 ≤ p.2 ∧ p.2 ≤ 8) → (wtext ws).length ≤ 9 * ws.length
  | [], _ => Nat.le_refl _
  | (s, r) :: ws, h => by
    have ih := wtext_len ws fun p hp => h p (List.mem_cons_of_mem _ hp)
    have h2 : 0 ≤ r ∧ r ≤ 8 := h (s, r) List.mem_cons_self
    rw [wtext, List.length_cons, List.length_append, quotes_len, List.length_cons]; omega
theorem step_len (h : Int) (l : List Nat) : (step h l).length ≤ l.length := by
  unfold step
  split
  · exact parseL_len l
  · exact stripL_len l
/-- the text behind one more hand -/
theorem next_told {front : Int} {ws : List (Nat × Int)} (hne : ws ≠ []) (hsg : ∀ p ∈ ws, p.1 ≠ 34 ∧ 0 ≤ p.2) {hs : List Int} (hh : ∀ x ∈ hs, x = 0 ∨ x = 1) {i : Nat} (hi : i < hs.length) {l l' : List Nat} (e : l = toldZ front ws (hs.take i)) (e' : l' = step (hs.getD i 0) l) :
    l' = toldZ front ws (hs.take (i + 1)) := by
  have hg : hs.getD i 0 = hs[i] := by rw [List.getD_eq_getElem?_getD, List.getElem?_eq_getElem hi]; rfl
  rw [e', e, told_snoc hne hsg _ _ (hg ▸ hh _ (List.getElem_mem _)), List.take_add_one, List.getElem?_eq_getElem hi, hg]
  rfl
end Mine
namespace Mine
def MidRows (s₁ : Shared) (l : Addr) (s' : Shared) : Prop :=
  ∃ (rows : List Int) (rv : List Value) (rl : Addr) (nr : Nat) (h : Heap) (tk : Nat), s' = { s₁ with heap := h, toks := tk } ∧
    Fr s₁.heap s₁.heap.objs.size h (fun y => if y = Str.ofString "rows" then some (.ref rl) else List.lookup y [(Str.ofString "script", Value.ref l)]) ∧
    News s₁.heap s₁.heap.objs.size h [(rl, listOf rv.toArray nr)] ∧ IntsAre rv rows ∧ 0 < rows.length ∧ rows.length ≤ 5
theorem mid_rows {M : Model} {A : Around} {E : Value → Shared → Prop} {s s₁ : Shared} {t : Sem Flow} {Q : Flow → Shared → Prop} {l : Addr} {vs : List Value} (_h : s₁.heap.IsList l vs.toArray)
    (h1 : wpAny M A t (fun fl s' => fl = Flow.next ∧ MidRows s₁ l s') E s) (h2 : ∀ s', MidRows s₁ l s' → Q .next s') : wpAny M A t Q E s :=
  wpAny_mono h1 (fun fl s' q => by obtain ⟨rfl, q⟩ := q; exact h2 s' q) fun _ _ e => e
theorem WordsIn.snoc {news : List (Addr × Obj)} {vs : List Value} {ws : List (Nat × Int)} (h : WordsIn news vs ws) {a : Addr} {s : Nat} {r : Int} {t u : Tok} {n : Nat} (hm : (a, ({ cls := .type "tuple", data := .seq #[.str (sOf [s]) t, .int r u] n } : Obj)) ∈ news) :
    WordsIn news (vs ++ [.ref a]) (ws ++ [(s, r)]) := by
  induction h with
  | nil => exact .cons hm .nil
  | cons hm' _ ih => exact .cons hm' ih
theorem cend_tup {h₀ : Heap} {L I C D a : Addr} {m : Str → Option Value} {s₁ : Shared} {oI oC oD o : Obj} {S : List (Addr × Obj) → Prop} {rest : Value → List (Addr × Obj) → Prop} {y : Value} {h' : Heap} {tk : Nat} {news : List (Addr × Obj)} {X : Prop}
    (F : Fr h₀ L h' m) (N : News h₀ L h' ((a, o) :: (I, oI) :: (C, oC) :: (D, oD) :: news)) (l : I < a ∧ C < a ∧ D < a ∧ X) (off : LCg.Off3 I C D news) (hS : S ((a, o) :: news)) (r : rest y ((a, o) :: news)) :
    LCg.CompEnd h₀ L m s₁ I oI C oC D oD S rest y { s₁ with heap := h', toks := tk } := by
  refine LCg.CompEnd.intro F N ((a, o) :: news) ?_ ⟨⟨Nat.ne_of_gt l.1, Nat.ne_of_gt l.2.1, Nat.ne_of_gt l.2.2.1⟩, off⟩ hS r
  intro p hp
  simp only [List.mem_cons] at hp ⊢
  rcases hp with q | q | q | q | q
  · exact .inr (.inl q)
  · exact .inr (.inr (.inl q))
  · exact .inr (.inr (.inr (.inl q)))
  · exact .inl q
  · exact .inr (.inr (.inr (.inr q)))
/-- the ledger behind the two comprehensions, its make forgotten -/
theorem led_forget {h₀ h : Heap} {L D dh rl : Addr} {ys hv rv : List Value} {nr : Nat} {tup : List (Addr × Obj)} {words : List (Nat × Int)} {P : Prop} (N : News h₀ L h ((D, LCg.lst ys) :: (tup ++ [(dh, LCg.lst hv), (rl, listOf rv.toArray nr)]))) (hW : WordsIn (tup ++ [(dh, LCg.lst hv), (rl, listOf rv.toArray nr)]) ys words)
    (k : ∀ base : List (Addr × Obj), News h₀ L h ((D, listOf ys.toArray ys.length) :: base) → WordsIn base ys words → (dh, listOf hv.toArray hv.length) ∈ base → (rl, listOf rv.toArray nr) ∈ base → P) : P :=
  k _ N hW (List.mem_append.mpr (.inr List.mem_cons_self)) (List.mem_append.mpr (.inr (List.mem_cons_of_mem _ List.mem_cons_self)))
theorem fr_forget {h₀ h : Heap} {L : Addr} {x : Str} {v : Option Value} {m : Str → Option Value} {P : Prop} (F : Fr h₀ L h (fun y => if y = x then v else m y)) (k : ∀ v', Fr h₀ L h (fun y => if y = x then v' else m y) → P) : P := k _ F
/-- the ledger ahead of the loop over the fronts -/
theorem led_front {h₀ h : Heap} {L T D dh : Addr} {a b c : Int} {ta tb tc : Tok} {nt : Nat} {e1 e2 : Addr × Obj} {ys : List Value} {ny : Nat} {base : List (Addr × Obj)} {words : List (Nat × Int)} {ho : Obj} {P : Prop}
    (N : News h₀ L h ((T, ({ cls := .type "tuple", data := .seq #[.int a ta, .int b tb, .int c tc] nt } : Obj)) :: e1 :: e2 :: (D, listOf ys.toArray ny) :: base))
    (ha : 0 ≤ a ∧ a ≤ 500) (hb : 0 ≤ b ∧ b ≤ 500) (hc : 0 ≤ c ∧ c ≤ 500) (hW : WordsIn base ys words) (mh : (dh, ho) ∈ base)
    (k : ∀ (vs : List Value) (n : Nat) (news : List (Addr × Obj)), News h₀ L h news → (T, ({ cls := .type "tuple", data := .seq vs.toArray n } : Obj)) ∈ news → (∀ v ∈ vs, ∃ f t, v = Value.int f t ∧ 0 ≤ f ∧ f ≤ 500) → WordsIn news ys words → (D, listOf ys.toArray ny) ∈ news → (dh, ho) ∈ news → P) : P := by
  refine k [.int a ta, .int b tb, .int c tc] nt _ N List.mem_cons_self ?_ (hW.mono fun p hp => List.mem_cons_of_mem _ (List.mem_cons_of_mem _ (List.mem_cons_of_mem _ (List.mem_cons_of_mem _ hp)))) (List.mem_cons_of_mem _ (List.mem_cons_of_mem _ (List.mem_cons_of_mem _ List.mem_cons_self))) (List.mem_cons_of_mem _ (List.mem_cons_of_mem _ (List.mem_cons_of_mem _ (List.mem_cons_of_mem _ mh))))
  intro v hv
  simp only [List.mem_cons, List.not_mem_nil, or_false] at hv
  rcases hv with rfl | rfl | rfl
  · exact ⟨_, _, rfl, ha⟩
  · exact ⟨_, _, rfl, hb⟩
  · exact ⟨_, _, rfl, hc⟩
theorem lift_all {rows : List Int} (h6 : (rows.map (fun n => n.fmod 2)).length ≤ 5) (k : Nat) (x : Int) :
    (0 ≤ ((wts 1 (rows.map (fun n => n.fmod 2))).take k).sum + x.fmod 2 * (wts 1 (rows.map (fun n => n.fmod 2))).getLastD 0 ∧ ((wts 1 (rows.map (fun n => n.fmod 2))).take k).sum + x.fmod 2 * (wts 1 (rows.map (fun n => n.fmod 2))).getLastD 0 ≤ 500) ∧
    (0 ≤ ((wts 1 (rows.map (fun n => n.fmod 2))).take k).sum + x.fmod 2 * (wts 1 (rows.map (fun n => n.fmod 2))).getLastD 0 + ((wts 1 (rows.map (fun n => n.fmod 2))).getLastD 0).fdiv 2 ∧ ((wts 1 (rows.map (fun n => n.fmod 2))).take k).sum + x.fmod 2 * (wts 1 (rows.map (fun n => n.fmod 2))).getLastD 0 + ((wts 1 (rows.map (fun n => n.fmod 2))).getLastD 0).fdiv 2 ≤ 500) := by
  have h1 := lift_b h6 k
  have h2 := wts_last_pos (rows.map (fun n => n.fmod 2))
  have h3 := wts_last_le h6
  have h4 := fdiv_b (b := 2) (Int.le_of_lt h2) h3 (by decide)
  have h5 : x.fmod 2 = x % 2 := Int.fmod_eq_emod_of_nonneg _ (by decide)
  have h7 : x.fmod 2 = 0 ∨ x.fmod 2 = 1 := by omega
  rcases h7 with h | h <;> rw [h] <;> omega
theorem seven (x : Int) : 0 ≤ x.fmod 7 ∧ x.fmod 7 ≤ 500 := by
  have h5 : x.fmod 7 = x % 7 := Int.fmod_eq_emod_of_nonneg _ (by decide)
  omega
theorem sml_le {a b : Nat} {x : Str} (h : Sml a x) (hb : a ≤ b) : x.length ≤ b := Nat.le_trans h hb
theorem turn0 {front : Int} {ws : List (Nat × Int)} (hne : ws ≠ []) (hsg : ∀ p ∈ ws, p.1 ≠ 34 ∧ 0 ≤ p.2) {hs : List Int} (hh : ∀ x ∈ hs, x = 0 ∨ x = 1) {i : Nat} (hi : i < hs.length) {text z : Str} (e : cl text = toldZ front ws (hs.take i))
    (hg : hs.getD i 0 = 0) (hz : cl z = parseL (cl text)) : cl z = toldZ front ws (hs.take (i + 1)) ∧ z.length ≤ text.length :=
  ⟨next_told hne hsg hh hi e (by rw [hz, step, if_pos hg]), by rw [cl_len, cl_len, hz]; exact parseL_len _⟩
theorem turn1 {front : Int} {ws : List (Nat × Int)} (hne : ws ≠ []) (hsg : ∀ p ∈ ws, p.1 ≠ 34 ∧ 0 ≤ p.2) {hs : List Int} (hh : ∀ x ∈ hs, x = 0 ∨ x = 1) {i : Nat} (hi : i < hs.length) {text z : Str} (e : cl text = toldZ front ws (hs.take i))
    (hg : hs.getD i 0 ≠ 0) (hz : cl z = stripL (cl text)) : cl z = toldZ front ws (hs.take (i + 1)) ∧ z.length ≤ text.length :=
  ⟨next_told hne hsg hh hi e (by rw [hz, step, if_neg hg]), by rw [cl_len, cl_len, hz]; exact stripL_len _⟩
theorem ne_false {z y : Str} {l : List Nat} (e : cl z = l) (e' : cl y = l) (h : (z != y) = true) : False := by
  obtain rfl : z = y := cl_inj (e.trans e'.symm)
  simp at h
theorem car_snoc {zs : List Value} {ds : List PyData} (h : CarriedAll zs ds) {v : Value} {d : PyData} (hv : Carried v d) : CarriedAll (zs ++ [v]) (ds ++ [d]) := by
  induction h with
  | nil => exact .cons hv .nil
  | cons h1 _ ih => exact .cons h1 ih
local macro_rules | `(tactic| walk_at "call builtin:str.join") => `(tactic| (k_here; k_dflt (refine KT.join_B (g := wtx) 10 (News.isList (by k_asm) (by k_mem)) (by assumption) (by assumption) (by assumption) (by decide) ?_); intro tJ kJ))
local macro_rules | `(tactic| k_mem) => `(tactic| (refine List.mem_cons_of_mem _ ?_; k_mem))
local macro_rules | `(tactic| k_mem) => `(tactic| exact List.mem_cons_self)
local macro_rules | `(tactic| k_mem) => `(tactic| (with_reducible assumption))
local macro_rules | `(tactic| walk_at "FPost") => `(tactic| (dsimp only [FPost]))
local macro_rules | `(tactic| walk_at "FPost") => `(tactic| (dsimp only [FPost]))
local macro_rules | `(tactic| walk_at "subscriptTail Name UnaryOp ref int") => `(tactic| (k_here; (with_unfolding_all refine' it_back ?k1 ?k2 ?k3 ?k4 ?_; (case k1 => k_asm); (case k2 => k_mem); (case k3 => l_ints); (case k4 => first | exact wts_pos _ _ | omega); k_whole); intro tBk))
local macro_rules | `(tactic| walk_at "call ref") => `(tactic| (k_here; k_dflt (refine' weights_use ?k1 ?k2 ?k3 ?k4 ?k5 ?kK ?kd ?ku ?h1 ?h2 ?h3 ?_; (case k1 => k_asm); (case k2 => k_asm); (case k3 => k_asm); (case k4 => k_asm); (case k5 => k_asm); (case kK => first | exact rfl | assumption); (case kd => ktr_room); (case ku => ktr_units); (case h1 => k_mem); (case h2 => l_ints); (case h3 => assumption); k_whole); intro d9 ws9 n9 h9 tk9 F9 N9 hi9))
local macro_rules | `(tactic| walk_at "call builtin:len") => `(tactic| (k_here; (with_reducible show wpAny _ _ (call (Value.builtin "len") [Value.ref _]) _ _ _); k_dflt (refine' kst_len ?k1 ?k2 ?k3 ?k4 ?_; (case k1 => k_asm); (case k2 => k_mem); (case k3 => exact IntsAre.length (by assumption)); (case k4 => omega); k_whole)))
local macro_rules | `(tactic| walk_at "subscriptTail Name Name ref int") => `(tactic| (k_here; (with_unfolding_all refine' it_at ?k1 ?k2 ?k3 ?k4 ?k5 ?k6 ?_; (case k1 => k_asm); (case k2 => k_mem); (case k3 => l_ints); (case k4 => omega); (case k5 => (try simp only [wts_len]; omega)); (case k6 => (try simp only [wts_len]; omega)); k_whole); intro tBk))
local macro_rules | `(tactic| walk_at "call ref") => `(tactic| (k_here; k_dflt (refine' parse_use ?k1 ?k2 ?k3 ?k4 ?k5 ?kK ?kd ?ku ?h1 ?_; (case k1 => k_asm); (case k2 => k_asm); (case k3 => k_asm); (case k4 => k_asm); (case k5 => k_asm); (case kK => first | exact rfl | assumption); (case kd => ktr_room); (case ku => ktr_units); (case h1 => assumption); k_whole); intro z9 t9 h9 tk9 F9 N9 hz9))
local macro_rules | `(tactic| walk_at "call ref") => `(tactic| (k_here; k_dflt (refine' strip_use ?k1 ?k2 ?k3 ?k4 ?k5 ?kK ?kd ?ku ?h1 ?_; (case k1 => k_asm); (case k2 => k_asm); (case k3 => k_asm); (case k4 => k_asm); (case k5 => k_asm); (case kK => first | exact rfl | assumption); (case kd => ktr_room); (case ku => ktr_units); (case h1 => assumption); k_whole); intro z9 t9 h9 tk9 F9 N9 hz9))
local macro_rules | `(tactic| walk_at "call ref") => `(tactic| (k_here; k_dflt (refine' told_use ?k1 ?k2 ?k3 ?k4 ?k5 ?kK ?kd ?ku ?h1 ?h2 ?h3 ?h4 ?h5 ?h6 ?h7 ?h8 ?h9 ?h10 ?_; (case k1 => k_asm); (case k2 => k_asm); (case k3 => k_asm); (case k4 => k_asm); (case k5 => k_asm); (case kK => first | exact rfl | assumption); (case kd => ktr_room); (case ku => ktr_units); (case h1 => k_mem); (case h2 => assumption); (case h3 => (intro p hp; repeat (first | exact hp | refine List.mem_cons_of_mem _ ?_))); (case h4 => assumption); (case h5 => assumption); (case h6 => k_mem); (case h7 => l_ints); (case h8 => first | assumption | (simp only [List.length_take]; omega)); (case h9 => assumption); (case h10 => assumption); k_whole); intro z9 t9 h9 tk9 F9 N9 hz9))
local macro_rules | `(tactic| walk_at "binaryOp Mult str int") => `(tactic| (k_here; k_dflt (refine mul_q (by assumption) ?_); intro tq kq))
local macro_rules | `(tactic| walk_at "call builtin:len") => `(tactic| (k_here; (with_reducible show wpAny _ _ (call (Value.builtin "len") [Value.ref _]) _ _ _); k_dflt (refine' kst_len ?k1 ?k2 ?k3 ?k4 ?_; (case k1 => k_asm); (case k2 => k_mem); (case k3 => first | exact IntsAre.length (by assumption) | exact WordsIn.length (by assumption)); (case k4 => omega); k_whole)))
local macro_rules | `(tactic| kmk_nums) => `(tactic| ((with_reducible refine' kmk_upto_neg ?gi ?gx); (case gi => l_ints); (case gx => omega)))
local macro_rules | `(tactic| kmk_nums) => `(tactic| ((with_reducible refine' kmk_upto ?gi ?gx); (case gi => l_ints); (case gx => omega)))
local macro_rules | `(tactic| walk_at "binaryOp Add str str") => `(tactic| (k_here; (with_reducible show wpAny _ _ (binaryOp Operator.Add (Value.str _ _) (Value.str _ _)) _ _ _); refine PyProof.Rows.add_str ?_ (by first | exact add_fits (by assumption) (by assumption) (by decide) | exact add_fits (sml_add (by assumption) (by assumption)) (by assumption) (by decide)); intro tA kA))
theorem law_holds : PySem.Challenge.rw_nb0018_01.Holds := hd (by
  w_top off
  k_with_none
  k_fill
  intro w s₀ s₁ mg mb G Y fa o pm cd doc dV kV ho hdd hcd hD hmg hg args vals as hpre hlay hrd hwl hlo
  have KX := kIn_of Y
  k_behind G ho hdd hcd hD hmg hpre hlay hrd hwl hlo cd
  (all_goals try k_fold)
  rename Fr _ _ _ _ => F1
  rename IntsAre _ _ => hI
  rename (_ : Heap).IsList _ _ => hIL
  rename List Int => ns
  rename List Value => vs
  have F2 := fr_to F1 (m' := fun y => List.lookup y [(Str.ofString "script", Value.ref _)]) rfl
  clear F1
  walk1
  refine mid_rows hIL ?rows ?cont
  case rows =>
    repeat' (first | (k_unfold; (try dsimp only)) | walk1 | (dsimp only; walk1) | fail "no step")
    · trivial
    · rename News _ _ _ _ => N2
      rename Fr _ _ _ _ => F3
      rename IntsAre _ (List.take 5 ns) => h5
      exact ⟨_, _, _, _, _, _, rfl, F3, N2, h5, by assumption, by rw [List.length_take]; omega⟩
    · trivial
    · rename News _ _ _ _ => N2
      rename Fr _ _ _ _ => F3
      exact ⟨[4, 3, 10], _, _, _, _, _, rfl, F3, fun p hp => N2 p (by rw [List.mem_singleton.mp hp]; exact List.mem_cons_self), .cons _ _ (.cons _ _ (.cons _ _ .nil)), by decide, by decide⟩
  case cont =>
    rintro s' ⟨rows, rv, rl, nr, h, tk, rfl, F', N', hR, hR0, hR5⟩
    dsimp only
    clear F2 hI hIL
    repeat' ((fail_if_success (with_reducible show wpAny _ _ (exec (Stmt.Assign [Expr.Name (Str.ofString "words") _] _ _) _) _ _ _)); first | (k_unfold; (try dsimp only)) | walk1 | (dsimp only; walk1) | fail "no step")
    rename Fr _ _ _ _ => F2
    rename News _ _ _ _ => N2
    rename IntsAre _ (List.map _ rows) => hH
    rename List Value => hv
    k_dflt (refine LCg.Assign_ListComp_U (F₀ := by k_asm) (by rfl) (by with_unfolding_all rfl) (by with_unfolding_all rfl) (by decide) (by rfl) (by decide) (by rfl) (by rfl) (by rfl) ?_)
    walk1
    k_dflt (refine LCg.CompSrc.ledger (by rfl) F2 N2 (List.mem_cons_of_mem _ List.mem_cons_self) ?sz ?rest)
    case sz => exact arr_fits (by have := hR.length; omega)
    case rest =>
      intro g
      refine comp_ind (fun i ys news => ∃ tup, news = tup ++ [(_, LCg.lst hv), (rl, listOf rv.toArray nr)] ∧ WordsIn news ys ((rows.take i).map wOf)) ⟨[], rfl, .nil⟩ ?cturn ?cfin
      case cturn =>
        rintro i v ys news I oI C oC D m₂ h tk E' hin hv ⟨tup, rfl, hW⟩ hC hx F3 N3 off ne
        obtain ⟨z, t, rfl, hz⟩ := hR.at i v (by simpa using hv)
        repeat' (first | (k_unfold; (try dsimp only)) | walk1 | (dsimp only; walk1) | fail "no step")
        rename News _ _ _ (_ :: _ :: _ :: _) => N4
        rename Fr _ _ _ _ => F4
        rename _ ∧ _ ∧ _ ∧ AllLt _ _ => l1
        have hs1 : (rows.take (i + 1)).map wOf = (rows.take i).map wOf ++ [(sgn z, z.fmod 9)] := by
          rw [List.take_add_one, hz, List.map_append]; rfl
        refine cend_tup F4 N4 l1 off (.inr ⟨listOf rv.toArray nr, ?q2, rfl, nr, rfl⟩) ⟨_ :: tup, rfl, ?q3⟩
        case q2 => exact List.mem_cons_of_mem _ (List.mem_append.mpr (.inr (List.mem_cons_of_mem _ List.mem_cons_self)))
        case q3 =>
          rw [hs1]
          exact (hW.mono fun p hp => List.mem_cons_of_mem _ hp).snoc List.mem_cons_self
      case cfin =>
        rintro ys news ⟨tup, rfl, hW⟩
        unfold LCg.FinA
        intro D h tk F3 N3 o1
        have hsz : rv.toArray.size = rows.length := by rw [List.size_toArray, hR.length]
        rw [hsz, List.take_length] at hW
        clear F2 N2
        refine led_forget N3 hW ?_
        clear N3 hW o1 hsz tup
        intro base N3 hW mh mr
        dsimp only
        dsimp only at F3
        have hh2 : ∀ x ∈ rows.map (fun n => n.fmod 2), x = 0 ∨ x = 1 := by
          intro x hx
          obtain ⟨n, -, rfl⟩ := List.mem_map.mp hx
          have h1 : n.fmod 2 = n % 2 := Int.fmod_eq_emod_of_nonneg _ (by decide)
          omega
        have hh5 : (rows.map (fun n => n.fmod 2)).length = rows.length := List.length_map ..
        have hh6 : (rows.map (fun n => n.fmod 2)).length ≤ 5 := by omega
        have hwl := wts_len 1 (rows.map (fun n => n.fmod 2))
        have hwp := wts_last_pos (rows.map (fun n => n.fmod 2))
        have hwq := wts_last_le hh6
        repeat' ((fail_if_success (with_reducible show wpAny _ _ (pyIter _) _ _ _)); first | (k_unfold; (try dsimp only)) | walk1 | (dsimp only; walk1) | fail "no step")
        rename Fr _ _ _ _ => F4
        rename News _ _ _ _ => N4
        have hla := lift_all hh6 ((wts 1 (rows.map (fun n => n.fmod 2))).length - 1) (rows.getD (Int.toNat 0) 0)
        refine fr_forget F4 ?_
        intro v9 F5
        clear F4
        refine led_front N4 hla.1 hla.2 (seven _) hW mh ?_
        intro tv nt news N5 mT hT hW5 mW mH
        clear N4 hla hwl hwp hwq N3 F3 mh mr hW
        refine for_tup (Str.ofString "front") [Str.ofString "front", Str.ofString "text", Str.ofString "number"] rfl rfl F5 N5 mT rfl rfl ?turn ?done
        case turn =>
          intro v u I it h tk hv hlt hic F6 N6
          obtain ⟨front, tf, rfl, hf0, hf1⟩ := hT v hv
          clear F5 N5
          have hbf : Bnd front := by unfold Bnd; omega
          repeat' ((fail_if_success (with_reducible show wpAny _ _ (eval (Expr.ListComp _ _ _ _) _) _ _ _)); first | (k_unfold; (try dsimp only)) | walk1 | (dsimp only; walk1) | fail "no step")
          rename Fr _ _ _ _ => F7
          rename News _ _ _ _ => N7
          clear F6 N6
          have hwl := hW5.length
          have hwn : (rows.map wOf).length = rows.length := List.length_map ..
          have hrun := wOf_run rows
          k_dflt (refine LCp.ListComp_P (F₀ := by k_asm) (by with_unfolding_all rfl) (by decide) (by rfl) (by decide) (by rfl) (by rfl) (by decide) ?_)
          walk1
          k_dflt (refine LCp.SrcLP.ledger (by rfl) F7 N7 (List.mem_cons_of_mem _ mW) ?sz2 ?rest2)
          case sz2 => exact arr_fits (by omega)
          case rest2 =>
            intro g2
            refine comp_indP (fun i zs news' => news' = (I, it) :: news ∧ CarriedAll zs (((rows.map wOf).take i).map fun p => PyData.str (wtx p))) ⟨rfl, .nil⟩ ?cturn2 ?cfin2
            case cturn2 =>
              rintro i v zs _ hin hv2 ⟨rfl, hC⟩
              have hin2 : i < (rows.map wOf).length := by simpa [hwl] using hin
              obtain ⟨a, ta, ua, na, hx, hm⟩ := hW5.at i hin2
              have e : v = .ref a := by simpa [hx] using hv2.symm
              refine ⟨a, _, _, _, _, e, List.mem_cons_of_mem _ hm, rfl, rfl, ?_⟩
              intro I2 oI C oC D2 m₂ h2 tk2 E' hC2 hx1 hx2 F8 N8 off ne
              clear F7 N7
              have hri := hrun ((rows.map wOf).getD i (0, 0)) (by rw [List.getD_eq_getElem?_getD, List.getElem?_eq_getElem hin2]; exact List.getElem_mem _)
              have hb3 : Bnd ((rows.map wOf).getD i (0, 0)).2 := by unfold Bnd; omega
              have hS2 : Sml 1 (sOf [((rows.map wOf).getD i (0, 0)).1]) := Nat.le_refl _
              have hS3 : Sml 8 (sOf (quotes ((rows.map wOf).getD i (0, 0)).2)) := by
                unfold Sml
                rw [sOf_len, quotes_len]; omega
              repeat' ((fail_if_success (with_reducible show LCg.CompEnd _ _ _ _ _ _ _ _ _ _ _ _ _ _)); first | (k_unfold; (try dsimp only)) | walk1 | (dsimp only; walk1) | fail "no step")
              refine LCg.CompEnd.intro F8 N8 _ (fun p hp => hp) off (.inr ⟨listOf ys.toArray ys.length, List.mem_cons_of_mem _ mW, rfl, _, rfl⟩) ⟨rfl, ?_⟩
              have hs1 : ((rows.map wOf).take (i + 1)).map (fun p => PyData.str (wtx p)) = ((rows.map wOf).take i).map (fun p => PyData.str (wtx p)) ++ [PyData.str (wtx ((rows.map wOf).getD i (0, 0)))] := by
                rw [List.take_add_one, List.getElem?_eq_getElem hin2, List.map_append, List.getD_eq_getElem?_getD, List.getElem?_eq_getElem hin2]; rfl
              rw [hs1]
              exact car_snoc hC (.str _ _)
            case cfin2 =>
              rintro zs _ ⟨rfl, hC⟩
              unfold LCg.FinE
              intro D2 h tk F8 N8 o1
              have hsz : ys.toArray.size = (rows.map wOf).length := by rw [List.size_toArray, hwl]
              rw [hsz, List.take_length] at hC
              clear F7 N7 hsz o1
              have hB10 : ∀ a ∈ rows.map wOf, (wtx a).length ≤ 10 := fun a ha => wtx_len (hrun a ha)
              have hBn : (rows.map wOf).length ≤ 1048576 := by omega
              have hSf : Sml 500 (sOf (quotes front)) := by
                unfold Sml
                rw [sOf_len, quotes_len]; omega
              have hSj : Sml 50 (Txt.join (Str.ofString "") ((rows.map wOf).map wtx)) := by
                unfold Sml
                rw [cl_len, cl_txt]
                have := wtext_len (rows.map wOf) hrun
                omega
              dsimp only
              repeat' ((fail_if_success (with_reducible show wpAny _ _ (pyIter _) _ _ _)); first | (k_unfold; (try dsimp only)) | walk1 | (dsimp only; walk1) | fail "no step")
              rename Fr _ _ _ _ => F9
              rename News _ _ _ _ => N9
              rename IsRange _ _ _ _ _ _ _ _ => hr9
              have hc0 : cl (sOf (quotes front) ++ Txt.join (Str.ofString "") ((rows.map wOf).map wtx)) = toldZ front (rows.map wOf) [] := by
                rw [told_nil hf0 fun p hp => (hrun p hp).1, cl_append, cl_sOf, cl_txt]
              have hl0 : (sOf (quotes front) ++ Txt.join (Str.ofString "") ((rows.map wOf).map wtx)).length ≤ 600 := sml_le (sml_add hSf hSj) (by decide)
              have hwne : rows.map wOf ≠ [] := fun e => by rw [e] at hwn; simp at hwn; omega
              have hsg := wOf_all rows
              have hwn5 : (rows.map wOf).length ≤ 5 := by omega
              have hf1k : front ≤ 1000 := by omega
              have hS7 : Sml 4 (Str.ofString "257 ") := by unfold Sml; decide
              clear hB10 hBn hC hSf hSj
              refine for_rangeC (σ := Str × Tok) (fun c => [(Str.ofString "text", .str c.1 c.2)]) [] (fun i c => c.1.length ≤ 600 ∧ cl c.1 = toldZ front (rows.map wOf) ((rows.map (fun n => n.fmod 2)).take i)) (sOf (quotes front) ++ Txt.join (Str.ofString "") ((rows.map wOf).map wtx), ?tk9) rfl hr9 (by omega) F9 N9 ?n1 ?n2 ?nturn ?ndone
              case n1 =>
                intro p hp
                rw [List.mem_singleton.mp hp]
                rfl
              case n2 => exact ⟨hl0, hc0⟩
              case nturn =>
                rintro i ⟨text, tt⟩ u' t I' it' h tk hin ⟨hPl, hP⟩ hlt' hic' F10 N10
                dsimp only at hP hPl
                clear F9 N9 hc0 hl0
                simp only [kstB, List.contains_nil, Bool.false_eq_true, if_false] at F10
                have hSt : Sml 1000 text := by unfold Sml; omega
                repeat' ((fail_if_success (with_reducible show wpAny _ _ (pyIter _) _ _ _)); first | (k_unfold; (try dsimp only)) | walk1 | (dsimp only; walk1) | fail "no step")
                · rename (_ != _) = true => hne
                  with_reducible rename cl _ = parseL _ => hz1
                  with_reducible rename cl _ = toldZ _ _ (List.take (Int.toNat _) _) => hz2
                  with_reducible rename List.getD _ _ _ = 0 => hg
                  exact (ne_false (turn0 hwne hsg hh2 hin hP hg hz1).1 hz2 hne).elim
                · with_reducible rename cl _ = parseL _ => hz1
                  with_reducible rename List.getD _ _ _ = 0 => hg
                  rename News _ _ _ _ => N11
                  rename Fr _ _ _ _ => F11
                  have htn := turn0 hwne hsg hh2 hin hP hg hz1
                  refine FEnd.intro (?za, ?ta) F11 N11 (List.mem_cons_of_mem _ List.mem_cons_self) (fun p hp => List.mem_cons_of_mem _ (List.mem_cons_of_mem _ hp)) ?pa ?ra ?qa
                  case pa => intro p hp; rw [List.mem_singleton.mp hp]; rfl
                  case qa => exact ⟨Nat.le_trans htn.2 hPl, htn.1⟩
                  case ra =>
                    intro z h1 h2 h3
                    have h2 : z ≠ Str.ofString "text" := h2 _ (List.mem_singleton.mpr rfl)
                    simp only [h1, h2, if_false]
                · rename (_ != _) = true => hne
                  with_reducible rename cl _ = stripL _ => hz1
                  with_reducible rename cl _ = toldZ _ _ (List.take (Int.toNat _) _) => hz2
                  with_reducible rename List.getD _ _ _ ≠ 0 => hg
                  exact (ne_false (turn1 hwne hsg hh2 hin hP hg hz1).1 hz2 hne).elim
                · with_reducible rename cl _ = stripL _ => hz1
                  with_reducible rename List.getD _ _ _ ≠ 0 => hg
                  rename News _ _ _ _ => N11
                  rename Fr _ _ _ _ => F11
                  have htn := turn1 hwne hsg hh2 hin hP hg hz1
                  refine FEnd.intro (?zb, ?tb) F11 N11 (List.mem_cons_of_mem _ List.mem_cons_self) (fun p hp => List.mem_cons_of_mem _ (List.mem_cons_of_mem _ hp)) ?pb ?rb ?qb
                  case pb => intro p hp; rw [List.mem_singleton.mp hp]; rfl
                  case qb => exact ⟨Nat.le_trans htn.2 hPl, htn.1⟩
                  case rb =>
                    intro z h1 h2 h3
                    have h2 : z ≠ Str.ofString "text" := h2 _ (List.mem_singleton.mpr rfl)
                    simp only [h1, h2, if_false]
              case ndone =>
                rintro ⟨text, tt⟩ u' h tk ⟨hPl, hP⟩ F10 N10
                clear F9 N9 hc0 hl0
                dsimp only at hP hPl
                simp only [kstB, List.contains_nil, Bool.false_eq_true, if_false] at F10
                repeat' ((fail_if_success (with_reducible show wpAny _ _ (pyIter _) _ _ _)); first | (k_unfold; (try dsimp only)) | walk1 | (dsimp only; walk1) | fail "no step")
                rename News _ _ _ _ => N11
                rename Fr _ _ _ _ => F11
                refine FEnd.intro () F11 N11 (List.mem_cons_of_mem _ List.mem_cons_self) (fun p hp => List.mem_cons_of_mem _ (List.mem_cons_of_mem _ hp)) (fun p hp => nomatch hp) ?rz trivial
                case rz =>
                  intro z h1 h2 h3
                  have h4 := h3
                  simp only [List.contains_cons, List.contains_nil, Bool.or_false, Bool.or_eq_false_iff, beq_eq_false_iff_ne, ne_eq] at h4
                  obtain ⟨q1, q2, q3⟩ := h4
                  simp only [h3, q1, q2, q3, Bool.false_eq_true, if_false]
        case done =>
          intro u h tk F6 N6
          clear F5 N5
          k_steps)
end Mine
theorem PySem.Challenge.cw_nb0018_01_holds : PySem.Challenge.rw_nb0018_01.Holds := by
  exact Mine.law_holds
