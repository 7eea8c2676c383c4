import PyProof.Rows.All
import Wide.All
import OpenK.AllK
import Wide.FinOn
import PySem.Challenge.RW_iv0022_01
open PySem PySem.W PyProof.Rows
set_option Elab.async false
set_option compiler.extract_closed false
namespace Mine
set_option maxRecDepth 100000 in
set_option maxHeartbeats 8000000 in
open_top hd for PySem.Challenge.rw_iv0022_01
open PySem.Calls PyProof.V PySem.Spec
noncomputable abbrev pg : Program := PySem.Challenge.rw_iv0022_01.row.prog
noncomputable abbrev lse : List Str := looseW hd.view_39 []

/-- a contract: called with these arguments over this ledger, f hands back what Post says -/
def Ct (w : World) (f : Value) (args : List Value) (nd nu : Nat) (news : List (Addr × Obj)) (Post : Value → List (Addr × Obj) → Prop) : Prop :=
  ∀ (mean : ExcName → Option Value) (mg mb : Str → Option Value) (dp un : Nat) (gd : Option (List Code)) (cn : Str) (cs : Scope) (a : Addr) (ccd : Value) (cl : List (Str × Addr)) (outer : List Env) (A₀ : Around) (base h₀ : Heap) (L : Addr) (m : Str → Option Value) (s : Shared)
    (Q E : Value → Shared → Prop),
    Below A₀ base outer h₀ → Fr h₀ L s.heap m → (hd.heap_39 w.params).In h₀ → News h₀ L s.heap news → Top hd.view_39 lse mean mg mb h₀ → cs.kind = .function → dp + nd < recursionLimit → un + nu < cLine →
    (∀ r news' h' tk', Fr h₀ L h' m → News h₀ L h' news' → Post r news' → Q r { s with heap := h', toks := tk' }) →
    wpAny (model pg w) (ktrTop dp un gd cn cs L a ccd cl outer) (call f args) Q E s

theorem Ct.mono {w : World} {f : Value} {args : List Value} {nd nu : Nat} {news : List (Addr × Obj)} {P P' : Value → List (Addr × Obj) → Prop} (h : Ct w f args nd nu news P) (hp : ∀ r n, P r n → P' r n) : Ct w f args nd nu news P' := by
  intro mean mg mb dp un gd cn cs a ccd cl outer A₀ base h₀ L m s Q E B F X N T hk hd' hu hret
  exact h mean mg mb dp un gd cn cs a ccd cl outer A₀ base h₀ L m s Q E B F X N T hk hd' hu fun r n h' tk' F' N' p => hret r n h' tk' F' N' (hp r n p)

theorem ct_use {w : World} {f : Value} {args : List Value} {nd nu : Nat} {news : List (Addr × Obj)} {Post : Value → List (Addr × Obj) → Prop} {mean : ExcName → Option Value} {mg mb : Str → Option Value} {dp un : Nat} {gd : Option (List Code)} {cn : Str} {cs : Scope} {a : Addr} {ccd : Value} {cl : List (Str × Addr)} {outer : List Env} {A₀ : Around} {base h₀ : Heap} {L : Addr} {m : Str → Option Value} {s : Shared}
    {Q E : Value → Shared → Prop} (C : Ct w f args nd nu news Post)
    (B : Below A₀ base outer h₀) (F : Fr h₀ L s.heap m) (X : (hd.heap_39 w.params).In h₀) (N : News h₀ L s.heap news) (T : Top hd.view_39 lse mean mg mb h₀) (hk : cs.kind = .function) (hd' : dp + nd < recursionLimit) (hu : un + nu < cLine)
    (ret : ∀ r news' h' tk', Fr h₀ L h' m → News h₀ L h' news' → Post r news' → Q r { s with heap := h', toks := tk' }) :
    wpAny (model pg w) (ktrTop dp un gd cn cs L a ccd cl outer) (call f args) Q E s := C _ _ _ _ _ _ _ _ _ _ _ _ _ _ _ _ _ _ _ _ B F X N T hk hd' hu ret

/-- the ledger with the object at a changed -/
structure Chg (a : Addr) (o' : Obj) (news news' : List (Addr × Obj)) : Prop where
  here : (a, o') ∈ news'
  keep : ∀ p ∈ news, p.1 ≠ a → p ∈ news'
  back : ∀ p ∈ news', p = (a, o') ∨ (p ∈ news ∧ p.1 ≠ a)
theorem chg_of {h₀ h h' : Heap} {L a : Addr} {o o' : Obj} {news : List (Addr × Obj)} (N : News h₀ L h news) (hm : (a, o) ∈ news) (hs : Heap.SameBut a h h') (ho' : h'.get? a = some o') :
    ∃ news', News h₀ L h' news' ∧ Chg a o' news news' := by
  refine ⟨_, N.update hm hs ho', ⟨List.mem_map.mpr ⟨_, hm, by simp⟩, fun p hp hne => List.mem_map.mpr ⟨p, hp, by simp [hne]⟩, fun p hp => ?_⟩⟩
  obtain ⟨q, hq, rfl⟩ := List.mem_map.mp hp
  by_cases e : q.1 = a
  · left; simp [e]
  · right; simp only [if_neg e]; exact ⟨hq, e⟩

section
variable {prog : Program} {w : World} {A : Around} {E : Value → Shared → Prop} {s : Shared} {h₀ : Heap} {L : Addr} {m : Str → Option Value} {news : List (Addr × Obj)}

theorem fr_lit {h : Heap} {ls : List (Str × Value)} (F : Fr h₀ L h m) (hl : ∀ p ∈ ls, m p.1 = some p.2) : Fr h₀ L h (kstB m ls) := by
  have e : kstB m ls = m := funext fun y => kstB_eq hl fun _ => rfl
  rw [e]; exact F

theorem st_item {l : Addr} {vs : List Value} {n : Nat} {k : Int} {t : Tok} {v : Value} {Q : Unit → Shared → Prop} (F : Fr h₀ L s.heap m) (N : News h₀ L s.heap news) (hm : (l, listOf vs.toArray n) ∈ news) (h0 : 0 ≤ k) (h1 : k < vs.length) (hfit : k < 2 ^ 63)
    (h : ∀ h' news', Fr h₀ L h' m → News h₀ L h' news' → Chg l (listOf (vs.set k.toNat v).toArray n) news news' → Q () { s with heap := h' }) :
    wpAny (model prog w) A (setItem (.ref l) (.int k t) v) Q E s := by
  have z := N _ hm
  refine ki_setAt z.1 h0 hfit (by rw [List.size_toArray]; exact h1) ?_
  have hs : Heap.SameBut l s.heap (s.heap.update l (Obj.mapSeq (·.setIfInBounds k.toNat v))) := Heap.SameBut.update ..
  have ho := PySem.IsL.update z.1 (fun xs => xs.setIfInBounds k.toNat v)
  have e1 : vs.toArray.setIfInBounds k.toNat v = (vs.set k.toNat v).toArray := by apply Array.toList_inj.mp; simp
  rw [e1] at ho
  have e2 : (if (vs.set k.toNat v).toArray.size == vs.toArray.size then n else n + 1) = n := by simp
  rw [e2] at ho
  obtain ⟨news', N', C⟩ := chg_of N hm hs ho
  exact h _ news' (F.change hs z.2.1 z.2.2) N' C

theorem st_del {l : Addr} {vs : List Value} {n : Nat} {k : Int} {t : Tok} {Q : Unit → Shared → Prop} (F : Fr h₀ L s.heap m) (N : News h₀ L s.heap news) (hm : (l, listOf vs.toArray n) ∈ news) (h0 : 0 ≤ k) (h1 : k < vs.length) (hsz : vs.length ≤ 1000)
    (h : ∀ h' news', Fr h₀ L h' m → News h₀ L h' news' → Chg l (listOf (vs.eraseIdx k.toNat).toArray (n + 1)) news news' → Q () { s with heap := h' }) :
    wpAny (model prog w) A (delItem (.ref l) (.int k t)) Q E s := by
  have z := N _ hm
  obtain ⟨j, rfl⟩ := Int.eq_ofNat_of_zero_le h0
  have hj : j < vs.length := by omega
  have hk : seqIndex? (j : Int) vs.toArray.size = some j := by
    unfold seqIndex?
    rw [List.size_toArray]
    have : ¬ ((j : Int) < 0) := by omega
    simp only [this, if_false]
    rw [if_pos (by simp; omega)]
    simp
  have hz : vs.toArray.size ≤ sizeLine := by rw [List.size_toArray, sizeLine_eq]; omega
  refine P.delItem_list (n := n) z.1 (fitsIndex_of (by omega) (by omega)) hk ?_ hz
  have hs : Heap.SameBut l s.heap (s.heap.update l (Obj.mapSeq fun xs => xs.eraseIdxIfInBounds j)) := Heap.SameBut.update ..
  have ho := PySem.IsL.update z.1 (fun xs => xs.eraseIdxIfInBounds j)
  have e1 : vs.toArray.eraseIdxIfInBounds j = (vs.eraseIdx j).toArray := by apply Array.toList_inj.mp; simp [Array.toList_eraseIdxIfInBounds]
  rw [e1] at ho
  have e2 : (if (vs.eraseIdx j).toArray.size == vs.toArray.size then n else n + 1) = n + 1 := by
    rw [List.size_toArray, List.size_toArray, List.length_eraseIdx_of_lt hj]
    rw [if_neg (by simp; omega)]
  rw [e2] at ho
  obtain ⟨news', N', C⟩ := chg_of N hm hs ho
  exact h _ news' (F.change hs z.2.1 z.2.2) N' C

theorem st_append {l : Addr} {vs : List Value} {n : Nat} {v : Value} {Q : Value → Shared → Prop} (F : Fr h₀ L s.heap m) (N : News h₀ L s.heap news) (hm : (l, listOf vs.toArray n) ∈ news) (hsz : vs.length ≤ 1000)
    (h : ∀ h' news', Fr h₀ L h' m → News h₀ L h' news' → Chg l (listOf (vs ++ [v]).toArray (n + 1)) news news' → Q .none { s with heap := h' }) :
    wpAny (model prog w) A (call (.builtin "list.append") [.ref l, v]) Q E s := by
  have z := N _ hm
  have hz : vs.toArray.size ≤ sizeLine := by rw [List.size_toArray, sizeLine_eq]; omega
  refine append_at (hsz := hz) z.1 fun h' hs ho' => ?_
  have e1 : vs.toArray.push v = (vs ++ [v]).toArray := by simp
  rw [e1] at ho'
  obtain ⟨news', N', C⟩ := chg_of N hm hs ho'
  exact h _ news' (F.change hs z.2.1 z.2.2) N' C

/-- a dict object with these pairs at this epoch -/
def DAt (w : World) (o : Obj) (kvs : List (Str × Value)) (ep : Nat) : Prop :=
  ∃ es, o.ExactDict ∧ o.data = .dict es ep ∧ KeysOf (strKind pg w) es ∧ Pairs (strKind pg w) es.toList kvs ∧ (kvs.map (·.1)).Nodup
theorem DAt.is {o : Obj} {kvs : List (Str × Value)} {ep : Nat} (x : DAt w o kvs ep) : o.IsDictOf (strKind pg w) kvs := let ⟨es, r⟩ := x; ⟨es, ep, r⟩
theorem DAt.of {o : Obj} {kvs : List (Str × Value)} (x : o.IsDictOf (strKind pg w) kvs) : ∃ ep, DAt w o kvs ep := let ⟨es, ep, r⟩ := x; ⟨ep, es, r⟩
theorem DAt.at {h : Heap} {a : Addr} {o : Obj} {kvs : List (Str × Value)} {ep : Nat} (x : DAt w o kvs ep) (ho : h.get? a = some o) : h.DictAt (strKind pg w) a kvs ep := let ⟨es, r⟩ := x; ⟨o, es, ho, r⟩
theorem DAt.ofAt {h : Heap} {a : Addr} {kvs : List (Str × Value)} {ep : Nat} (x : h.DictAt (strKind pg w) a kvs ep) : ∃ o, h.get? a = some o ∧ DAt w o kvs ep := let ⟨o, es, ho, r⟩ := x; ⟨o, ho, es, r⟩

end
theorem rng_small {n : Nat} (h : n ≤ 1000) : Builtin.Range.small 0 (n : Int) 1 = true := small_one (by decide) (by decide) (by omega) (by omega)
theorem rng_size (n : Nat) : Builtin.Range.rangeSize 0 (n : Int) 1 = (n : Int) := by rw [rangeSize_nat]; omega
/-- the frame's map binds these names so -/
def Bnd (m : Str → Option Value) (l : List (Str × Value)) : Prop := ∀ p ∈ l, m p.1 = some p.2
theorem Bnd.nil {m : Str → Option Value} : Bnd m [] := fun _ h => nomatch h
theorem Bnd.cons {m : Str → Option Value} {x : Str} {v : Value} {l : List (Str × Value)} (h : m x = some v) (r : Bnd m l) : Bnd m ((x, v) :: l) := fun p hp => by
  rcases List.mem_cons.mp hp with rfl | hp
  · exact h
  · exact r p hp
section
variable {prog : Program} {w : World} {A : Around} {E : Value → Shared → Prop} {s : Shared} {env : Env} {h₀ : Heap} {target : PySem.Expr} {body : List Stmt} {Q : Flow → Shared → Prop}

/-- any iterator: an invariant over the turn's number, the frame's map and the ledger -/
theorem turns_of {I : Addr} {fp wr : List Addr} {n : Nat} {P Md : Nat → Value → Heap → Prop} {St : Nat → Heap → Prop} {m₀ : Str → Option Value} {news : List (Addr × Obj)}
    (W : KTurns prog w A target I fp wr n P Md St) (keep : List (Addr × Obj)) (hfp : ∀ b ∈ fp, b ∈ wr ∨ ∃ o, (b, o) ∈ keep) (hob : ∀ i h, St i h → ∀ b ∈ wr, ∃ o, h.get? b = some o)
    (hLf : env.locals ∉ fp) (hwr : ∀ b ∈ wr, h₀.get? b = none) (hnw : ∀ p ∈ news, p.1 ∉ wr) (hst : St 0 s.heap) (F : Fr h₀ env.locals s.heap m₀) (N : News h₀ env.locals s.heap news)
    (J : Nat → (Str → Option Value) → List (Addr × Obj) → Prop) (hj : J 0 m₀ news) (hk : ∀ i m nx, J i m nx → ∀ p ∈ keep, p ∈ nx)
    (turn : ∀ i v m₁ nx h tk own, i < n → P i v h → OwnOff own (nx.map (·.1)) → J i m₁ nx → Fr h₀ env.locals h m₁ → News h₀ env.locals h (nx ++ own) →
      wpAny (model prog w) A (assign target env v) (fun _ s₃ => wpAny (model prog w) A (execs body env) (InvPostG h₀ env.locals (J (i + 1)) own { s with heap := h, toks := tk } Q) E s₃) E { s with heap := h, toks := tk })
    (done : ∀ m₁ nx h tk, J n m₁ nx → Fr h₀ env.locals h m₁ → News h₀ env.locals h nx → Q .next { s with heap := h, toks := tk }) :
    TurnsAt prog w A h₀ env target body Q E (.ref I) s := by
  refine ⟨I, fp, wr, n, P, Md, St, m₀, news, J, rfl, W, hLf, hwr, hnw, hst, F, N, hj, ?_, ?_⟩
  · intro i v m₁ news₁ h₁ tk₁ own hin hP hJ hoff hown hget hall hst₁ F₁ N₁
    have hsep : OwnOff (own.filter fun p => decide (p.1 ∈ wr)) (news₁.map (·.1)) := by
      intro p hp b hb e
      obtain ⟨q, hq, rfl⟩ := List.mem_map.mp hb
      have h1 : p.1 ∈ wr := by simpa using (List.mem_filter.mp hp).2
      exact hoff q hq (e ▸ h1)
    have N₂ : News h₀ env.locals h₁ (news₁ ++ own.filter fun p => decide (p.1 ∈ wr)) := fun p hp =>
      N₁ p ((List.mem_append.mp hp).elim (fun h => List.mem_append.mpr (.inr h)) fun h => List.mem_append.mpr (.inl (List.mem_filter.mp h).1))
    refine wpAny_mono (turn i v m₁ news₁ h₁ tk₁ _ hin hP hsep hJ F₁ N₂) (fun _ s₃ h₃ => wpAny_mono h₃ (fun f s₄ p => ?_) fun _ _ e => e) fun _ _ e => e
    have fin : InvEndG h₀ env.locals (J (i + 1)) (own.filter fun p => decide (p.1 ∈ wr)) { s with heap := h₁, toks := tk₁ } s₄ → LoopStepU h₀ env.locals wr own (J (i + 1)) { s with heap := h₁, toks := tk₁ } .next s₄ := by
      rintro ⟨h', tk, m', news', nx, e, F', N', hn, ho, ha, hm⟩
      refine ⟨rfl, h', tk, m', nx, e, F', fun p hp => ?_, fun p hp hw => ?_, hm⟩
      · rcases List.mem_append.mp hp with hp | hp
        · by_cases hw : p.1 ∈ wr
          · exact N' p (ho p (List.mem_filter.mpr ⟨hp, by simpa using hw⟩))
          · rcases hfp p.1 (hown p hp) with h | ⟨o, h⟩
            · exact absurd h hw
            · have h2 := (N₁ _ (List.mem_append.mpr (.inr (hk i _ _ hJ _ h)))).1
              have h3 := hget p hp
              have h4 : p = (p.1, o) := Prod.ext rfl (Option.some.inj (h3.symm.trans h2))
              rw [h4]
              exact N' _ (hn _ (hk _ _ _ hm _ h))
        · exact N' p (hn p hp)
      · obtain ⟨o, hbo⟩ := hob _ _ hst₁ _ hw
        have h5 := hall _ (W.sub _ hw) (hwr _ hw) o hbo
        exact ha _ (List.mem_filter.mpr ⟨h5, by simpa using hw⟩) p.1 (List.mem_map.mpr ⟨p, hp, rfl⟩) rfl
    cases f with
    | ret v => exact .ret p
    | brk => exact .brk p
    | next => exact .next (fin p)
    | cont => exact .cont (fin p)
  · intro h' tk m' news' F' N' _ hJ
    exact done m' news' h' tk hJ F' N'

/-- for over a list of the ledger -/
theorem list_turns {l : Addr} {vs : List Value} {nn : Nat} {m₀ : Str → Option Value} {news : List (Addr × Obj)} (J : Nat → (Str → Option Value) → List (Addr × Obj) → Prop)
    (hh : A.handled = none) (F : Fr h₀ env.locals s.heap m₀) (N : News h₀ env.locals s.heap news) (hl : ∀ i m nx, J i m nx → (l, listOf vs.toArray nn) ∈ nx) (hj : J 0 m₀ news)
    (turn : ∀ i v m₁ nx h tk own, vs[i]? = some v → OwnOff own (nx.map (·.1)) → J i m₁ nx → Fr h₀ env.locals h m₁ → News h₀ env.locals h (nx ++ own) →
      wpAny (model prog w) A (assign target env v) (fun _ s₃ => wpAny (model prog w) A (execs body env) (InvPostG h₀ env.locals (J (i + 1)) own { s with heap := h, toks := tk } Q) E s₃) E { s with heap := h, toks := tk })
    (done : ∀ m₁ nx h tk, J vs.length m₁ nx → Fr h₀ env.locals h m₁ → News h₀ env.locals h nx → Q .next { s with heap := h, toks := tk }) :
    wpAny (model prog w) A (pyIter (.ref l)) (fun it s₂ => TurnsAt prog w A h₀ env target body Q E it s₂) E s := by
  have hm := hl _ _ _ hj
  have hol : s.heap.get? l = some (listOf vs.toArray nn) := (N _ hm).1
  have hls : s.heap.IsList l vs.toArray := ⟨_, hol, rfl, nn, rfl⟩
  have hne : l ≠ s.heap.objs.size := Nat.ne_of_lt (Heap.lt_size hol)
  refine wpAny_pyIter_list hls ?_
  have hlen : vs.toArray.size = vs.length := by simp
  refine turns_of (s := { s with heap := s.heap.push _ }) (KTurns.ofWalks (Walks.list (prog := prog) (w := w) hh s.heap.objs.size l hne vs.toArray) fun i v s Q E st q => letGo_listiter st.1 q) [(l, listOf vs.toArray nn)] ?_ ?_ ?_ ?_ ?_ ?_ (F.push _) (fun p hp => ⟨Heap.get?_push_of_some _ (N p hp).1, (N p hp).2⟩) J hj (fun i m nx h p hp => by rw [List.mem_singleton.mp hp]; exact hl i m nx h) ?_ ?_
  · intro b hb
    rcases List.mem_cons.mp hb with e | hb
    · exact .inl (by simp [e])
    · exact .inr ⟨_, by rw [List.mem_singleton.mp hb]; exact List.mem_singleton.mpr rfl⟩
  · intro i h st b hb
    obtain ⟨⟨oI, hoI, _⟩, _⟩ := id st
    rw [List.mem_singleton.mp hb]
    exact ⟨oI, hoI⟩
  · intro hm'
    rcases List.mem_cons.mp hm' with e | hm'
    · exact absurd F.ns.lt (e ▸ Nat.lt_irrefl _)
    · exact (N _ hm).2.1 ((List.mem_singleton.mp hm').symm)
  · intro b hb
    rw [List.mem_singleton.mp hb]
    exact next_is_new F
  · intro p hp hI
    exact absurd (Heap.lt_size (N p hp).1) ((List.mem_singleton.mp hI) ▸ Nat.lt_irrefl _)
  · exact ⟨⟨_, Heap.get?_push_size _ rfl, rfl, rfl⟩, hls.at fun o e => Heap.get?_push_of_some _ e⟩
  · intro i v m₁ nx h tk own hi hP hoff hJ F₁ N₁
    have hP' : vs[i]? = some v := by
      have q : vs.toArray[i]? = some v := hP
      simpa using q
    exact turn i v m₁ nx h tk own hP' hoff hJ F₁ N₁
  · intro m₁ nx h tk hJ
    rw [hlen] at hJ
    exact done m₁ nx h tk hJ

/-- for over a range -/
theorem range_turns {r : Addr} {a₀ b₀ : Int} {t₀ u₀ v₀ : Tok} {n : Nat} {x : Str} {px : Pos} {m₀ : Str → Option Value} {news : List (Addr × Obj)} (J : Nat → (Str → Option Value) → List (Addr × Obj) → Prop)
    (hh : A.handled = none) (hr : IsRange s.heap r a₀ b₀ 1 t₀ u₀ v₀) (hsmall : Builtin.Range.small a₀ b₀ 1 = true) (hsz : Builtin.Range.rangeSize a₀ b₀ 1 = (n : Int)) (F : Fr h₀ env.locals s.heap m₀) (N : News h₀ env.locals s.heap news) (hj : J 0 m₀ news)
    (turn : ∀ (i : Nat) t m₁ nx h tk own, i < n → OwnOff own (nx.map (·.1)) → J i m₁ nx → Fr h₀ env.locals h m₁ → News h₀ env.locals h (nx ++ own) →
      wpAny (model prog w) A (assign (.Name x px) env (.int (a₀ + (i : Int)) t)) (fun _ s₃ => wpAny (model prog w) A (execs body env) (InvPostG h₀ env.locals (J (i + 1)) own { s with heap := h, toks := tk } Q) E s₃) E { s with heap := h, toks := tk })
    (done : ∀ m₁ nx h tk, J n m₁ nx → Fr h₀ env.locals h m₁ → News h₀ env.locals h nx → Q .next { s with heap := h, toks := tk }) :
    wpAny (model prog w) A (pyIter (.ref r)) (fun it s₂ => TurnsAt prog w A h₀ env (.Name x px) body Q E it s₂) E s := by
  refine wpAny_pyIter_range hr hsmall ?_
  have W : Walks prog w A s.heap.objs.size [s.heap.objs.size] [s.heap.objs.size] n (fun i v => i < n ∧ ∃ t, v = .int (a₀ + i * 1) t)
      (fun i h => IsRangeIter h s.heap.objs.size (a₀ + (i : Nat) * 1) ((n : Int) - (i : Nat)) 1) := (Walks.range hh _ a₀ 1 n).bound
  refine turns_of (s := { s with heap := s.heap.push _ }) (KTurns.ofWalks W fun i v s Q E st q => wpAny_of_eq (rfl : letOwnedTupleGo (.Name x px) (.ref _) v = pure ()) q) [] (fun b hb => .inl hb) ?_ ?_ ?_ ?_ (by show IsRangeIter _ _ _ _ _; rw [hsz]; simpa using Heap.get?_push_size _ rfl) (F.push _) (fun p hp => ⟨Heap.get?_push_of_some _ (N p hp).1, (N p hp).2⟩) J hj (fun i m nx h p hp => nomatch hp) ?_ ?_
  · intro i h st b hb
    rw [List.mem_singleton.mp hb]
    exact ⟨_, st⟩
  · intro hm
    exact absurd F.ns.lt ((List.mem_singleton.mp hm) ▸ Nat.lt_irrefl _)
  · intro b hb
    rw [List.mem_singleton.mp hb]
    exact next_is_new F
  · intro p hp hI
    exact absurd (Heap.lt_size (N p hp).1) ((List.mem_singleton.mp hI) ▸ Nat.lt_irrefl _)
  · rintro i v m₁ nx h tk own hi ⟨_, t, rfl⟩ hoff hJ F₁ N₁
    have e1 : a₀ + (i : Int) * 1 = a₀ + (i : Int) := by omega
    rw [e1]
    exact turn i t m₁ nx h tk own hi hoff hJ F₁ N₁
  · intro m₁ nx h tk hJ
    exact done m₁ nx h tk hJ
end

section
variable {prog : Program} {w : World} {A : Around} {E : Value → Shared → Prop} {s : Shared} {env : Env} {h₀ : Heap} {body : List Stmt} {Q : Flow → Shared → Prop}
/-- an item iterator's object -/
abbrev itO (d : Addr) (i n ep : Nat) (ok ov : Value) : Obj := { cls := .type "dict_itemiterator", dict := none, data := .fields #[.none, .bool false, .ref d, .int i 0, .int n 0, .int ep 0, ok, ov], slots := #[] }
abbrev tupO (vs : List Value) : Obj := { cls := .type "tuple", data := .seq vs.toArray }

def ItEnd (w : World) (h₀ : Heap) (L I d : Addr) (it : Obj) (n ep : Nat) (J : List (Str × Value) → (Str → Option Value) → List (Addr × Obj) → Prop) (s₁ s₂ : Shared) : Prop :=
  ∃ h' tk m' news' nx kv o, s₂ = { s₁ with heap := h', toks := tk } ∧ Fr h₀ L h' m' ∧ News h₀ L h' news' ∧ (∀ p ∈ nx, p ∈ news') ∧ (I, it) ∈ news' ∧ (∀ p ∈ nx, p.1 ≠ I) ∧ (d, o) ∈ nx ∧ DAt w o kv ep ∧ kv.length = n ∧ J kv m' nx
theorem ItEnd.intro {w : World} {h₀ : Heap} {L I d : Addr} {it : Obj} {n ep : Nat} {J : List (Str × Value) → (Str → Option Value) → List (Addr × Obj) → Prop} {s₁ : Shared} {h' : Heap} {tk : Nat} {m' : Str → Option Value} {news' : List (Addr × Obj)} (nx : List (Addr × Obj)) (kv : List (Str × Value)) (o : Obj)
    (F : Fr h₀ L h' m') (N : News h₀ L h' news') (hn : ∀ p ∈ nx, p ∈ news') (hI : (I, it) ∈ news') (hoff : ∀ p ∈ nx, p.1 ≠ I) (hm : (d, o) ∈ nx) (hD : DAt w o kv ep) (hl : kv.length = n) (hJ : J kv m' nx) : ItEnd w h₀ L I d it n ep J s₁ { s₁ with heap := h', toks := tk } :=
  ⟨h', tk, m', news', nx, kv, o, rfl, F, N, hn, hI, hoff, hm, hD, hl, hJ⟩
def ItPost (w : World) (h₀ : Heap) (L I d : Addr) (it : Obj) (n ep : Nat) (J : List (Str × Value) → (Str → Option Value) → List (Addr × Obj) → Prop) (s₁ : Shared) (Q : Flow → Shared → Prop) (f : Flow) (s₂ : Shared) : Prop :=
  match f with
  | .ret v => Q (.ret v) s₂
  | .brk => Q .next s₂
  | _ => ItEnd w h₀ L I d it n ep J s₁ s₂

/-- for over a dict's items, the dict's values may be stored anew in the turn -/
def ItemsAt (w : World) (A : Around) (h₀ : Heap) (env : Env) (elts : List PySem.Expr) (kk : Nat) (tpos : Pos) (body : List Stmt) (Q : Flow → Shared → Prop) (E : Value → Shared → Prop) (s : Shared) (m₀ : Str → Option Value) (xv : Value) (s₁ : Shared) : Prop :=
  ∃ vw h₁ tk₁ ep o nx d kvs, xv = .ref vw ∧ s₁ = { s with heap := h₁, toks := tk₁ } ∧ Fr h₀ env.locals h₁ m₀ ∧ News h₀ env.locals h₁ nx ∧ h₁.IsItemsView vw d ∧ (d, o) ∈ nx ∧ DAt w o kvs ep ∧
      ∃ (J : Nat → List (Str × Value) → (Str → Option Value) → List (Addr × Obj) → Prop), J 0 kvs m₀ nx ∧
      (∀ (I T : Addr) i k v key kv m₁ nx o h tk, kv[i]? = some (k, v) → (strKind pg w).is k key = true → kv.length = kvs.length → J i kv m₁ nx → (∀ p ∈ nx, p.1 ≠ I) → (∀ p ∈ nx, p.1 ≠ T) → (d, o) ∈ nx → DAt w o kv ep → Fr h₀ env.locals h m₁ →
        News h₀ env.locals h ((T, tupO [key, v]) :: (I, itO d (i + 1) kvs.length ep key v) :: nx) →
        wpAny (model pg w) A (assign (.Tuple elts kk tpos) env (.ref T)) (fun _ s₃ => wpAny (model pg w) A (execs body env) (ItPost w h₀ env.locals I d (itO d (i + 1) kvs.length ep key v) kvs.length ep (J (i + 1)) { s with heap := h, toks := tk } Q) E s₃) E { s with heap := h, toks := tk }) ∧
      (∀ kv m₁ nx h tk, J kvs.length kv m₁ nx → Fr h₀ env.locals h m₁ → News h₀ env.locals h nx → Q .next { s with heap := h, toks := tk })
theorem items_mut {elts : List PySem.Expr} {kk : Nat} {tpos : Pos} {iter : PySem.Expr} {pos : Pos} {m₀ : Str → Option Value}
    (F₀ : Fr h₀ env.locals s.heap m₀) (hh : A.handled = none)
    (h : wpAny (model pg w) A (eval iter env) (ItemsAt w A h₀ env elts kk tpos body Q E s m₀) E s)
    (hs : ∀ x, foldedSetIterable iter env x = pure x := by intro _; rfl)
    (hE : PassesOwn (model pg w) A env E := by passes_own) :
    wpAny (model pg w) A (exec (.For (.Tuple elts kk tpos) iter body [] pos) env) Q E s := by
  let _ := F₀
  refine wpAny_For (wpAny_mono h (fun xv s₁ h₁ => ?_) fun _ _ e => e) hs
  obtain ⟨vw, h₁, tk₁, ep, o, nx, d, kvs, rfl, rfl, F, N, hv, hm, hD, J, hj, turn, done⟩ := h₁
  have hdo : h₁.get? d = some o := (N _ hm).1
  refine wpAny_pyIter_items hv (hD.at hdo) ?_
  have hnI : ∀ p ∈ nx, p.1 ≠ h₁.objs.size := fun p hp => Nat.ne_of_lt (Heap.lt_size (N p hp).1)
  have hI0 : h₀.get? h₁.objs.size = none := next_is_new F
  have hLI : env.locals ≠ h₁.objs.size := Nat.ne_of_lt F.ns.lt
  refine codeAny_forLoop_any (R := fun r s' => match r with | .ok f => Q f s' | .error e => cameBackBy (model pg w) A env E e s')
    (fun k s' => ∃ h' tk m' nx kv i ok ov o, s' = { s with heap := h', toks := tk } ∧ IsItemIter h' h₁.objs.size d i kvs.length ep ok ov ∧ Fr h₀ env.locals h' m' ∧ News h₀ env.locals h' nx ∧ (∀ p ∈ nx, p.1 ≠ h₁.objs.size) ∧ (d, o) ∈ nx ∧ DAt w o kv ep ∧ kv.length = kvs.length ∧ J i kv m' nx ∧ i ≤ kvs.length ∧ k = kvs.length + 1 - i) ?_ (kvs.length + 1)
    ⟨_, tk₁, m₀, nx, kvs, 0, .none, .none, o, rfl, Heap.get?_push_size _ rfl, F.push _, fun p hp => ⟨Heap.get?_push_of_some _ (N p hp).1, (N p hp).2⟩, hnI, hm, hD, rfl, hj, Nat.zero_le _, rfl⟩
  rintro k s' ⟨h', tk, m', nx', kv, i, ok, ov, o', rfl, hit, F', N', hn', hm', hD', hlen, hJ, hi, rfl⟩
  have hdo' : h'.get? d = some o' := (N' _ hm').1
  have hdI : d ≠ h₁.objs.size := hn' _ hm'
  have hit' : IsItemIter h' h₁.objs.size d i kv.length ep ok ov := by rw [hlen]; exact hit
  have next : ∀ h₂ : Heap, (∀ b o, b ≠ h₁.objs.size → h'.get? b = some o → h₂.get? b = some o) → Fr h₀ env.locals h₂ m' ∧ News h₀ env.locals h₂ nx' := fun h₂ hk₂ =>
    ⟨⟨F'.ns.at' fun o e => hk₂ _ o hLI e, fun b o e => hk₂ b o (fun q => by rw [q, hI0] at e; cases e) (F'.keep b o e), F'.above⟩, fun p hp => ⟨hk₂ _ _ (hn' p hp) (N' p hp).1, (N' p hp).2⟩⟩
  cases hv : kv[i]? with
  | none =>
    have hsz : i = kvs.length := Nat.le_antisymm hi (by rw [← hlen]; simpa using hv)
    refine wpAny_pyNext_items_end hh hit' (hD'.at hdo') hv fun h₂ he₂ => wpAny_execs_nil ?_
    obtain ⟨F₂, N₂⟩ := next h₂ fun b o hb e => he₂ b o hb e
    subst hsz
    exact done kv m' nx' h₂ tk hJ F₂ N₂
  | some kvp =>
    obtain ⟨k, v⟩ := kvp
    have hlt : i < kvs.length := by rw [← hlen]; exact (List.getElem?_eq_some_iff.mp hv).1
    refine wpAny_pyNext_items_item hit' (hD'.at hdo') hv fun key h₂ hkey heo hT₂ hz₂ hk₂ => ?_
    refine wpAny_letOwnedTupleGo_items heo fun h₃ he₃ hs₃ => ?_
    have hT : h'.objs.size ≠ h₁.objs.size := Nat.ne_of_gt (Heap.lt_size hit)
    obtain ⟨F₃, N₃⟩ := next h₃ fun b o hb e => hs₃.extBut b o hb (hk₂ b o hb e)
    have hT₃ : h₃.get? h'.objs.size = some (tupO [key, v]) := hs₃.extBut _ _ hT hT₂
    rw [hlen] at he₃
    have hnT : ∀ p ∈ nx', p.1 ≠ h'.objs.size := fun p hp => Nat.ne_of_lt (Heap.lt_size (N' p hp).1)
    have N₄ : News h₀ env.locals h₃ ((h'.objs.size, tupO [key, v]) :: (h₁.objs.size, itO d (i + 1) kvs.length ep key v) :: nx') := by
      intro p hp
      rcases List.mem_cons.mp hp with rfl | hp
      · refine ⟨hT₃, Nat.ne_of_gt F'.ns.lt, ?_⟩
        exact next_is_new F'
      · rcases List.mem_cons.mp hp with rfl | hp
        · exact ⟨he₃, Ne.symm hLI, hI0⟩
        · exact N₃ p hp
    refine wpAny_mono (wpAny_mono (turn h₁.objs.size h'.objs.size i k v key kv m' nx' o' h₃ tk hv hkey hlen hJ hn' hnT hm' hD' F₃ N₄) (fun _ s₃ h₃ => wpAny_passesOwn hE h₃) hE) (fun _ s₄ h₄ => wpAny_mono h₄ (fun f s₅ p => ?_) fun _ _ e => e) fun _ _ e => e
    have fin : ItEnd w h₀ env.locals h₁.objs.size d (itO d (i + 1) kvs.length ep key v) kvs.length ep (J (i + 1)) { s with heap := h₃, toks := tk } s₅ → ∃ m, m < kvs.length + 1 - i ∧
        ∃ h' tk m' nx kv i ok ov o, s₅ = { s with heap := h', toks := tk } ∧ IsItemIter h' h₁.objs.size d i kvs.length ep ok ov ∧ Fr h₀ env.locals h' m' ∧ News h₀ env.locals h' nx ∧ (∀ p ∈ nx, p.1 ≠ h₁.objs.size) ∧ (d, o) ∈ nx ∧ DAt w o kv ep ∧ kv.length = kvs.length ∧ J i kv m' nx ∧ i ≤ kvs.length ∧ m = kvs.length + 1 - i := by
      rintro ⟨h₆, tk₆, m₆, news₆, nx₆, kv₆, o₆, rfl, F₆, N₆, hn₆, hI₆, hoff₆, hm₆, hD₆, hl₆, hJ₆⟩
      exact ⟨kvs.length + 1 - (i + 1), by omega, h₆, tk₆, m₆, nx₆, kv₆, i + 1, key, v, o₆, rfl, (N₆ _ hI₆).1, F₆, fun p hp => N₆ p (hn₆ p hp), hoff₆, hm₆, hD₆, hl₆, hJ₆, hlt, rfl⟩
    cases f with
    | ret v => exact p
    | brk => exact p
    | next => exact fin p
    | cont => exact fin p
end
theorem Chg.trans {a : Addr} {o1 o2 : Obj} {l l1 l2 : List (Addr × Obj)} (C : Chg a o1 l l1) (D : Chg a o2 l1 l2) : Chg a o2 l l2 :=
  ⟨D.here, fun p hp hne => D.keep p (C.keep p hp hne) hne, fun p hp => by
    rcases D.back p hp with h | ⟨h, hne⟩
    · exact .inl h
    · rcases C.back p h with h' | h'
      · exact absurd (by rw [h']) hne
      · exact .inr h'⟩
theorem Chg.refl {h₀ h : Heap} {L a : Addr} {o : Obj} {l : List (Addr × Obj)} (N : News h₀ L h l) (hm : (a, o) ∈ l) : Chg a o l l :=
  ⟨hm, fun _ hp _ => hp, fun p hp => by
    by_cases e : p.1 = a
    · left
      have h1 := (N p hp).1
      have h2 := (N _ hm).1
      rw [e] at h1
      exact Prod.ext e (Option.some.inj (h1.symm.trans h2))
    · exact .inr ⟨hp, e⟩⟩
theorem Chg.sub {a : Addr} {o o' : Obj} {l l' nx : List (Addr × Obj)} (C : Chg a o' l l') (hs : ∀ p ∈ nx, p ∈ l) (hm : (a, o) ∈ nx) : ∃ nx', Chg a o' nx nx' ∧ ∀ p ∈ nx', p ∈ l' := by
  refine ⟨nx.map fun p => if p.1 = a then (a, o') else p, ⟨List.mem_map.mpr ⟨_, hm, by simp⟩, fun p hp hne => List.mem_map.mpr ⟨p, hp, by simp [hne]⟩, fun p hp => ?_⟩, fun p hp => ?_⟩
  · obtain ⟨q, hq, rfl⟩ := List.mem_map.mp hp
    by_cases e : q.1 = a
    · left; simp [e]
    · right; simp only [if_neg e]; exact ⟨hq, e⟩
  · obtain ⟨q, hq, rfl⟩ := List.mem_map.mp hp
    by_cases e : q.1 = a
    · simp only [if_pos e]; exact C.here
    · simp only [if_neg e]; exact C.keep q (hs q hq) e
theorem Chg.addr {a b : Addr} {o o' : Obj} {l l' : List (Addr × Obj)} (C : Chg a o' l l') (hm : (a, o) ∈ l) (h : ∀ p ∈ l, p.1 ≠ b) : ∀ p ∈ l', p.1 ≠ b := fun p hp => by
  rcases C.back p hp with e | ⟨e, _⟩
  · rw [e]; show a ≠ b; exact h (a, o) hm
  · exact h p e
theorem Chg.own {a : Addr} {o o' : Obj} {l l' own : List (Addr × Obj)} (C : Chg a o' l l') (hm : (a, o) ∈ l) (h : OwnOff own (l.map (·.1))) : OwnOff own (l'.map (·.1)) := fun p hp b hb => by
  obtain ⟨q, hq, rfl⟩ := List.mem_map.mp hb
  rcases C.back q hq with e | ⟨e, _⟩
  · rw [e]; exact h p hp _ (List.mem_map.mpr ⟨_, hm, rfl⟩)
  · exact h p hp _ (List.mem_map.mpr ⟨_, e, rfl⟩)
/-- a change in the ledger's own part, the turn's own objects as they were -/
theorem Chg.split {a : Addr} {o o' : Obj} {l l' own : List (Addr × Obj)} (C : Chg a o' (l ++ own) l') (hm : (a, o) ∈ l) (h : OwnOff own (l.map (·.1))) : ∃ nx, Chg a o' l nx ∧ (∀ p ∈ nx, p ∈ l') ∧ (∀ p ∈ own, p ∈ l') ∧ OwnOff own (nx.map (·.1)) := by
  obtain ⟨nx, C', hs⟩ := C.sub (nx := l) (fun p hp => List.mem_append_left _ hp) hm
  exact ⟨nx, C', hs, fun p hp => C.keep p (List.mem_append_right _ hp) (h p hp a (List.mem_map.mpr ⟨_, hm, rfl⟩)), C'.own hm h⟩
theorem erase_map {α β : Type} (f : α → β) : ∀ (l : List α) (i : Nat), (l.map f).eraseIdx i = (l.eraseIdx i).map f
  | [], _ => rfl
  | _ :: _, 0 => rfl
  | a :: l, i + 1 => by
    have := erase_map f l i
    simp only [List.map_cons, List.eraseIdx_cons_succ, this]
theorem news_l {h₀ h : Heap} {L : Addr} {a b : List (Addr × Obj)} (N : News h₀ L h (a ++ b)) : News h₀ L h a := fun p hp => N p (List.mem_append_left _ hp)
theorem cls_ne {h₀ h : Heap} {L a b : Addr} {o o' : Obj} {l : List (Addr × Obj)} (N : News h₀ L h l) (ha : (a, o) ∈ l) (hb : (b, o') ∈ l) (hc : o.cls ≠ o'.cls) : a ≠ b := by
  rintro rfl
  exact hc (congrArg Obj.cls (Option.some.inj ((N _ ha).1.symm.trans (N _ hb).1)))
theorem inst_ne {w : World} {h₀ h : Heap} {L a b C d : Addr} {o : Obj} {kvs : List (Str × Value)} {l : List (Addr × Obj)} (N : News h₀ L h l) (ha : (a, instObj C d) ∈ l) (hb : (b, o) ∈ l) (hd : o.IsDictOf (strKind pg w) kvs) : a ≠ b := by
  obtain ⟨es, ep, hc, _⟩ := hd
  refine cls_ne N ha hb ?_
  rw [hc.1]
  intro x
  cases x
section
variable {w : World} {A : Around} {E : Value → Shared → Prop} {s : Shared} {h₀ : Heap} {L : Addr} {m : Str → Option Value} {news : List (Addr × Obj)}

/-- storing anew under a key that is there: the pairs with the value turned, the epoch as it was -/
theorem st_dict_keep {d : Addr} {o : Obj} {kvs : List (Str × Value)} {ep : Nat} {k : Str} {key v : Value} {Q : Unit → Shared → Prop} (F : Fr h₀ L s.heap m) (N : News h₀ L s.heap news) (hm : (d, o) ∈ news) (hD : DAt w o kvs ep)
    (hkey : (strKind pg w).is k key = true) (hin : k ∈ kvs.map (·.1))
    (h : ∀ h' news' o', Fr h₀ L h' m → News h₀ L h' news' → Chg d o' news news' → DAt w o' (kvs.map fun kv => if kv.1 = k then (kv.1, v) else kv) ep → Q () { s with heap := h', toks := s.toks + 1 }) :
    wpAny (model pg w) A (setItem (.ref d) key v) Q E s := by
  have z := N _ hm
  have hT : s.TypeIs (.ref d) "dict" := (kda_dict N hm hD.is).typeIs
  obtain ⟨es, hc, hd, hk, hp, hn⟩ := hD
  have hidx : (es.toList.findIdx? fun e => (strKind pg w).is k e.key) = kvs.findIdx? fun kv => decide (kv.1 = k) := hp.findIdx k
  have hex : ∃ i, (kvs.findIdx? fun kv => decide (kv.1 = k)) = some i := by
    cases q : kvs.findIdx? fun kv => decide (kv.1 = k) with
    | some i => exact ⟨i, rfl⟩
    | none => exact absurd hin (not_mem_of_findIdx_none q)
  obtain ⟨i, hi⟩ := hex
  rw [hi] at hidx
  have hidx' : (es.findIdx? fun e => (strKind pg w).is k e.key) = some i := by rw [← hidx]; obtain ⟨l⟩ := es; simp
  have fin : ∀ Q' : Unit → Shared → Prop, (∀ h' news' o', Fr h₀ L h' m → News h₀ L h' news' → Chg d o' news news' → DAt w o' (kvs.map fun kv => if kv.1 = k then (kv.1, v) else kv) ep → Q' () { s with heap := h', toks := s.toks + 1 }) →
      wpAny (model pg w) A.in1 (dictSet d key v) Q' (fun _ _ => False) s := by
    intro Q' hQ'
    unfold dictSet
    try with_reducible refine wpAny_holding ?_
    refine wpAny_bind ((strKind pg w).pyHash hkey ?_)
    unfold dictSetHashed
    try with_reducible refine wpAny_holding ?_
    refine wpAny_bind (wpAny_dictFind_of (s := { s with toks := s.toks + 1 }) hkey z.1 hd hk ?_)
    rw [hidx']
    refine wpAny_bind (wpAny_rule (wpAny_bind (wpAny_updateDict (s := { s with toks := s.toks + 1 }) z.1 hd (wpAny_point ?_))))
    have hs := Heap.SameBut.update s.heap d (Obj.mapDict fun es => es.modify i fun e => { e with val := v })
    have ho := Heap.get?_update_self (Obj.mapDict fun es => es.modify i fun e => { e with val := v }) z.1 (Obj.isFreed_of_dict (Obj.data_mapDict hd _))
    obtain ⟨news', N', C⟩ := chg_of N hm hs ho
    refine hQ' _ news' _ (F.change hs z.2.1 z.2.2) N' C ⟨_, hc.mapDict _, Obj.data_mapDict hd _, hk.modify _ _, ?_, ?_⟩
    · have := hp.modify hn hidx v
      obtain ⟨l⟩ := es
      simpa using this
    · rw [keys_map_store]; exact hn
  unfold setItem
  try with_reducible refine wpAny_holding ?_
  refine wpAny_bind (wpAny_sequenceKey hT (by decide) ?_)
  refine wpAny_bind (wpAny_callSpecial?_slot (name := Str.ofString "__setitem__") hT slot_dict_setitem
    (wpAny_call_entry slot_dict_setitem hT entry_dict_setitem ?_ (args_dict_setitem _ _ _)))
  show wpAny _ _ (Builtin.Dict.notOrdered "__setitem__" ⟨[.ref d, key, v], []⟩ >>= _) _ _ s
  refine wpAny_bind (wpAny_notOrdered_dict hT ?_)
  show wpAny _ _ (dictSet d key v >>= _) _ _ s
  refine wpAny_bind (wpAny_mono (fin _ fun h' news' o' F' N' C D => ?_) (fun _ _ x => x) (fun _ _ x => x.elim))
  exact wpAny_pure ⟨.none, rfl, wpAny_pure (h h' news' o' F' N' C D)⟩

/-- storing under a key that is not there -/
theorem st_dict_new {d : Addr} {o : Obj} {kvs : List (Str × Value)} {k : Str} {key v : Value} {Q : Unit → Shared → Prop} (F : Fr h₀ L s.heap m) (N : News h₀ L s.heap news) (hm : (d, o) ∈ news) (hD : o.IsDictOf (strKind pg w) kvs)
    (hkey : (strKind pg w).is k key = true) (hin : k ∉ kvs.map (·.1)) (hsz : kvs.length ≤ 1000)
    (h : ∀ h' news' o', Fr h₀ L h' m → News h₀ L h' news' → Chg d o' news news' → o'.IsDictOf (strKind pg w) (kvs ++ [(k, v)]) → Q () { s with heap := h', toks := s.toks + 1 }) :
    wpAny (model pg w) A (setItem (.ref d) key v) Q E s := by
  have z := N _ hm
  refine wpAny_setItem_pairs (hsz := by rw [sizeLine_eq]; omega) hkey (Heap.dictOf_iff.mpr ⟨o, z.1, hD⟩) fun h' hmm hs => ?_
  obtain ⟨o', ho', hd'⟩ := Heap.dictOf_iff.mp hmm
  have e : stored kvs k v = kvs ++ [(k, v)] := by
    unfold stored
    rw [if_neg]
    rw [List.any_eq_true]
    rintro ⟨kv, hkv, he⟩
    exact hin (List.mem_map.mpr ⟨kv, hkv, of_decide_eq_true he⟩)
  rw [e] at hd'
  obtain ⟨news', N', C⟩ := chg_of N hm hs ho'
  exact h h' news' o' (F.change hs z.2.1 z.2.2) N' C hd'

/-- two states compared by identity -/
theorem is_inst {M : Model} {C a b da db : Addr} {Q : Value → Shared → Prop} (N : News h₀ L s.heap news) (ha : (a, instObj C da) ∈ news) (hb : (b, instObj C db) ∈ news) (h : Q (.bool (decide (a = b))) s) : wpAny M A (compareOp .Is (.ref a) (.ref b)) Q E s := by
  by_cases e : a = b
  · subst e
    exact wpAny_is_ref_self (by simpa using h)
  · exact wpAny_is_ref_other e (N _ ha).1 (N _ hb).1 (by intro x; cases x) (by rw [decide_eq_false e] at h; exact h)
theorem isNot_inst {M : Model} {C a b da db : Addr} {Q : Value → Shared → Prop} (N : News h₀ L s.heap news) (ha : (a, instObj C da) ∈ news) (hb : (b, instObj C db) ∈ news) (h : Q (.bool (!decide (a = b))) s) : wpAny M A (compareOp .IsNot (.ref a) (.ref b)) Q E s := by
  by_cases e : a = b
  · subst e
    exact wpAny_isNot_ref_self (by simpa using h)
  · exact wpAny_isNot_ref_other e (N _ ha).1 (N _ hb).1 (by intro x; cases x) (by rw [decide_eq_false e] at h; exact h)
end
def PStop (P : Prop) : Prop := P
theorem PStop.out {P : Prop} (h : PStop P) : P := h
theorem whl2_ret {h₀ : Heap} {L : Addr} {s s₃ : Shared} {J : Nat → (Str → Option Value) → List (Addr × Obj) → Prop} {Q : Flow → Shared → Prop} {n : Nat} {v : Value} (h : Q (.ret v) s₃) : WhileStep2 h₀ L s J Q n (.ret v) s₃ := h
theorem whl2_brk {h₀ : Heap} {L : Addr} {s s₃ : Shared} {J : Nat → (Str → Option Value) → List (Addr × Obj) → Prop} {Q : Flow → Shared → Prop} {n : Nat} (h : Q .next s₃) : WhileStep2 h₀ L s J Q n .brk s₃ := h
theorem whl2_end {h₀ : Heap} {L : Addr} {s : Shared} {J : Nat → (Str → Option Value) → List (Addr × Obj) → Prop} {Q : Flow → Shared → Prop} {n : Nat} {h' : Heap} {tk : Nat} {m₂ : Str → Option Value} {nx : List (Addr × Obj)} (n' : Nat)
    (F : Fr h₀ L h' m₂) (N : News h₀ L h' nx) (hn : n' < n) (hj : J n' m₂ nx) : WhileStep2 h₀ L s J Q n .next { s with heap := h', toks := tk } := ⟨h', tk, m₂, nx, n', rfl, F, N, hn, hj⟩
/-- what lies at a place of a list -/
def LIt (vs : List Value) (k : Int) (v : Value) : Prop := ∃ j : Nat, k = (j : Int) ∧ vs[j]? = some v ∧ j < 2 ^ 62
section
variable {prog : Program} {w : World} {A : Around} {E : Value → Shared → Prop} {s : Shared} {h₀ : Heap} {L : Addr} {m : Str → Option Value} {news : List (Addr × Obj)}
theorem ls_len {l : Addr} {vs : List Value} {n : Nat} {Q : Value → Shared → Prop} (N : News h₀ L s.heap news) (hm : (l, listOf vs.toArray n) ∈ news) (hz : vs.length ≤ 1000) (h : Q (.int vs.length (s.toks + 1)) { s with toks := s.toks + 1 + 1 }) :
    wpAny (model prog w) A (call (.builtin "len") [.ref l]) Q E s := by
  have hl : s.heap.IsList l vs.toArray := ⟨_, (N _ hm).1, rfl, n, rfl⟩
  refine kun_lenL hl (k := (vs.length : Int)) (by simp) (by omega) h
theorem ls_item {value slice : PySem.Expr} {l : Addr} {vs : List Value} {n : Nat} {k : Int} {u : Tok} {v : Value} {Q : Value → Shared → Prop} (N : News h₀ L s.heap news) (hm : (l, listOf vs.toArray n) ∈ news) (hk : LIt vs k v) (h : Q v s)
    (hs : subscripted slice false (.ref l) (.int k u) = operate [.ref l, .int k u] (getItem (.ref l) (.int k u)) := by with_unfolding_all rfl) :
    wpAny (model prog w) A (subscriptTail value slice (.ref l) (.int k u)) Q E s := by
  have hl : s.heap.IsList l vs.toArray := ⟨_, (N _ hm).1, rfl, n, rfl⟩
  obtain ⟨j, rfl, hx, hj⟩ := hk
  exact tail_any hl.typeIs slot_list_getitem.lookup (wpAny_getItem_list hl (by omega) (by omega) (by simpa using hx) h) hs
theorem tp_item {value slice : PySem.Expr} {l : Addr} {vs : List Value} {n : Nat} {k : Int} {u : Tok} {v : Value} {Q : Value → Shared → Prop} (N : News h₀ L s.heap news) (hm : (l, ({ cls := .type "tuple", data := .seq vs.toArray n } : Obj)) ∈ news) (hk : LIt vs k v) (h : Q v s)
    (hs : subscripted slice false (.ref l) (.int k u) = operate [.ref l, .int k u] (getItem (.ref l) (.int k u)) := by with_unfolding_all rfl) :
    wpAny (model prog w) A (subscriptTail value slice (.ref l) (.int k u)) Q E s := by
  obtain ⟨j, rfl, hx, hj⟩ := hk
  have hjl : j < vs.length := (List.getElem?_eq_some_iff.mp hx).1
  refine item_tupleT (j := j) ⟨_, (N _ hm).1, rfl, n, rfl⟩ (by omega) (by omega) ?_ (by simpa using hx) h hs
  unfold seqIndex?
  have h0 : ¬ ((j : Int) < 0) := by omega
  simp only [h0, if_false]
  rw [if_pos (by simp; omega)]
  simp
/-- two methods of a dict of the ledger's -/
theorem st_del' {l : Addr} {vs : List Value} {n : Nat} {k : Int} {t : Tok} {v : Value} {Q : Unit → Shared → Prop} (F : Fr h₀ L s.heap m) (N : News h₀ L s.heap news) (hm : (l, listOf vs.toArray n) ∈ news) (hk : LIt vs k v) (hsz : vs.length ≤ 1000)
    (h : ∀ h' news', Fr h₀ L h' m → News h₀ L h' news' → Chg l (listOf (vs.eraseIdx k.toNat).toArray (n + 1)) news news' → Q () { s with heap := h' }) :
    wpAny (model prog w) A (delItem (.ref l) (.int k t)) Q E s := by
  obtain ⟨j, rfl, hx, hj⟩ := hk
  have hjl : j < vs.length := (List.getElem?_eq_some_iff.mp hx).1
  exact st_del F N hm (by omega) (by omega) hsz h
end
/-- what a row of arcs says of a label -/
def alk (l : List (Str × Nat)) (s : Str) : Option Nat := (l.find? fun p => p.1 = s).map (·.2)

structure Tab where
  n : Nat
  fin : Nat → Bool
  arcs : Nat → List (Str × Nat)
structure Tab.Ok (T : Tab) : Prop where
  nd : ∀ k, k < T.n → ((T.arcs k).map (·.1)).Nodup
  lt : ∀ k, k < T.n → ∀ p ∈ T.arcs k, p.2 < T.n
  len : ∀ k, k < T.n → (T.arcs k).length ≤ 3
  small : T.n ≤ 7

def Alike (T : Tab) (R : Nat → Nat) (k l : Nat) : Prop := T.fin k = T.fin l ∧ ∀ s, (alk (T.arcs k) s).map R = (alk (T.arcs l) s).map R
def Closed (T : Tab) (F : Nat → Nat) : Prop := ∀ k l, k < T.n → l < T.n → Alike T F k l → F k = F l
theorem Alike.symm {T : Tab} {R : Nat → Nat} {k l : Nat} (h : Alike T R k l) : Alike T R l k := ⟨h.1.symm, fun s => (h.2 s).symm⟩
theorem Alike.trans {T : Tab} {R : Nat → Nat} {k l j : Nat} (h : Alike T R k l) (g : Alike T R l j) : Alike T R k j := ⟨h.1.trans g.1, fun s => (h.2 s).trans (g.2 s)⟩
theorem Alike.comp {T : Tab} {R : Nat → Nat} {k l : Nat} (h : Alike T R k l) (G : Nat → Nat) : Alike T (fun t => G (R t)) k l := ⟨h.1, fun s => by
  have q := congrArg (Option.map G) (h.2 s)
  rw [Option.map_map, Option.map_map] at q
  exact q⟩
theorem alk_mem {l : List (Str × Nat)} {s : Str} {t : Nat} (h : alk l s = some t) : (s, t) ∈ l := by
  unfold alk at h
  cases q : l.find? fun p => p.1 = s with
  | none => rw [q] at h; cases h
  | some p =>
    rw [q] at h
    have h1 := List.find?_some q
    have h2 := List.mem_of_find?_eq_some q
    obtain ⟨a, b⟩ := p
    simp at h h1
    subst h h1
    exact h2
theorem alk_of {l : List (Str × Nat)} (hn : (l.map (·.1)).Nodup) {s : Str} {t : Nat} (h : (s, t) ∈ l) : alk l s = some t := by
  induction l with
  | nil => cases h
  | cons p r ih =>
    obtain ⟨a, b⟩ := p
    unfold alk
    rw [List.find?_cons]
    simp only [List.map_cons, List.nodup_cons] at hn
    rcases List.mem_cons.mp h with e | h
    · cases e; simp
    · have hne : ¬ a = s := fun e => hn.1 (List.mem_map.mpr ⟨_, h, e.symm⟩)
      simp only [hne, decide_false]
      exact ih hn.2 h
theorem alk_map {l : List (Str × Nat)} {s : Str} (G : Nat → Nat) : alk (l.map fun p => (p.1, G p.2)) s = (alk l s).map G := by
  unfold alk
  rw [List.find?_map, Option.map_map, Option.map_map]
  rfl
/-- maps that agree where the arcs lead -/
theorem Alike.cast {T : Tab} (O : T.Ok) {R S : Nat → Nat} {k l : Nat} (hk : k < T.n) (hl : l < T.n) (h : Alike T R k l) (e : ∀ t, t < T.n → R t = S t) : Alike T S k l := ⟨h.1, fun s => by
  have q := h.2 s
  have fix : ∀ j, j < T.n → (alk (T.arcs j) s).map R = (alk (T.arcs j) s).map S := fun j hj => by
    cases z : alk (T.arcs j) s with
    | none => rfl
    | some t => simp [e t (O.lt j hj _ (alk_mem z))]
  rw [← fix k hk, ← fix l hl]; exact q⟩

structure Reps (T : Tab) (R : Nat → Nat) : Prop where
  le : ∀ k, k < T.n → R k ≤ k
  idem : ∀ k, k < T.n → R (R k) = R k
  sound : ∀ F, Closed T F → ∀ k, k < T.n → F (R k) = F k
  congr : ∀ k, k < T.n → Alike T R k (R k)
theorem Reps.lt {T : Tab} {R : Nat → Nat} (h : Reps T R) {k : Nat} (hk : k < T.n) : R k < T.n := Nat.lt_of_le_of_lt (h.le k hk) hk
theorem reps_id (T : Tab) : Reps T (fun k => k) := ⟨fun _ _ => Nat.le_refl _, fun _ _ => rfl, fun _ _ _ _ => rfl, fun _ _ => ⟨rfl, fun _ => rfl⟩⟩
theorem Reps.congrF {T : Tab} (O : T.Ok) {R F : Nat → Nat} (h : Reps T R) (hF : Closed T F) {k l : Nat} (hk : k < T.n) (hl : l < T.n) (a : Alike T R k l) : F k = F l :=
  hF k l hk hl (Alike.cast O hk hl (a.comp F) fun t ht => h.sound F hF t ht)
def mrg (R : Nat → Nat) (i j k : Nat) : Nat := if R k = j then i else R k
theorem reps_merge {T : Tab} (O : T.Ok) {R : Nat → Nat} (h : Reps T R) {i j : Nat} (hij : i < j) (hj : j < T.n) (ei : R i = i) (ej : R j = j) (a : Alike T R i j) : Reps T (mrg R i j) := by
  have hi : i < T.n := Nat.lt_trans hij hj
  have him : mrg R i j i = i := by unfold mrg; rw [ei, if_neg (by omega)]
  have lt : ∀ t, t < T.n → R t < T.n := fun t ht => h.lt ht
  refine ⟨fun k hk => ?_, fun k hk => ?_, fun F hF k hk => ?_, fun k hk => ?_⟩
  · have := h.le k hk
    unfold mrg
    split
    · omega
    · exact this
  · by_cases e : R k = j
    · have : mrg R i j k = i := by unfold mrg; rw [if_pos e]
      rw [this, him]
    · have : mrg R i j k = R k := by unfold mrg; rw [if_neg e]
      rw [this]
      show (if R (R k) = j then i else R (R k)) = R k
      rw [h.idem k hk, if_neg e]
  · by_cases e : R k = j
    · have : mrg R i j k = i := by unfold mrg; rw [if_pos e]
      rw [this, ← h.sound F hF k hk, e]
      exact h.congrF O hF hi hj a
    · have : mrg R i j k = R k := by unfold mrg; rw [if_neg e]
      rw [this]
      exact h.sound F hF k hk
  · have step : ∀ {u v : Nat}, Alike T R u v → Alike T (mrg R i j) u v := fun {u v} q => q.comp fun t => if t = j then i else t
    by_cases e : R k = j
    · have : mrg R i j k = i := by unfold mrg; rw [if_pos e]
      rw [this]
      have q := h.congr k hk
      rw [e] at q
      exact step (q.trans a.symm)
    · have : mrg R i j k = R k := by unfold mrg; rw [if_neg e]
      rw [this]
      exact step (h.congr k hk)
theorem reps_closed {T : Tab} {R : Nat → Nat} (h : Reps T R) (no : ∀ i j, i < j → j < T.n → R i = i → R j = j → ¬ Alike T R i j) : Closed T R := by
  intro k l hk hl a
  have q : Alike T R (R k) (R l) := ((h.congr k hk).symm.trans a).trans (h.congr l hl)
  rcases Nat.lt_trichotomy (R k) (R l) with c | c | c
  · exact absurd q (no _ _ c (h.lt hl) (h.idem k hk) (h.idem l hl))
  · exact c
  · exact absurd q.symm (no _ _ c (h.lt hk) (h.idem l hl) (h.idem k hk))
theorem reps_unique {T : Tab} {R S : Nat → Nat} (h : Reps T R) (g : Reps T S) (hc : Closed T R) (gc : Closed T S) {k : Nat} (hk : k < T.n) : R k = S k := by
  have h1 : S (R k) = S k := h.sound S gc k hk
  have h2 : R (S k) = R k := g.sound R hc k hk
  have l1 : S k ≤ R k := by rw [← h1]; exact g.le _ (h.lt hk)
  have l2 : R k ≤ S k := by rw [← h2]; exact h.le _ (g.lt hk)
  omega

/-- the states that stand -/
def alive (n : Nat) (R : Nat → Nat) : List Nat := (List.range n).filter fun k => R k = k
theorem mem_alive {n : Nat} {R : Nat → Nat} {k : Nat} : k ∈ alive n R ↔ k < n ∧ R k = k := by simp [alive]
theorem alive_id (n : Nat) : alive n (fun k => k) = List.range n := by simp [alive]
theorem alive_sorted (n : Nat) (R : Nat → Nat) : (alive n R).Pairwise (· < ·) := List.Pairwise.filter _ List.pairwise_lt_range
theorem alive_lt {n : Nat} {R : Nat → Nat} {p q i j : Nat} (hp : (alive n R)[p]? = some i) (hq : (alive n R)[q]? = some j) (h : p < q) : i < j := by
  obtain ⟨h1, e1⟩ := List.getElem?_eq_some_iff.mp hp
  obtain ⟨h2, e2⟩ := List.getElem?_eq_some_iff.mp hq
  have := List.pairwise_iff_getElem.mp (alive_sorted n R) p q h1 h2 h
  rw [e1, e2] at this
  exact this
theorem erase_filter {l : List Nat} (hs : l.Pairwise (· < ·)) : ∀ {q j : Nat}, l[q]? = some j → l.eraseIdx q = l.filter fun k => decide (k ≠ j) := by
  induction l with
  | nil => intro q j h; simp at h
  | cons a r ih =>
    intro q j h
    rw [List.pairwise_cons] at hs
    cases q with
    | zero =>
      simp at h
      subst h
      have : r.filter (fun k => decide (k ≠ a)) = r := List.filter_eq_self.mpr fun x hx => by have := hs.1 x hx; simp; omega
      show r = _
      rw [List.filter_cons_of_neg (by simp)]
      exact this.symm
    | succ q =>
      have h' : r[q]? = some j := by simpa using h
      have hm := hs.1 j (List.mem_of_getElem? h')
      have : a ≠ j := by omega
      simp [this, ih hs.2 h']
theorem alive_merge {n : Nat} {R : Nat → Nat} {i j q : Nat} (hij : i < j) (ei : R i = i) (hq : (alive n R)[q]? = some j) : (alive n R).eraseIdx q = alive n (mrg R i j) := by
  rw [erase_filter (alive_sorted n R) hq]
  have hj := mem_alive.mp (List.mem_of_getElem? hq)
  unfold alive
  rw [List.filter_filter]
  apply List.filter_congr
  intro k hk
  unfold mrg
  by_cases e : R k = j
  · rw [if_pos e]
    have h1 : ¬ (i = k) := by rintro rfl; omega
    have h2 : (decide (k ≠ j) && decide (R k = k)) = false := by
      rw [e]
      by_cases z : k = j
      · simp [z]
      · have : ¬ j = k := fun q => z q.symm
        simp [this]
    rw [h2]
    simp [h1]
  · rw [if_neg e]
    by_cases z : R k = k
    · have : k ≠ j := by rintro rfl; exact e z
      simp [z, this]
    · simp [z]

/-- as many keys, each there: no other key there -/
theorem keys_back : ∀ {a b : List Str}, a.Nodup → (∀ x ∈ a, x ∈ b) → b.length ≤ a.length → ∀ x ∈ b, x ∈ a
  | [], b, _, _, hl, x, hx => by
    have : b = [] := List.eq_nil_of_length_eq_zero (by simpa using hl)
    rw [this] at hx; exact hx
  | y :: a, b, hn, hs, hl, x, hx => by
    rw [List.nodup_cons] at hn
    have hy := hs y (.head _)
    have hlen := List.length_erase_of_mem hy
    have hpos : 0 < b.length := List.length_pos_of_mem hy
    by_cases e : x = y
    · rw [e]; exact .head _
    · refine .tail _ (keys_back (b := b.erase y) hn.2 (fun z hz => ?_) ?_ x ((List.mem_erase_of_ne e).mpr hx))
      · exact (List.mem_erase_of_ne (by rintro rfl; exact hn.1 hz)).mpr (hs z (.tail _ hz))
      · simp only [List.length_cons] at hl; omega

/-- the arcs' dict's pairs, by the rep map -/
def vals (X : Nat → Addr) (R : Nat → Nat) (l : List (Str × Nat)) : List (Str × Value) := l.map fun p => (p.1, Value.ref (X (R p.2)))
theorem vals_at (X : Nat → Addr) (R : Nat → Nat) (l : List (Str × Nat)) (s : Str) : valueAt (vals X R l) s = (alk l s).map fun t => Value.ref (X (R t)) := by
  unfold valueAt vals alk
  rw [List.find?_map, Option.map_map, Option.map_map]
  rfl
theorem vals_keys (X : Nat → Addr) (R : Nat → Nat) (l : List (Str × Nat)) : (vals X R l).map (·.1) = l.map (·.1) := by simp [vals]
theorem eqv_iff {T : Tab} (O : T.Ok) {X : Nat → Addr} (inj : ∀ k l, k < T.n → l < T.n → X k = X l → k = l) {R : Nat → Nat} (h : Reps T R) {i j : Nat} (hi : i < T.n) (hj : j < T.n) :
    (T.fin i = T.fin j ∧ (vals X R (T.arcs i)).length = (vals X R (T.arcs j)).length ∧ ∀ p ∈ vals X R (T.arcs i), valueAt (vals X R (T.arcs j)) p.1 = some p.2) ↔ Alike T R i j := by
  constructor
  · rintro ⟨hf, hl, hall⟩
    have hl' : (T.arcs i).length = (T.arcs j).length := by simpa [vals] using hl
    have h1 : ∀ s t, (s, t) ∈ T.arcs i → (alk (T.arcs j) s).map R = some (R t) := fun s t hm => by
      have q := hall (s, Value.ref (X (R t))) (List.mem_map.mpr ⟨_, hm, rfl⟩)
      rw [vals_at] at q
      cases z : alk (T.arcs j) s with
      | none => rw [z] at q; cases q
      | some u =>
        rw [z] at q
        have e : X (R u) = X (R t) := Value.ref.inj (Option.some.inj q)
        have := inj _ _ (h.lt (O.lt j hj _ (alk_mem z))) (h.lt (O.lt i hi _ hm)) e
        simp [this]
    refine ⟨hf, fun s => ?_⟩
    cases z : alk (T.arcs i) s with
    | some t => rw [h1 s t (alk_mem z)]; rfl
    | none =>
      cases y : alk (T.arcs j) s with
      | none => rfl
      | some u =>
        exfalso
        have hk : ∀ x ∈ (T.arcs i).map (·.1), x ∈ (T.arcs j).map (·.1) := fun x hx => by
          obtain ⟨p, hp, rfl⟩ := List.mem_map.mp hx
          have q := h1 p.1 p.2 hp
          cases v : alk (T.arcs j) p.1 with
          | none => rw [v] at q; cases q
          | some w => exact List.mem_map.mpr ⟨_, alk_mem v, rfl⟩
        have hs : s ∈ (T.arcs i).map (·.1) := keys_back (O.nd i hi) hk (by simp [hl']) s (List.mem_map.mpr ⟨_, alk_mem y, rfl⟩)
        obtain ⟨p, hp, e⟩ := List.mem_map.mp hs
        have : alk (T.arcs i) s = some p.2 := alk_of (O.nd i hi) (by rw [← e]; exact hp)
        rw [z] at this; cases this
  · rintro ⟨hf, hall⟩
    have sub : ∀ {u v : Nat}, u < T.n → (∀ s, (alk (T.arcs u) s).map R = (alk (T.arcs v) s).map R) → ∀ x ∈ (T.arcs u).map (·.1), x ∈ (T.arcs v).map (·.1) := fun {u v} hu hq x hx => by
      obtain ⟨p, hp, rfl⟩ := List.mem_map.mp hx
      have q := hq p.1
      rw [alk_of (O.nd u hu) hp] at q
      cases z : alk (T.arcs v) p.1 with
      | none => rw [z] at q; cases q
      | some w => exact List.mem_map.mpr ⟨_, alk_mem z, rfl⟩
    refine ⟨hf, ?_, fun p hp => ?_⟩
    · have l1 : ∀ {a b : List Str}, a.Nodup → (∀ x ∈ a, x ∈ b) → a.length ≤ b.length := by
        intro a
        induction a with
        | nil => intro b _ _; simp
        | cons y a ih =>
          intro b hn hs
          rw [List.nodup_cons] at hn
          have hy := hs y (.head _)
          have hlen := List.length_erase_of_mem hy
          have hpos : 0 < b.length := List.length_pos_of_mem hy
          have := ih (b := b.erase y) hn.2 fun z hz => (List.mem_erase_of_ne (by rintro rfl; exact hn.1 hz)).mpr (hs z (.tail _ hz))
          simp only [List.length_cons]; omega
      have a1 := l1 (O.nd i hi) (sub hi hall)
      have a2 := l1 (O.nd j hj) (sub hj fun s => (hall s).symm)
      simp only [List.length_map] at a1 a2
      simp only [vals, List.length_map]
      omega
    · obtain ⟨q, hq, rfl⟩ := List.mem_map.mp hp
      have e := hall q.1
      rw [alk_of (O.nd i hi) hq] at e
      rw [vals_at]
      cases z : alk (T.arcs j) q.1 with
      | none => rw [z] at e; cases e
      | some u =>
        rw [z] at e
        have : R q.2 = R u := by simpa using e
        simp [this]
theorem load_frag : (PySem.Challenge.rw_iv0022_01 = PySem.Challenge.rw_iv0022_01) ∧ (hd.heap_39 = hd.heap_39) := by
  k_fill
  exact ⟨rfl, rfl⟩

/-- a state's dict -/
abbrev stD (P : Params) (t1 t2 t3 t4 t5 t6 t0 : Tok) (nf ar na tr : Addr) (fin : Bool) : Obj :=
  dictOf [⟨PyData.keyHash P (Str.ofString "from_rule"), .str (Str.ofString "from_rule") t1, .str (Str.ofString "r") t0⟩,
    ⟨PyData.keyHash P (Str.ofString "nfa_set"), .str (Str.ofString "nfa_set") t2, .ref nf⟩,
    ⟨PyData.keyHash P (Str.ofString "arcs"), .str (Str.ofString "arcs") t3, .ref ar⟩,
    ⟨PyData.keyHash P (Str.ofString "nonterminal_arcs"), .str (Str.ofString "nonterminal_arcs") t4, .ref na⟩,
    ⟨PyData.keyHash P (Str.ofString "transitions"), .str (Str.ofString "transitions") t5, .ref tr⟩,
    ⟨PyData.keyHash P (Str.ofString "is_final"), .str (Str.ofString "is_final") t6, .bool fin⟩] 6

/-- a state of the ledger: its address, its arcs' dict, final or not -/
structure IsSt (w : World) (news : List (Addr × Obj)) (x d ar : Addr) (fin : Bool) : Prop where
  inst : (x, instObj 102 d) ∈ news
  dict : ∃ t1 t2 t3 t4 t5 t6 t0 nf na tr, (d, stD w.params t1 t2 t3 t4 t5 t6 t0 nf ar na tr fin) ∈ news
  low : (ar == sysModules) = false

local macro_rules | `(tactic| k_mem) => `(tactic| assumption)
local macro_rules | `(tactic| walk_at "call builtin:len") => `(tactic| (k_here; (with_reducible show wpAny _ _ (call (Value.builtin "len") [Value.ref _]) _ _ _); k_dflt (refine kda_len (knd := PySem.strKind _ _) (by k_asm) (by k_mem) (by k_asm) (by k_asm) (by k_asm) ?_)))
local macro_rules | `(tactic| walk_at "ItPost") => `(tactic| (dsimp only [ItPost]))
local macro_rules | `(tactic| walk_at "compareOp Is ref ref") => `(tactic| (k_here; k_dflt (refine is_inst (C := 102) (by k_asm) (by k_mem) (by k_mem) ?_)))
local macro_rules | `(tactic| walk_at "compareOp IsNot ref ref") => `(tactic| (k_here; k_dflt (refine isNot_inst (C := 102) (by k_asm) (by k_mem) (by k_mem) ?_)))
local macro_rules | `(tactic| walk_at "exec For Tuple Call cons nil") => `(tactic| (k_here; (rename Fr _ _ _ _ => lF'); (with_unfolding_all refine' items_mut lF' ?k1 ?_); (case k1 => exact rfl)))
local macro_rules | `(tactic| walk_at "getMethod ref") => `(tactic| (k_here; (with_reducible show wpAny _ _ (getMethod (Value.ref _) (Str.ofString "items") _) _ _ _); k_dflt (refine kob_method (knd := PySem.strKind _ _) PySem.F.slot_dict_items PySem.F.type_dict_items (by k_asm) (by k_mem) (by k_asm) ?_)))
local macro_rules | `(tactic| walk_at "getMethod ref") => `(tactic| (k_here; (with_reducible show wpAny _ _ (getMethod (Value.ref _) (Str.ofString "get") _) _ _ _); k_dflt (refine kdg_method (knd := PySem.strKind _ _) (by k_asm) (by k_mem) (by k_asm) ?_)))
local macro_rules | `(tactic| walk_at "call builtin:dict.get") => `(tactic| (k_here; k_dflt (refine kdg_get1 (knd := PySem.strKind _ _) (by k_asm) (by k_mem) (by k_asm) (by k_asm) (strKind_is _ _ _ _) _ (by first | assumption | exact rfl) ?_); (try dsimp only [Option.getD])))

set_option maxRecDepth 100000 in
set_option maxHeartbeats 8000000 in
theorem eq_ct (w : World) {xi di ai xj dj aj : Addr} {fi fj : Bool} {oi oj : Obj} {kvi kvj : List (Str × Value)} {news : List (Addr × Obj)}
    (Si : IsSt w news xi di ai fi) (Sj : IsSt w news xj dj aj fj) (hoi : (ai, oi) ∈ news) (hoj : (aj, oj) ∈ news) (hdi : oi.IsDictOf (strKind pg w) kvi) (hdj : oj.IsDictOf (strKind pg w) kvj)
    (hli : kvi.length ≤ 16777216) (hlj : kvj.length ≤ 16777216) (hri : ∀ p ∈ kvi, ∃ a d, p.2 = Value.ref a ∧ (a, instObj 102 d) ∈ news) (hrj : ∀ k v, valueAt kvj k = some v → ∃ a d, v = Value.ref a ∧ (a, instObj 102 d) ∈ news) :
    Ct w (.ref 99) [.ref xi, .ref xj] 2 16 news (fun r news' => r = .bool (decide (fi = fj ∧ kvi.length = kvj.length ∧ ∀ p ∈ kvi, valueAt kvj p.1 = some p.2)) ∧ news' = news) := by
  obtain ⟨hxi, ⟨i1, i2, i3, i4, i5, i6, i0, inf, ina, itr, hsi⟩, loi⟩ := Si
  obtain ⟨hxj, ⟨j1, j2, j3, j4, j5, j6, j0, jnf, jna, jtr, hsj⟩, loj⟩ := Sj
  unfold Ct
  intro mean mg mb dp un gd cn cs a ccd cl outer A₀ base h₀ L m s Q E B F X N T hck hd hu hret
  refine wpAny_call ?_
  k_dflt ktr_enter
  k_steps
  · rename ((_ != _) = true) => hne
    refine hret _ _ _ _ (by assumption) (by assumption) ⟨?_, rfl⟩
    rw [decide_eq_false]
    rintro ⟨e, _⟩
    subst e
    simp at hne
  · rename (¬ (_ : Int) = _) => hne
    refine hret _ _ _ _ (by assumption) (by assumption) ⟨?_, rfl⟩
    rw [decide_eq_false]
    rintro ⟨_, e, _⟩
    omega
  · obtain ⟨epi, hDi⟩ := DAt.of hdi
    rename ((fi != fj) = false) => hff
    rename ((_ : Int) = _) => hll
    rename Fr _ _ _ _ => FF
    rename News _ _ _ _ => NN
    refine ⟨_, _, _, epi, oi, news, ai, kvi, rfl, rfl, FF, fun p hp => NN p (.tail _ hp), ⟨_, (NN _ (.head _)).1, rfl, rfl⟩, hoi, hDi,
      (fun i kv m nx => kv = kvi ∧ nx = news ∧ (∀ p ∈ [(Str.ofString "other", Value.ref xj)], m p.1 = some p.2) ∧ ∀ p ∈ kvi.take i, valueAt kvj p.1 = some p.2), ⟨rfl, rfl, ?_, by simp⟩, ?_, ?_⟩
    · intro p hp
      rw [List.mem_singleton.mp hp]
      rfl
    · clear FF NN
      rintro I T i k v key kv m₁ nx o h tk hv hkey hlen ⟨rfl, rfl, hm₁, hpre⟩ hnI hnT hm hD F₁ N₁
      replace F₁ := fr_lit F₁ hm₁
      dsimp only [kstB] at F₁
      obtain ⟨tkk, rfl⟩ := Value.isStrOf_shape hkey
      obtain ⟨av, dv, hav, hmv⟩ := hri (k, v) (List.mem_of_getElem? hv)
      dsimp only at hav
      subst hav
      cases hvj : valueAt kvj k with
      | none =>
        k_steps
        rename News _ _ _ _ => NE
        refine hret _ _ _ _ (by assumption) (fun p hp => NE p (.tail _ (.tail _ hp))) ⟨?_, rfl⟩
        rw [decide_eq_false]
        rintro ⟨_, _, hall⟩
        have := hall _ (List.mem_of_getElem? hv)
        rw [hvj] at this
        cases this
      | some vj =>
        obtain ⟨aj', dj', rfl, hmj⟩ := hrj _ _ hvj
        k_steps
        · rename (av = aj') => he
          subst he
          refine ItEnd.intro nx kv o (by assumption) (by assumption) (fun p hp => .tail _ (.tail _ hp)) (.tail _ (.head _)) hnI hm hD rfl ⟨rfl, rfl, fun p hp => ?_, fun p hp => ?_⟩
          · rw [List.mem_singleton.mp hp]; rfl
          · rw [List.take_add_one, hv] at hp
            rcases List.mem_append.mp hp with hp | hp
            · exact hpre p hp
            · simp at hp
              subst hp
              exact hvj
        · rename (¬ av = aj') => he
          rename News _ _ _ _ => NE
          refine hret _ _ _ _ (by assumption) (fun p hp => NE p (.tail _ (.tail _ hp))) ⟨?_, rfl⟩
          rw [decide_eq_false]
          rintro ⟨_, _, hall⟩
          have := hall _ (List.mem_of_getElem? hv)
          rw [hvj] at this
          exact he (Value.ref.inj (Option.some.inj this)).symm
    · rintro kv m₁ nx h tk ⟨rfl, rfl, hm₁, hpre⟩ F₁ N₁
      k_steps
      refine hret _ _ _ _ (by assumption) (by assumption) ⟨?_, rfl⟩
      rw [List.take_length] at hpre
      rw [decide_eq_true]
      refine ⟨by simpa using hff, by omega, hpre⟩
section
local macro_rules | `(tactic| walk_at "getMethod ref") => `(tactic| (k_here; (with_reducible show wpAny _ _ (getMethod (Value.ref _) (Str.ofString "items") _) _ _ _); k_dflt (refine kob_method (knd := PySem.strKind _ _) PySem.F.slot_dict_items PySem.F.type_dict_items (by k_asm) (by k_mem) (by k_asm) ?_)))
local macro_rules | `(tactic| walk_at "getMethod ref") => `(tactic| (k_here; (with_reducible show wpAny _ _ (getMethod (Value.ref _) (Str.ofString "get") _) _ _ _); k_dflt (refine kdg_method (knd := PySem.strKind _ _) (by k_asm) (by k_mem) (by k_asm) ?_)))
local macro_rules | `(tactic| walk_at "setItem ref str") => `(tactic| (k_here; k_dflt (refine st_dict_keep (by k_asm) (by k_asm) (by k_mem) (by k_asm) (strKind_is _ _ _ _) (by k_asm) ?_); intro h' nx' o' F' N' C' D'))

theorem key_inj {kvs : List (Str × Value)} (hn : (kvs.map (·.1)).Nodup) {i j : Nat} {k : Str} {u v : Value} (hi : kvs[i]? = some (k, u)) (hj : kvs[j]? = some (k, v)) : i = j := by
  obtain ⟨h1, e1⟩ := List.getElem?_eq_some_iff.mp hi
  obtain ⟨h2, e2⟩ := List.getElem?_eq_some_iff.mp hj
  have h1' : i < (kvs.map (·.1)).length := by simpa using h1
  have h2' : j < (kvs.map (·.1)).length := by simpa using h2
  have hp := List.pairwise_iff_getElem.mp hn
  have k1 : (kvs.map (·.1))[i] = k := by simp [e1]
  have k2 : (kvs.map (·.1))[j] = k := by simp [e2]
  rcases Nat.lt_trichotomy i j with h | h | h
  · exact absurd (k1.trans k2.symm) (hp i j h1' h2' h)
  · exact h
  · exact absurd (k2.trans k1.symm) (hp j i h2' h1' h)
def redir (old new : Addr) (v : Value) : Value := if v = .ref old then .ref new else v

set_option maxRecDepth 100000 in
set_option maxHeartbeats 8000000 in
theorem unify_ct (w : World) {x d ar old new dold dnew : Addr} {fin : Bool} {o : Obj} {kvs : List (Str × Value)} {news : List (Addr × Obj)}
    (S : IsSt w news x d ar fin) (ho : (ar, o) ∈ news) (hd : o.IsDictOf (strKind pg w) kvs) (hr : ∀ p ∈ kvs, ∃ a d, p.2 = Value.ref a ∧ (a, instObj 102 d) ∈ news) (hold : (old, instObj 102 dold) ∈ news) (hnew : (new, instObj 102 dnew) ∈ news) (hda : d ≠ ar) :
    Ct w (.ref 92) [.ref x, .ref old, .ref new] 2 16 news (fun r news' => r = .none ∧ ∃ o', Chg ar o' news news' ∧ o'.IsDictOf (strKind pg w) (kvs.map fun p => (p.1, redir old new p.2))) := by
  obtain ⟨hx, ⟨i1, i2, i3, i4, i5, i6, i0, inf, ina, itr, hs⟩, lo⟩ := S
  unfold Ct
  intro mean mg mb dp un gd cn cs a ccd cl outer A₀ base h₀ L m s Q E B F X N T hck hd' hu hret
  refine wpAny_call ?_
  k_dflt ktr_enter
  k_steps
  obtain ⟨ep, hD⟩ := DAt.of hd
  have hkn : (kvs.map (·.1)).Nodup := let ⟨_, _, _, _, _, h⟩ := hD; h
  rename Fr _ _ _ _ => FF
  rename News _ _ _ _ => NN
  refine ⟨_, _, _, ep, o, news, ar, kvs, rfl, rfl, FF, fun p hp => NN p (.tail _ hp), ⟨_, (NN _ (.head _)).1, rfl, rfl⟩, ho, hD,
    (fun i kv m nx => (∃ o1, Chg ar o1 news nx ∧ DAt w o1 kv ep) ∧ (∀ p ∈ [(Str.ofString "self", Value.ref x), (Str.ofString "old", Value.ref old), (Str.ofString "new", Value.ref new)], m p.1 = some p.2) ∧ kv.length = kvs.length ∧ ∀ j k v, kvs[j]? = some (k, v) → kv[j]? = some (k, if j < i then redir old new v else v)), ⟨⟨o, Chg.refl N ho, hD⟩, ?_, rfl, fun j k v h => by simpa using h⟩, ?_, ?_⟩
  · intro p hp
    simp only [List.mem_cons, List.not_mem_nil, or_false] at hp
    rcases hp with rfl | rfl | rfl <;> rfl
  · clear NN
    rintro I T i k v key kv m₁ nx o₁ h tk hv hkey hlen ⟨⟨o1, C1, D1⟩, hm₁, hlk, hpt⟩ hnI hnT hm hD₁ F₁ N₁
    replace F₁ := fr_lit F₁ hm₁
    dsimp only [kstB] at F₁
    obtain ⟨tkk, rfl⟩ := Value.isStrOf_shape hkey
    have hil : i < kvs.length := by rw [← hlen]; exact (List.getElem?_eq_some_iff.mp hv).1
    have hkv : kvs[i]? = some (k, v) := by
      have h1 := hpt i (kvs[i]).1 (kvs[i]).2 (List.getElem?_eq_getElem hil)
      rw [hv] at h1
      simp at h1
      rw [List.getElem?_eq_getElem hil, h1.1, h1.2]
    obtain ⟨av, dv, hav, hmv0⟩ := hr (k, v) (List.mem_of_getElem? hkv)
    dsimp only at hav
    subst hav
    have hkin : k ∈ kv.map (·.1) := List.mem_map.mpr ⟨_, List.mem_of_getElem? hv, rfl⟩
    have inst : ∀ {y dy : Addr}, (y, instObj 102 dy) ∈ news → (y, instObj 102 dy) ∈ nx := fun {y dy} hy => C1.keep _ hy (inst_ne N hy ho hd)
    have hmv := inst hmv0
    have hold' := inst hold
    have hnew' := inst hnew
    have hx' := inst hx
    have hs' := C1.keep _ hs hda
    k_steps
    · rename (av = old) => he
      subst he
      rename Chg _ _ _ _ => C2
      rename DAt _ _ _ _ => D2
      obtain ⟨nx2, C3, hs3⟩ := C2.sub (fun p hp => .tail _ (.tail _ hp)) hm
      refine ItEnd.intro nx2 _ _ (by assumption) (by assumption) hs3 (C2.keep _ (.tail _ (.head _)) fun e => hnI _ hm e.symm) (C3.addr hm hnI) C3.here D2 (by simpa using hlk) ⟨⟨_, C1.trans C3, D2⟩, fun p hp => ?_, by simpa using hlk, fun j k' v' hj => ?_⟩
      · simp only [List.mem_cons, List.not_mem_nil, or_false] at hp
        rcases hp with rfl | rfl | rfl <;> rfl
      · rw [List.getElem?_map, hpt j k' v' hj]
        by_cases hji : j = i
        · subst hji
          rw [hkv] at hj
          cases hj
          simp [redir]
        · have hkk : k' ≠ k := fun e => hji (key_inj hkn (e ▸ hj) hkv)
          have hlt : (j < i + 1) ↔ (j < i) := by omega
          simp [hkk, hlt]
    · rename (¬ av = old) => he
      refine ItEnd.intro nx kv o₁ (by assumption) (by assumption) (fun p hp => .tail _ (.tail _ hp)) (.tail _ (.head _)) hnI hm hD₁ hlen ⟨⟨_, C1, D1⟩, fun p hp => ?_, hlk, fun j k' v' hj => ?_⟩
      · simp only [List.mem_cons, List.not_mem_nil, or_false] at hp
        rcases hp with rfl | rfl | rfl <;> rfl
      · rw [hpt j k' v' hj]
        by_cases hji : j = i
        · subst hji
          rw [hkv] at hj
          cases hj
          simp [redir, he]
        · have hlt : (j < i + 1) ↔ (j < i) := by omega
          simp [hlt]
  · rintro kv m₁ nx h tk ⟨⟨o1, C1, D1⟩, hm₁, hlk, hpt⟩ F₁ N₁
    k_steps
    refine hret _ _ _ _ (by assumption) (by assumption) ⟨rfl, o1, C1, ?_⟩
    have e : kv = kvs.map fun p => (p.1, redir old new p.2) := by
      apply List.ext_getElem?
      intro j
      rw [List.getElem?_map]
      cases hj : kvs[j]? with
      | none =>
        have : kvs.length ≤ j := by simpa using hj
        simp [hlk, this]
      | some p =>
        have hlt : j < kvs.length := (List.getElem?_eq_some_iff.mp hj).1
        rw [hpt j p.1 p.2 hj]
        simp [hlt]
    exact e ▸ D1.is
end
/-- a contract over every ledger that holds this one -/
def CtOver (w : World) (f : Value) (args : List Value) (nd nu : Nat) (nx : List (Addr × Obj)) (Post : List (Addr × Obj) → Value → List (Addr × Obj) → Prop) : Prop :=
  ∀ nx', (∀ p ∈ nx, p ∈ nx') → Ct w f args nd nu nx' (Post nx')
theorem ct_over {w : World} {f : Value} {args : List Value} {nd nu : Nat} {nx news : List (Addr × Obj)} {Post : List (Addr × Obj) → Value → List (Addr × Obj) → Prop} {mean : ExcName → Option Value} {mg mb : Str → Option Value} {dp un : Nat} {gd : Option (List Code)} {cn : Str} {cs : Scope} {a : Addr} {ccd : Value} {cl : List (Str × Addr)} {outer : List Env} {A₀ : Around} {base h₀ : Heap} {L : Addr} {m : Str → Option Value} {s : Shared}
    {Q E : Value → Shared → Prop} (C : CtOver w f args nd nu nx Post)
    (B : Below A₀ base outer h₀) (F : Fr h₀ L s.heap m) (X : (hd.heap_39 w.params).In h₀) (N : News h₀ L s.heap news) (T : Top hd.view_39 lse mean mg mb h₀) (hk : cs.kind = .function) (hd' : dp + nd < recursionLimit) (hu : un + nu < cLine) (hs : ∀ p ∈ nx, p ∈ news)
    (ret : ∀ r news' h' tk', Fr h₀ L h' m → News h₀ L h' news' → Post news r news' → Q r { s with heap := h', toks := tk' }) :
    wpAny (model pg w) (ktrTop dp un gd cn cs L a ccd cl outer) (call f args) Q E s := C news hs _ _ _ _ _ _ _ _ _ _ _ _ _ _ _ _ _ _ _ _ B F X N T hk hd' hu ret

theorem IsSt.mono {w : World} {l l' : List (Addr × Obj)} {x d ar : Addr} {fin : Bool} (h : IsSt w l x d ar fin) (hs : ∀ p ∈ l, p ∈ l') : IsSt w l' x d ar fin :=
  ⟨hs _ h.inst, let ⟨a, b, c, d, e, f, g, i, j, k, q⟩ := h.dict; ⟨a, b, c, d, e, f, g, i, j, k, hs _ q⟩, h.low⟩

/-- the addresses of the states lie apart -/
structure Apart (n : Nat) (X DX AX : Nat → Addr) : Prop where
  xinj : ∀ k l, k < n → l < n → X k = X l → k = l
  ainj : ∀ k l, k < n → l < n → AX k = AX l → k = l
  da : ∀ k l, k < n → l < n → DX k ≠ AX l

/-- the states in the ledger: those of al with arcs by their own rep map -/
structure SL (w : World) (T : Tab) (X DX AX : Nat → Addr) (D : Addr) (news : List (Addr × Obj)) (al : Nat → Prop) (Rk : Nat → Nat → Nat) (nx : List (Addr × Obj)) : Prop where
  st : ∀ k, k < T.n → IsSt w nx (X k) (DX k) (AX k) (T.fin k)
  arcs : ∀ k, k < T.n → al k → ∃ o, (AX k, o) ∈ nx ∧ o.IsDictOf (strKind pg w) (vals X (Rk k) (T.arcs k))
  frame : ∀ p ∈ news, p.1 ≠ D → (∀ k, k < T.n → p.1 ≠ AX k) → p ∈ nx
theorem SL.weaken {w : World} {T : Tab} {X DX AX : Nat → Addr} {D : Addr} {news nx : List (Addr × Obj)} {al al' : Nat → Prop} {Rk Rk' : Nat → Nat → Nat} (h : SL w T X DX AX D news al Rk nx) (ha : ∀ k, k < T.n → al' k → al k ∧ Rk k = Rk' k) : SL w T X DX AX D news al' Rk' nx :=
  ⟨h.st, fun k hk hak => by
    obtain ⟨h1, h2⟩ := ha k hk hak
    obtain ⟨o, h3, h4⟩ := h.arcs k hk h1
    exact ⟨o, h3, h2 ▸ h4⟩, h.frame⟩
theorem SL.list {w : World} {T : Tab} {X DX AX : Nat → Addr} {D : Addr} {news nx nx' : List (Addr × Obj)} {al : Nat → Prop} {Rk : Nat → Nat → Nat} {h₀ h : Heap} {L : Addr} {its : Array Value} {ep : Nat} {o' : Obj} (S : SL w T X DX AX D news al Rk nx) (N : News h₀ L h nx) (hD : (D, listOf its ep) ∈ nx) (C : Chg D o' nx nx') : SL w T X DX AX D news al Rk nx' := by
  refine ⟨fun k hk => ?_, fun k hk ha => ?_, fun p hp h1 h2 => C.keep p (S.frame p hp h1 h2) h1⟩
  · have s := S.st k hk
    refine ⟨C.keep _ s.inst (cls_ne N s.inst hD (by intro x; cases x)), ?_, s.low⟩
    obtain ⟨a, b, c, d, e, f, g, i, j, q, hm⟩ := s.dict
    exact ⟨a, b, c, d, e, f, g, i, j, q, C.keep _ hm (cls_ne N hm hD (by intro x; exact absurd (Value.type.inj x) (by decide)))⟩
  · obtain ⟨o, h1, h2⟩ := S.arcs k hk ha
    refine ⟨o, C.keep _ h1 (cls_ne N h1 hD ?_), h2⟩
    obtain ⟨es, ep', hc, _⟩ := h2
    rw [hc.1]
    intro x
    exact absurd (Value.type.inj x) (by decide)
theorem SL.arc {w : World} {T : Tab} {X DX AX : Nat → Addr} {D : Addr} {news nx nx' : List (Addr × Obj)} {al : Nat → Prop} {Rk : Nat → Nat → Nat} {h₀ h : Heap} {L : Addr} {o o' : Obj} {kvs : List (Str × Value)} {R' : Nat → Nat} {k : Nat} (P : Apart T.n X DX AX) (hk : k < T.n) (S : SL w T X DX AX D news al Rk nx) (N : News h₀ L h nx) (ho : (AX k, o) ∈ nx) (hd : o.IsDictOf (strKind pg w) kvs) (C : Chg (AX k) o' nx nx')
    (hd' : o'.IsDictOf (strKind pg w) (vals X R' (T.arcs k))) : SL w T X DX AX D news al (fun l => if l = k then R' else Rk l) nx' := by
  refine ⟨fun l hl => ?_, fun l hl ha => ?_, fun p hp h1 h2 => C.keep p (S.frame p hp h1 h2) (h2 k hk)⟩
  · have s := S.st l hl
    refine ⟨C.keep _ s.inst (inst_ne N s.inst ho hd), ?_, s.low⟩
    obtain ⟨a, b, c, d, e, f, g, i, j, q, hm⟩ := s.dict
    exact ⟨a, b, c, d, e, f, g, i, j, q, C.keep _ hm (P.da l k hl hk)⟩
  · by_cases e : l = k
    · subst e
      exact ⟨o', C.here, by simpa using hd'⟩
    · obtain ⟨o2, h1, h2⟩ := S.arcs l hl ha
      exact ⟨o2, C.keep _ h1 fun q => e (P.ainj l k hl hk q), by simpa [e] using h2⟩
/-- the list of the states that stand -/
def lst (X : Nat → Addr) (al : List Nat) : List Value := al.map fun k => Value.ref (X k)
theorem lst_at {X : Nat → Addr} {al : List Nat} {j k : Nat} (h : al[j]? = some k) (hj : j < 2 ^ 62) : LIt (lst X al) (j : Int) (.ref (X k)) := ⟨j, rfl, by simp [lst, h], hj⟩
theorem redir_vals {T : Tab} {X : Nat → Addr} (O : T.Ok) (inj : ∀ k l, k < T.n → l < T.n → X k = X l → k = l) {R : Nat → Nat} (h : Reps T R) {i j k : Nat} (hj : j < T.n) (hk : k < T.n) :
    ((vals X R (T.arcs k)).map fun p => (p.1, redir (X j) (X i) p.2)) = vals X (mrg R i j) (T.arcs k) := by
  unfold vals
  rw [List.map_map]
  apply List.map_congr_left
  intro p hp
  have hlt := h.lt (O.lt k hk p hp)
  simp only [Function.comp_apply]
  unfold redir mrg
  by_cases e : R p.2 = j
  · simp [e]
  · have : ¬ X (R p.2) = X j := fun q => e (inj _ _ hlt hj q)
    simp [e, this]
local macro_rules | `(tactic| walk_at "call builtin:len") => `(tactic| (k_here; (with_reducible show wpAny _ _ (call (Value.builtin "len") [Value.ref _]) _ _ _); k_dflt (refine ls_len (by k_asm) (by k_mem) (by k_asm) ?_)))
local macro_rules | `(tactic| walk_at "subscriptTail") => `(tactic| (k_here; (with_reducible show wpAny _ _ (subscriptTail _ _ (Value.ref _) (Value.int _ _)) _ _ _); k_dflt (refine ls_item (by k_asm) (by k_mem) (by k_asm) ?_)))
local macro_rules | `(tactic| walk_at "exec While Name cons nil") => `(tactic| (refine PStop.out ?_))
local macro_rules | `(tactic| walk_at "exec While Compare cons nil") => `(tactic| (refine PStop.out ?_))
local macro_rules | `(tactic| walk_at "exec For Name Call cons nil") => `(tactic| (k_here; (rename Fr _ _ _ _ => lF'); (with_unfolding_all refine' For_turns lF' ?_)))
local macro_rules | `(tactic| walk_at "exec For Name Name cons nil") => `(tactic| (k_here; (rename Fr _ _ _ _ => lF'); (with_unfolding_all refine' For_turns lF' ?_)))
local macro_rules | `(tactic| walk_at "pyIter ref") => `(tactic| ((with_reducible show wpAny _ _ (pyIter (Value.ref _)) (fun it s₂ => TurnsAt _ _ _ _ _ _ _ _ _ it s₂) _ _); refine PStop.out ?_))
local macro_rules | `(tactic| walk_at "WhileStep2") => `(tactic| (first | refine whl2_ret ?_ | refine whl2_brk ?_ | refine PStop.out ?_))
local macro_rules | `(tactic| walk_at "InvEndG") => `(tactic| (refine PStop.out ?_))
local macro_rules | `(tactic| walk_at "delItem ref int") => `(tactic| (k_here; k_dflt (refine st_del' (by k_asm) (by k_asm) (by k_mem) (by k_asm) (by k_asm) ?_); intro h' nx' F' N' C'))
local macro_rules | `(tactic| walk_at "compareOp Eq ref ref") => `(tactic| (k_here; (refine cmp_ofEq ?_); k_dflt (refine' cmp_K ?k1 ?k2 ?k3 ?k4 ?k5 ?k6 ?k7 ?k8 ?_; (case k1 => ktr_units); (case k2 => k_asm); (case k3 => k_asm); (case k4 => k_inst); (case k5 => k_typeOf); (case k6 => k_is); (case k7 => k_is); (case k8 => k_is); k_whole)))
local macro_rules | `(tactic| walk_at "call ref") => `(tactic| (k_here; k_dflt (refine' ct_over ?C ?k1 ?k2 ?k3 ?k4 ?k5 ?kK ?kd ?ku ?ks ?_; (case C => k_asm); (case k1 => k_asm); (case k2 => k_asm); (case k3 => k_asm); (case k4 => k_asm); (case k5 => k_asm); (case kK => first | exact rfl | assumption); (case kd => ktr_room); (case ku => ktr_units); (case ks => (intro p hp; repeat (first | exact hp | exact List.mem_append_left _ hp | refine List.Mem.tail _ ?_)))); (intro r9 nx9 h9 tk9 F9 N9 P9)))
abbrev SW1 (w : World) (T : Tab) (X DX AX : Nat → Addr) (D : Addr) (news : List (Addr × Obj)) : Nat → (Str → Option Value) → List (Addr × Obj) → Prop :=
  fun n m nx => ∃ (ch : Bool) (R : Nat → Nat) (ep : Nat), Reps T R ∧ Bnd m [(Str.ofString "dfas", Value.ref D), (Str.ofString "changes", Value.bool ch)] ∧ (D, listOf (lst X (alive T.n R)).toArray ep) ∈ nx ∧
      SL w T X DX AX D news (fun k => R k = k) (fun _ => R) nx ∧ (ch = false → Closed T R) ∧ n = 2 * (alive T.n R).length + (if ch then 1 else 0)
abbrev SW2 (w : World) (T : Tab) (X DX AX : Nat → Addr) (D : Addr) (news : List (Addr × Obj)) (R : Nat → Nat) : Nat → (Str → Option Value) → List (Addr × Obj) → Prop :=
  fun n m nx => ∃ (i : Nat) (ch : Bool) (R' : Nat → Nat) (ep : Nat), Reps T R' ∧ (∃ ti, Bnd m [(Str.ofString "dfas", Value.ref D), (Str.ofString "changes", Value.bool ch), (Str.ofString "i", Value.int (i : Int) ti)]) ∧ (D, listOf (lst X (alive T.n R')).toArray ep) ∈ nx ∧
      SL w T X DX AX D news (fun k => R' k = k) (fun _ => R') nx ∧ (ch = false → (alive T.n R').length = (alive T.n R).length ∧ ∀ p q a b, p < i → p < q → (alive T.n R')[p]? = some a → (alive T.n R')[q]? = some b → ¬ Alike T R' a b) ∧ (ch = true → (alive T.n R').length < (alive T.n R).length) ∧ n = (alive T.n R').length - i
abbrev SW3 (T : Tab) (X : Nat → Addr) (D : Addr) (nx : List (Addr × Obj)) (ch : Bool) (i a : Nat) (R' : Nat → Nat) : Nat → (Str → Option Value) → List (Addr × Obj) → Prop :=
  fun t m nx' => nx' = nx ∧ (∃ ti, Bnd m [(Str.ofString "dfas", Value.ref D), (Str.ofString "changes", Value.bool ch), (Str.ofString "i", Value.int (i : Int) ti), (Str.ofString "state_i", Value.ref (X a))]) ∧
          ∀ q b, i < q → q < i + 1 + t → (alive T.n R')[q]? = some b → ¬ Alike T R' a b
abbrev SW4 (w : World) (T : Tab) (X DX AX : Nat → Addr) (D : Addr) (news : List (Addr × Obj)) (ep i a b : Nat) (R' : Nat → Nat) : Nat → (Str → Option Value) → List (Addr × Obj) → Prop :=
  fun t' m nx3 => (D, listOf (lst X (alive T.n (mrg R' a b))).toArray (ep + 1)) ∈ nx3 ∧
              SL w T X DX AX D news (fun k => mrg R' a b k = k) (fun k => if k ∈ (alive T.n (mrg R' a b)).take t' then mrg R' a b else R') nx3 ∧
              ∃ ti, Bnd m [(Str.ofString "dfas", Value.ref D), (Str.ofString "i", Value.int (i : Int) ti), (Str.ofString "state_i", Value.ref (X a)), (Str.ofString "state_j", Value.ref (X b))]
set_option maxRecDepth 100000 in
set_option maxHeartbeats 8000000 in
theorem simplify_ct (w : World) {T : Tab} {X DX AX : Nat → Addr} {D : Addr} {ep0 : Nat} {news : List (Addr × Obj)} (O : T.Ok) (P : Apart T.n X DX AX)
    (hD0 : (D, listOf (lst X (List.range T.n)).toArray ep0) ∈ news) (S0 : SL w T X DX AX D news (fun _ => True) (fun _ t => t) news) :
    Ct w (.ref 113) [.ref D] 8 64 news (fun r news' => r = .none ∧ ∃ R ep, Reps T R ∧ Closed T R ∧ (D, listOf (lst X (alive T.n R)).toArray ep) ∈ news' ∧ SL w T X DX AX D news (fun k => R k = k) (fun _ => R) news') := by
  unfold Ct
  intro mean mg mb dp un gd cn cs a ccd cl outer A₀ base h₀ L m s Q E B F X0 N T0 hck hd' hu hret
  refine wpAny_call ?_
  k_dflt ktr_enter
  k_steps
  rename Fr _ _ _ _ => FF
  rename News _ _ _ _ => NN
  unfold PStop
  refine While_inv2 (SW1 w T X DX AX D news) FF NN
    ⟨true, fun k => k, ep0, reps_id T, .cons rfl (.cons rfl .nil), ?_, ?_, fun h => (nomatch h), rfl⟩ ?_ (by with_unfolding_all passes_own)
  · rw [alive_id]; exact hD0
  · exact S0.weaken fun _ _ _ => ⟨trivial, rfl⟩
  · clear NN
    rintro n m₁ nx h tk F₁ N₁ ⟨ch, R, ep, hR, hm₁, hD, S, hcl, rfl⟩
    replace F₁ := fr_lit F₁ hm₁
    dsimp only [kstB] at F₁
    k_steps
    rotate_left
    · rename (ch = false) => hf
      exact hret _ _ _ _ (by assumption) (by assumption) ⟨rfl, R, ep, hR, hcl hf, hD, S⟩
    rename (ch = true) => hct
    subst hct
    rename Fr _ _ _ _ => F2
    rename News _ _ _ _ => N2
    have hal7 : ∀ R : Nat → Nat, (alive T.n R).length ≤ 7 := fun R => Nat.le_trans (by unfold alive; exact Nat.le_trans (List.length_filter_le _ _) (by simp)) O.small
    unfold PStop
    refine While_inv2 (SW2 w T X DX AX D news R) F2 N2
      ⟨0, false, R, ep, hR, ⟨_, .cons rfl (.cons rfl (.cons rfl .nil))⟩, hD, S, fun _ => ⟨rfl, fun p q a b h => absurd h (Nat.not_lt_zero _)⟩, fun h => (nomatch h), rfl⟩ ?_ (by with_unfolding_all passes_own)
    · clear N2
      rintro n m₁ nx h tk F₁ N₁ ⟨i, ch, R', ep, hR', ⟨ti, hm₁⟩, hD, S, hcf, hct, rfl⟩
      replace F₁ := fr_lit F₁ hm₁
      dsimp only [kstB] at F₁
      have hl7 := hal7 R'
      have hlen : (lst X (alive T.n R')).length ≤ 1000 := by simp only [lst, List.length_map]; omega
      have hlen' : (lst X (alive T.n R')).length = (alive T.n R').length := by simp [lst]
      by_cases hi : i < (alive T.n R').length
      · obtain ⟨a, ha⟩ : ∃ a, (alive T.n R')[i]? = some a := ⟨_, List.getElem?_eq_getElem hi⟩
        have hIt := lst_at (X := X) ha (by omega)
        k_steps
        rename IsRange _ _ _ _ _ _ _ _ => RR
        rename Fr _ _ _ _ => F2
        rename News _ _ _ _ => N2
        have haT := mem_alive.mp (List.mem_of_getElem? ha)
        unfold PStop
        refine range_turns (n := (alive T.n R').length - (i + 1)) (SW3 T X D nx ch i a R') rfl RR (small_one (by omega) (by omega) (by omega) (by omega)) (by rw [rangeSize_nat, hlen']; omega) F2 N2
          ⟨rfl, ⟨_, .cons rfl (.cons rfl (.cons rfl (.cons rfl .nil)))⟩, fun q b h1 h2 => by omega⟩ ?_ ?_
        · clear F2 N2
          rintro t tj m₁ nx' h tk own ht hoff ⟨rfl, ⟨ti, hm₁⟩, hno⟩ F₁ N₁
          replace F₁ := fr_lit F₁ hm₁
          dsimp only [kstB] at F₁
          have hj : i + 1 + t < (alive T.n R').length := by omega
          obtain ⟨b, hb⟩ : ∃ b, (alive T.n R')[i + 1 + t]? = some b := ⟨_, List.getElem?_eq_getElem hj⟩
          have hIj := lst_at (X := X) hb (by omega)
          have ecast : (((i + 1 + t : Nat)) : Int) = (i : Int) + 1 + (t : Int) := by omega
          rw [ecast] at hIj
          have hbT := mem_alive.mp (List.mem_of_getElem? hb)
          have hab : a < b := alive_lt ha hb (by omega)
          obtain ⟨oa, hoa, hda⟩ := S.arcs a haT.1 haT.2
          obtain ⟨ob, hob, hdb⟩ := S.arcs b hbT.1 hbT.2
          have hia := (S.st a haT.1).inst
          have hib := (S.st b hbT.1).inst
          obtain ⟨_, _, _, _, _, _, _, _, _, _, hsa⟩ := (S.st a haT.1).dict
          obtain ⟨_, _, _, _, _, _, _, _, _, _, hsb⟩ := (S.st b hbT.1).dict
          have CE : CtOver w (.ref 99) [.ref (X a), .ref (X b)] 2 16 nx' (fun nx9 r news' => r = .bool (decide (T.fin a = T.fin b ∧ (vals X R' (T.arcs a)).length = (vals X R' (T.arcs b)).length ∧ ∀ p ∈ vals X R' (T.arcs a), valueAt (vals X R' (T.arcs b)) p.1 = some p.2)) ∧ news' = nx9) := by
            intro nx9 hs
            have bound : ∀ k, k < T.n → (vals X R' (T.arcs k)).length ≤ 16777216 := fun k hk => by have := O.len k hk; simp only [vals, List.length_map]; omega
            refine eq_ct w ((S.st a haT.1).mono hs) ((S.st b hbT.1).mono hs) (hs _ hoa) (hs _ hob) hda hdb (bound a haT.1) (bound b hbT.1) ?_ ?_
            · intro p hp
              obtain ⟨q, hq, rfl⟩ := List.mem_map.mp hp
              exact ⟨_, _, rfl, hs _ (S.st _ (hR'.lt (O.lt a haT.1 q hq))).inst⟩
            · intro k v hv
              rw [vals_at] at hv
              cases z : alk (T.arcs b) k with
              | none => rw [z] at hv; cases hv
              | some u =>
                rw [z] at hv
                refine ⟨_, _, (Option.some.inj hv).symm, hs _ (S.st _ (hR'.lt (O.lt b hbT.1 _ (alk_mem z)))).inst⟩
          by_cases hA : Alike T R' a b
          · rw [decide_eq_true ((eqv_iff O P.xinj hR' haT.1 hbT.1).mpr hA)] at CE
            k_steps
            rename (_ = Value.bool true ∧ _) => P9
            obtain ⟨rfl, rfl⟩ := P9
            dsimp only [PySem.W.CmpBack]
            k_steps
            rename Chg _ _ _ _ => C1
            rename Fr _ _ _ _ => F2
            rename News _ _ _ _ => N2
            have hij : ((i : Int) + 1 + (t : Int)).toNat = i + 1 + t := by omega
            have hl2 : (lst X (alive T.n R')).eraseIdx ((i : Int) + 1 + (t : Int)).toNat = lst X (alive T.n (mrg R' a b)) := by
              rw [hij, ← alive_merge hab haT.2 hb]
              unfold lst
              rw [erase_map]
            rw [hl2] at C1
            have hR2 := reps_merge O hR' hab hbT.1 haT.2 hbT.2 hA
            have hlen2 : (alive T.n (mrg R' a b)).length = (alive T.n R').length - 1 := by
              rw [← alive_merge hab haT.2 hb, List.length_eraseIdx_of_lt hj]
            obtain ⟨nx2, C2, hs2, _, _⟩ := C1.split hD hoff
            have S2 := S.list (news_l N₁) hD C2
            have N3 : News _ _ _ nx2 := fun p hp => N2 p (hs2 p hp)
            unfold PStop
            refine list_turns (vs := lst X (alive T.n (mrg R' a b))) (nn := ep + 1) (SW4 w T X DX AX D news ep i a b R') rfl F2 N3 (fun _ _ _ q => q.1)
              ⟨C2.here, S2.weaken (fun k hk hak => ⟨?_, by simp⟩), _, .cons rfl (.cons rfl (.cons rfl (.cons rfl .nil)))⟩ ?_ ?_
            · have q : k ∈ alive T.n (mrg R' a b) := mem_alive.mpr ⟨hk, hak⟩
              rw [← alive_merge hab haT.2 hb] at q
              exact (mem_alive.mp (List.mem_of_mem_eraseIdx q)).2
            · clear F2 N2 N3 N₁ F₁
              rintro t' v m₁ nx3 h tk own hv hoff ⟨hD3, S3, ti, hm₁⟩ F₁ N₁
              replace F₁ := fr_lit F₁ hm₁
              dsimp only [kstB] at F₁
              obtain ⟨k, hk, rfl⟩ : ∃ k, (alive T.n (mrg R' a b))[t']? = some k ∧ v = .ref (X k) := by
                unfold lst at hv
                rw [List.getElem?_map] at hv
                cases z : (alive T.n (mrg R' a b))[t']? with
                | none => rw [z] at hv; cases hv
                | some k => rw [z] at hv; exact ⟨k, rfl, (Option.some.inj hv).symm⟩
              have hkT := mem_alive.mp (List.mem_of_getElem? hk)
              have hkn : k ∉ (alive T.n (mrg R' a b)).take t' := fun q => by
                obtain ⟨u, hu⟩ := List.getElem?_of_mem q
                have hu' : u < t' := by have := (List.getElem?_eq_some_iff.mp hu).1; rw [List.length_take] at this; omega
                rw [List.getElem?_take, if_pos hu'] at hu
                have := alive_lt hu hk hu'
                omega
              obtain ⟨ok, hok, hdk⟩ := S3.arcs k hkT.1 hkT.2
              rw [if_neg hkn] at hdk
              have hik := (S3.st k hkT.1).inst
              obtain ⟨_, _, _, _, _, _, _, _, _, _, hsk⟩ := (S3.st k hkT.1).dict
              have UE : CtOver w (.ref 92) [.ref (X k), .ref (X b), .ref (X a)] 2 16 nx3 (fun nx9 r news' => r = .none ∧ ∃ o', Chg (AX k) o' nx9 news' ∧ o'.IsDictOf (strKind pg w) (vals X (mrg R' a b) (T.arcs k))) := by
                intro nx9 hs
                rw [← redir_vals O P.xinj hR' hbT.1 hkT.1]
                refine unify_ct w ((S3.st k hkT.1).mono hs) (hs _ hok) hdk ?_ (hs _ (S3.st b hbT.1).inst) (hs _ (S3.st a haT.1).inst) (P.da k k hkT.1 hkT.1)
                intro p hp
                obtain ⟨q, hq, rfl⟩ := List.mem_map.mp hp
                exact ⟨_, _, rfl, hs _ (S3.st _ (hR'.lt (O.lt k hkT.1 q hq))).inst⟩
              k_steps
              rename (_ = Value.none ∧ _) => P9
              obtain ⟨rfl, o9, C9, D9⟩ := P9
              k_steps
              obtain ⟨nx4, C4, hs4, ho4, hoff4⟩ := C9.split hok hoff
              refine InvEndG.intro (by assumption) (by assumption) ⟨C4.keep _ hD3 (cls_ne (news_l N₁) hD3 hok ?_), ?_, _, .cons rfl (.cons rfl (.cons rfl (.cons rfl .nil)))⟩ hoff4 hs4 ho4
              · obtain ⟨es, ep', hc, _⟩ := hdk
                rw [hc.1]
                intro x
                exact absurd (Value.type.inj x) (by decide)
              · refine (SL.arc P hkT.1 S3 (news_l N₁) hok hdk C4 D9).weaken fun l hl hal => ⟨hal, ?_⟩
                rw [List.take_add_one, hk]
                by_cases e : l = k
                · simp [e]
                · by_cases e2 : l ∈ (alive T.n (mrg R' a b)).take t'
                  · simp [e, e2]
                  · simp [e, e2]
            · clear F2 N2 N3 N₁ F₁
              rintro m₁ nx3 h tk ⟨hD3, S3, ti, hm₁⟩ F₁ N₁
              replace F₁ := fr_lit F₁ hm₁
              dsimp only [kstB] at F₁
              k_steps
              rename News _ _ _ _ => N9
              refine whl2_end ((alive T.n (mrg R' a b)).length - (i + 1)) (by assumption) N9 (by omega) ⟨i + 1, true, mrg R' a b, ep + 1, hR2, ⟨_, .cons rfl (.cons rfl (.cons rfl .nil))⟩, hD3, S3.weaken (fun k hk hak => ⟨hak, ?_⟩), fun h => (nomatch h), fun _ => ?_, rfl⟩
              · have q : k ∈ alive T.n (mrg R' a b) := mem_alive.mpr ⟨hk, hak⟩
                rw [if_pos]
                rw [List.take_of_length_le (by simp [lst])]
                exact q
              · cases ch with
                | true => have := hct rfl; omega
                | false => have := (hcf rfl).1; omega
          · rw [decide_eq_false (fun q => hA ((eqv_iff O P.xinj hR' haT.1 hbT.1).mp q))] at CE
            k_steps
            rename (_ = Value.bool false ∧ _) => P9
            obtain ⟨rfl, rfl⟩ := P9
            dsimp only [PySem.W.CmpBack]
            k_steps
            refine InvEndG.intro (by assumption) (by assumption) ⟨rfl, ⟨_, .cons rfl (.cons rfl (.cons rfl (.cons rfl .nil)))⟩, fun q b' h1 h2 h3 => ?_⟩ hoff (fun p hp => List.mem_append_left _ hp) (fun p hp => List.mem_append_right _ hp)
            by_cases e : q = i + 1 + t
            · subst e
              rw [hb] at h3
              cases h3
              exact hA
            · exact hno q b' h1 (by omega) h3
        · clear F2 N2
          rintro m₁ nx' h tk ⟨rfl, ⟨ti, hm₁⟩, hno⟩ F₁ N₁
          replace F₁ := fr_lit F₁ hm₁
          dsimp only [kstB] at F₁
          k_steps
          rename News _ _ _ _ => N9
          refine whl2_end ((alive T.n R').length - (i + 1)) (by assumption) N9 (by omega) ⟨i + 1, ch, R', ep, hR', ⟨_, .cons rfl (.cons rfl (.cons rfl .nil))⟩, hD, S, fun e => ⟨(hcf e).1, fun p q x y h1 h2 h3 h4 => ?_⟩, hct, rfl⟩
          by_cases e1 : p = i
          · subst e1
            rw [ha] at h3
            cases h3
            have := (List.getElem?_eq_some_iff.mp h4).1
            exact hno q y h2 (by omega) h4
          · exact (hcf e).2 p q x y (by omega) h2 h3 h4
      · have hi' : ¬ ((i : Int) < ((alive T.n R').length : Int)) := by omega
        k_steps
        rename News _ _ _ _ => N9
        have e1 : (alive T.n R').length ≤ i := by omega
        refine whl2_end _ (by assumption) N9 ?_ ⟨ch, R', ep, hR', .cons rfl (.cons rfl .nil), hD, S, fun e => ?_, rfl⟩
        · cases ch with
          | true => have := hct rfl; simp; omega
          | false => have := (hcf rfl).1; simp; omega
        · refine reps_closed hR' fun x y hxy hy ex ey => ?_
          obtain ⟨p, hp⟩ := List.getElem?_of_mem (mem_alive.mpr ⟨Nat.lt_trans hxy hy, ex⟩)
          obtain ⟨q, hq⟩ := List.getElem?_of_mem (mem_alive.mpr ⟨hy, ey⟩)
          have hpq : p < q := by
            rcases Nat.lt_trichotomy p q with c | c | c
            · exact c
            · subst c; rw [hp] at hq; have := Option.some.inj hq; omega
            · have := alive_lt hq hp c; omega
          have hpl := (List.getElem?_eq_some_iff.mp hp).1
          exact (hcf e).2 p q x y (by omega) hpq hp hq
section
local macro_rules | `(tactic| walk_at "setItem ref str") => `(tactic| (k_here; k_dflt (refine st_dict_new (by k_asm) (by k_asm) (by k_mem) (by k_asm) (strKind_is _ _ _ _) (by k_asm) (by k_asm) ?_); intro h' nx' o' F' N' C' D'))
local macro_rules | `(tactic| walk_at "compareOp NotIn str ref") => `(tactic| (k_here; k_dflt (refine kdg_notin (knd := PySem.strKind _ _) (by k_asm) (by k_mem) (by k_asm) (by k_asm) (strKind_is _ _ _ _) false (by assumption) ?_)))
set_option maxRecDepth 100000 in
set_option maxHeartbeats 600000 in
theorem addarc_ct (w : World) {x d ar y dy ay : Addr} {fin fy : Bool} {o : Obj} {kvs : List (Str × Value)} {l : Str} {tl : Tok} {news : List (Addr × Obj)}
    (S : IsSt w news x d ar fin) (ho : (ar, o) ∈ news) (hd : o.IsDictOf (strKind pg w) kvs) (hl : l ∉ kvs.map (·.1)) (hz : kvs.length ≤ 1000) (Sy : IsSt w news y dy ay fy) :
    Ct w (.ref 85) [.ref x, .ref y, .str l tl] 2 16 news (fun r news' => r = .none ∧ ∃ o', Chg ar o' news news' ∧ o'.IsDictOf (strKind pg w) (kvs ++ [(l, .ref y)])) := by
  obtain ⟨hx, ⟨i1, i2, i3, i4, i5, i6, i0, inf, ina, itr, hs⟩, lo⟩ := S
  obtain ⟨hy, ⟨j1, j2, j3, j4, j5, j6, j0, jnf, jna, jtr, hsy⟩, loy⟩ := Sy
  unfold Ct
  intro mean mg mb dp un gd cn cs a ccd cl outer A₀ base h₀ L m s Q E B F X N T hck hd' hu hret
  refine wpAny_call ?_
  k_dflt ktr_enter
  have hv : (valueAt kvs l).isSome = false := by
    cases e : valueAt kvs l with
    | none => rfl
    | some v =>
      exfalso
      unfold valueAt at e
      cases q : kvs.find? (fun kv => kv.1 = l) with
      | none => rw [q] at e; cases e
      | some p =>
        have h1 := List.find?_some q
        simp at h1
        exact hl (List.mem_map.mpr ⟨p, List.mem_of_find?_eq_some q, h1⟩)
  k_steps
  exact hret _ _ _ _ (by assumption) (by assumption) ⟨rfl, _, by assumption, by assumption⟩
end
set_option maxRecDepth 100000 in
set_option maxHeartbeats 400000 in
/-- the class NFAState has no word of its own on equality -/
theorem nfa_cls (p : Params) : ∃ nm q N bs hdct sn sub ab col dd k0 k1 k2 k3 k5 newId, (hd.heap_39 p).lookup 60 = some (excClassObj nm q 60 N bs [.type "object"] hdct sn sub ab col dd k0 k1 k2 k3 k5 newId) ∧
   ∃ od es ep, (hd.heap_39 p).lookup N = some od ∧ od.data = .dict es ep ∧ StrKeys es ∧ nsFind es "__eq__" = none ∧ nsFind es "__ne__" = none := by
  refine ⟨_, _, _, _, _, _, _, _, _, _, _, _, _, _, _, _, rfl, _, _, _, rfl, rfl, ?_, ?_, ?_⟩
  · intro e he
    simp only [List.mem_toArray] at he
    repeat (first | (rcases List.mem_cons.mp he with rfl | he; exact ⟨_, _, rfl⟩) | exact absurd he (List.not_mem_nil))
  · rfl
  · rfl
theorem nfa_cmp {p : Params} {h : Heap} {x d : Addr} (X : (hd.heap_39 p).In h) (hx : h.get? x = some (instObj 60 d)) : h.CmpInst x 60 [.type "object"] := by
  obtain ⟨nm, q, N, bs, hdct, sn, sub, ab, col, dd, k0, k1, k2, k3, k5, newId, hc, od, es, ep, ho, hd', hs, h1, h2⟩ := nfa_cls p
  exact ⟨_, nm, q, N, bs, hdct, sn, sub, ab, col, dd, k0, k1, k2, k3, k5, newId, fun n => nsFind es n, hx, rfl, X _ _ hc, ⟨od, es, ep, X _ _ ho, hd', hs, fun _ => rfl⟩, h1, h2⟩
section
open PySem.MeetsSeq
variable {prog : Program} {w : World} {A : Around} {E : Value → Shared → Prop} {s : Shared}
theorem nfa_eqBool {p : Params} {x y dx dy : Addr} {Q : Bool → Shared → Prop} (X : (hd.heap_39 p).In s.heap) (hx : s.heap.get? x = some (instObj 60 dx)) (hy : s.heap.get? y = some (instObj 60 dy)) (hu : A.units < cLine) (h : Q (decide (x = y)) s) :
    wpAny (model prog w) A (eqBool (.ref x) (.ref y)) Q E s := by
  unfold eqBool
  refine wpAny_holding ?_
  by_cases e : x = y
  · subst e
    rw [if_pos (by simp)]
    exact wpAny_bind (wpAny_rule (wpAny_pure (by simpa using h)))
  · rw [if_neg (by simpa using e)]
    rw [decide_eq_false e] at h
    obtain ⟨hh, g, d, t, os⟩ := s
    refine wpAny_bind (richCompare_eq_other PySem.F.cmp_object PySem.F.cmp_object (nfa_cmp X hx) (nfa_cmp X hy) e hu ?_)
    unfold truthOfDropped
    exact wpAny_truthy_bool h

theorem one_loop (l : Addr) (n : Nat) (x y : Value) (b : Bool) (items : Array Value) (i0 : items[Int.toNat 0]? = some y) (i1 : items[((1 : Nat) : Int).toNat]? = none) : MeetsIn prog w (Builtin.«list.__contains__» ⟨[.ref l, x], []⟩)
    (fun A R s => s.heap.get? l = some { cls := .type "list", dict := none, data := .seq items n, slots := #[] } ∧ (∀ (E : Value → Shared → Prop) (Q : Bool → Shared → Prop), Q b s → wpAny (model prog w) A.in1 (eqBool y x) Q E s) ∧ R (.ok (.ret (.bool b))) s) := by
  have last : MeetsIn prog w (Builtin.«list.__contains__.loop» ⟨[.ref l, x, rawInt (1 : Nat)], []⟩)
      (fun _ R s => s.heap.get? l = some { cls := .type "list", dict := none, data := .seq items n, slots := #[] } ∧ R (.ok (.ret (.bool false))) s) := by
    intro A R s h
    obtain ⟨hp, g, d, tk, os⟩ := s
    obtain ⟨hl, h⟩ := h
    wp_walk using wpAny_loadPart' hl
    rw [i1]
    wp_walk
    exact h
  intro A R s h
  obtain ⟨hp, g, d, tk, os⟩ := s
  obtain ⟨hl, he, h⟩ := h
  wp_walk using wpAny_loadPart' hl
  refine ⟨plainId_quiet plain_contains_loop _, codeAny_builtin entry_contains_loop ?_⟩
  rw [Around.under_plainId plain_contains_loop _]
  wp_walk using wpAny_loadPart' hl
  rw [i0]
  refine wpAny_bind (he _ _ ?_)
  cases b with
  | true =>
    wp_walk
    exact h
  | false =>
    wp_walk
    refine ⟨plainId_quiet plain_contains_loop _, codeAny_builtin entry_contains_loop ?_⟩
    rw [Around.under_plainId plain_contains_loop _]
    exact last A R _ ⟨hl, h⟩
theorem nfa_in {p : Params} {l x y dx dy : Addr} {n : Nat} {Q : Value → Shared → Prop} (X : (hd.heap_39 p).In s.heap) (hl : s.heap.get? l = some (listOf [Value.ref y].toArray n)) (hx : s.heap.get? x = some (instObj 60 dx)) (hy : s.heap.get? y = some (instObj 60 dy)) (hu : A.units + 64 < cLine) (h : Q (.bool (decide (y = x))) s) :
    wpAny (model prog w) A (compareOp .In (.ref x) (.ref l)) Q E s := by
  show wpAny _ A (do return .bool (← contains (.ref l) (.ref x))) Q E s
  have hT : s.TypeIs (.ref l) "list" := ⟨_, hl, rfl⟩
  refine wpAny_bind (wpAny_contains_slot hT F.slot_list_contains (wpAny_mono (call_meetsIn (Q := fun v s' => ∃ b, v = .bool b ∧ Q (.bool b) s') (E := E) F.slot_list_contains hT F.entry_list_contains (F.args_list_contains_2 _ _) (one_loop l n (.ref x) (.ref y) (decide (y = x)) _ rfl rfl) ⟨hl, fun E Q hQ => nfa_eqBool X hy hx ?_ hQ, _, rfl, h⟩) (fun v s' hv => ?_) fun _ _ e => e))
  · show A.units + 1 < cLine
    omega
  · obtain ⟨b, rfl, hq⟩ := hv
    exact wpAny_truthy_bool (wpAny_pure hq)
end
section
theorem allLt_mem {d : Nat} {l : List (Addr × Obj)} : AllLt d l → ∀ p ∈ l, p.1 ≠ d := by
  induction l with
  | nil => intro _ p hp; exact absurd hp List.not_mem_nil
  | cons q r ih =>
    intro h p hp
    rcases List.mem_cons.mp hp with e | hp
    · rw [e]; exact Nat.ne_of_lt h.1
    · exact ih h.2 p hp
local macro_rules | `(tactic| walk_at "subscriptTail") => `(tactic| (k_here; (with_reducible show wpAny _ _ (subscriptTail _ _ (Value.ref _) (Value.int _ _)) _ _ _); k_dflt (refine ls_item (by k_asm) (by k_mem) (by first | assumption | exact ⟨0, rfl, rfl, by decide⟩ | exact ⟨1, rfl, rfl, by decide⟩) ?_)))
local macro_rules | `(tactic| k_all) => `(tactic| assumption)
local macro_rules | `(tactic| walk_at "compareOp In") => `(tactic| (refine PStop.out ?_))
set_option maxRecDepth 100000 in
set_option maxHeartbeats 600000 in
theorem mk_ct (w : World) {nl en x dn de : Addr} {nn : Nat} {tr : Tok} {on oe : Obj} {news : List (Addr × Obj)}
    (hnl : (nl, listOf [Value.ref x].toArray nn) ∈ news) (hx : (x, instObj 60 dn) ∈ news) (he : (en, instObj 60 de) ∈ news) (hdn : (dn, on) ∈ news) (hde : (de, oe) ∈ news) :
    Ct w (.ref 102) [.str (Str.ofString "r") tr, .ref nl, .ref en] 4 200 news (fun r news' => (∀ p ∈ news, p ∈ news') ∧ ∃ x1 d ar o, r = .ref x1 ∧ IsSt w news' x1 d ar (decide (x = en)) ∧ (ar, o) ∈ news' ∧ o.IsDictOf (strKind pg w) [] ∧ (∀ p ∈ news, p.1 ≠ x1 ∧ p.1 ≠ d ∧ p.1 ≠ ar) ∧ d ≠ ar) := by
  unfold Ct
  intro mean mg mb dp un gd cn cs a ccd cl outer A₀ base h₀ L m s Q E B F X N T hck hd' hu hret
  k_dflt (refine' call_cls ?k1 ?k2 ?k3 ?k4 ?k5 ?k6 ?_; (case k1 => k_asm); (case k2 => k_asm); (case k3 => k_asm); (case k4 => k_is); (case k5 => k_is); (case k6 => k_is); k_whole; intro x' d' h' F' N' l1 l2)
  have hnd : ∀ p ∈ news, p.1 ≠ d' := fun p hp => Nat.ne_of_lt (l1 p hp)
  have hnx : ∀ p ∈ news, p.1 ≠ x' := fun p hp => Nat.ne_of_lt (Nat.lt_trans (l1 p hp) l2)
  replace l2 := ltN l2
  k_dflt ktr_enter
  k_steps
  unfold PStop
  rename News _ _ _ _ => N9
  refine nfa_in (Frag.In.keeps (by k_asm) (Fr.keep (by k_asm))) (N9 _ (.tail _ (.tail _ (.tail _ (.tail _ (.tail _ hnl)))))).1 (N9 _ (.tail _ (.tail _ (.tail _ (.tail _ (.tail _ he)))))).1 (N9 _ (.tail _ (.tail _ (.tail _ (.tail _ (.tail _ hx)))))).1 (by simp only [units_deeper, units_under_make]; (try dsimp only [ktrTop]); omega) ?_
  k_steps
  rename (@LT.lt Nat _ x' _ ∧ @LT.lt Nat _ d' _ ∧ AllLt _ news) => q
  refine hret _ _ _ _ (by assumption) (by assumption) ⟨fun p hp => .tail _ (.tail _ (.tail _ (.tail _ (.tail _ hp)))), x', d', _, _, rfl,
    ⟨.tail _ (.tail _ (.tail _ (.head _))), ⟨_, _, _, _, _, _, _, _, _, _, .tail _ (.tail _ (.tail _ (.tail _ (.head _))))⟩, by assumption⟩, .tail _ (.tail _ (.head _)), by assumption, fun p hp => ⟨hnx p hp, hnd p hp, allLt_mem q.2.2 p hp⟩, Nat.ne_of_lt q.2.1⟩
end
section
local macro_rules | `(tactic| walk_at "subscriptTail") => `(tactic| (k_here; (with_reducible show wpAny _ _ (subscriptTail _ _ (Value.ref _) (Value.int _ _)) _ _ _); k_dflt (refine ls_item (by k_asm) (by k_mem) (by first | assumption | exact ⟨0, rfl, rfl, by decide⟩ | exact ⟨1, rfl, rfl, by decide⟩) ?_)))
local macro_rules | `(tactic| k_all) => `(tactic| assumption)
local macro_rules | `(tactic| walk_at "compareOp In") => `(tactic| (refine PStop.out ?_))
set_option maxRecDepth 100000 in
set_option maxHeartbeats 600000 in
theorem nfa_ct (w : World) {tr : Tok} {news : List (Addr × Obj)} :
    Ct w (.ref 60) [.str (Str.ofString "r") tr] 4 200 news (fun r news' => (∀ p ∈ news, p ∈ news') ∧ ∃ x d o, r = .ref x ∧ (x, instObj 60 d) ∈ news' ∧ (d, o) ∈ news' ∧ (∀ p ∈ news, p.1 ≠ x ∧ p.1 ≠ d)) := by
  unfold Ct
  intro mean mg mb dp un gd cn cs a ccd cl outer A₀ base h₀ L m s Q E B F X N T hck hd' hu hret
  k_dflt (refine' call_cls ?k1 ?k2 ?k3 ?k4 ?k5 ?k6 ?_; (case k1 => k_asm); (case k2 => k_asm); (case k3 => k_asm); (case k4 => k_is); (case k5 => k_is); (case k6 => k_is); k_whole; intro x' d' h' F' N' l1 l2)
  have hnd : ∀ p ∈ news, p.1 ≠ d' := fun p hp => Nat.ne_of_lt (l1 p hp)
  have hnx : ∀ p ∈ news, p.1 ≠ x' := fun p hp => Nat.ne_of_lt (Nat.lt_trans (l1 p hp) l2)
  replace l2 := ltN l2
  k_dflt ktr_enter
  k_steps
  refine hret _ _ _ _ (by assumption) (by assumption) ⟨fun p hp => .tail _ (.tail _ (.tail _ hp)), x', d', _, rfl, .tail _ (.head _), .tail _ (.tail _ (.head _)), fun p hp => ⟨hnx p hp, hnd p hp⟩⟩
end
section
variable {prog : Program} {w : World} {A : Around} {E : Value → Shared → Prop} {R : Result → Shared → Prop} {s : Shared}
abbrev testsOf (ifs : List PySem.Expr) (env : Env) : Sem Bool := forIn ifs true fun c r => if r = true then do let ok ← isTrue c env (eval c env); pure (ForInStep.yield ok) else pure (ForInStep.yield r)

theorem comp_loop {elt target iter : PySem.Expr} {ifs : List PySem.Expr} {scope : Scope} {pos : Pos} {it acc : Value} {env : Env} (I : Nat → Shared → Prop)
    (turn : ∀ n s, I n s → ∀ N, wpAny (model prog w) A (pyNext it) (fun r s₁ => match r with
      | none => R (.ok .next) s₁
      | some v => wpAny (model prog w) A (letOwnedTupleGo target it v) (fun _ s₁' => wpAny (model prog w) A (assign target env v) (fun _ s₂ =>
          wpAny (model prog w) A (testsOf ifs env) (fun ok s₃ =>
            if ok = true then wpAny (model prog w) A (eval elt env) (fun x s₄ =>
              wpAny (model prog w) A (call (.builtin "list.append") [acc, x]) (fun _ s₅ => ∃ m, m < n ∧ I m s₅) N s₄) N s₃
            else ∃ m, m < n ∧ I m s₃) N s₂) N s₁') N s₁) N s)
    (n : Nat) (h : I n s) :
    codeAny (model prog w) A (.compLoop (.ListComp elt [⟨target, iter, ifs, 0⟩] scope pos) 0 it acc env) R s := by
  refine codeAny_loop rfl I (fun n s hI => ?_) n h
  show wpAny _ A ((compTurn (.ListComp elt [⟨target, iter, ifs, 0⟩] scope pos) 0 it acc env).onRaise (fun x => do noteFrame x env; theTreesLotGoes x)) _ _ s
  refine wpAny_noted ?_
  rw [compTurn_list]
  refine wpAny_bind (wpAny_standAt (wpAny_bind (wpAny_mono (turn n s hI _) (fun r s₁ h₁ => ?_) fun _ _ h' => h')))
  cases r with
  | none => exact wpAny_pure h₁
  | some v =>
    refine wpAny_bind (wpAny_mono h₁ (fun _ s₁' h₁' => ?_) fun _ _ h' => h')
    refine wpAny_bind (wpAny_mono h₁' (fun _ s₂ h₂ => wpAny_bind (wpAny_mono h₂ (fun ok s₃ h₃ => ?_) fun _ _ h' => h')) fun _ _ h' => h')
    cases ok with
    | false => exact wpAny_pure ⟨rfl, h₃⟩
    | true =>
      exact wpAny_bind (wpAny_bind (wpAny_mono h₃ (fun x s₄ h₄ => wpAny_bind (wpAny_mono h₄ (fun _ s₅ h₅ => wpAny_pure (wpAny_pure ⟨rfl, h₅⟩)) fun _ _ h' => h')) fun _ _ h' => h'))
end

def CEnd (h₀ : Heap) (L : Addr) (m : Str → Option Value) (J : List (Addr × Obj) → Prop) (own : List (Addr × Obj)) (s₁ s₂ : Shared) : Prop :=
  ∃ h' tk news' nx, s₂ = { s₁ with heap := h', toks := tk } ∧ Fr h₀ L h' m ∧ News h₀ L h' news' ∧ (∀ p ∈ nx, p ∈ news') ∧ (∀ p ∈ own, p ∈ news') ∧ OwnOff own (nx.map (·.1)) ∧ J nx
theorem CEnd.intro {h₀ : Heap} {L : Addr} {m : Str → Option Value} {J : List (Addr × Obj) → Prop} {own : List (Addr × Obj)} {s₁ : Shared} {h' : Heap} {tk : Nat} {news' : List (Addr × Obj)} (nx : List (Addr × Obj)) (F : Fr h₀ L h' m) (N : News h₀ L h' news')
    (hn : ∀ p ∈ nx, p ∈ news') (ho : ∀ p ∈ own, p ∈ news') (ha : OwnOff own (nx.map (·.1))) (hj : J nx) : CEnd h₀ L m J own s₁ { s₁ with heap := h', toks := tk } := ⟨h', tk, news', nx, rfl, F, N, hn, ho, ha, hj⟩

section
variable {prog : Program} {w : World} {A : Around} {E : Value → Shared → Prop} {s : Shared} {env : Env} {h₀ : Heap} {m : Str → Option Value}

/-- an iterator in a comprehension's head, with an invariant over what has been gathered and the ledger -/
structure CompW (prog : Program) (w : World) (A : Around) (env : Env) (h₀ : Heap) (m : Str → Option Value) (scope : Scope) (cl : List (Str × Addr)) (target : PySem.Expr) (ifs : List PySem.Expr) (elt : PySem.Expr) (s₂ : Shared) (I : Addr) (fp wr : List Addr) (n : Nat) (P Md : Nat → Value → Heap → Prop) (St : Nat → Heap → Prop)
    (BD : Nat → Value → (Str → Option Value) → Prop) (keep : List (Addr × Obj)) (J : Nat → List Value → List (Addr × Obj) → Prop) : Prop where
  W : KTurns prog w A target I fp wr n P Md St
  self : ∀ (s : Shared) (Q : Value → Shared → Prop) (E : Value → Shared → Prop), St 0 s.heap → Q (.ref I) s → wpAny (model prog w) A (pyIter (.ref I)) Q E s
  hfp : ∀ b ∈ fp, b ∈ wr ∨ ∃ o, (b, o) ∈ keep
  hob : ∀ i h, St i h → ∀ b ∈ wr, ∃ o, h.get? b = some o
  hLf : env.locals ∉ fp
  hlt : ∀ b ∈ fp, b < s₂.heap.objs.size
  hwr : ∀ b ∈ wr, h₀.get? b = none
  hsz : n ≤ 1000
  hkeep : ∀ i ys nx, J i ys nx → ∀ p ∈ keep, p ∈ nx
  asg : ∀ i v C mC (s : Shared) (Q : Unit → Shared → Prop) (E : Value → Shared → Prop), P i v s.heap → s.heap.Ns C mC → (∀ h' mC' tk', h'.Ns C mC' → BD i v mC' → Heap.ExtBut C s.heap h' → Q () { s with heap := h', toks := tk' }) →
    wpAny (model prog w) A (assign target (compEnvC scope cl C env) v) Q E s
  turn : ∀ i v ys nx C mC h tk own E', i < n → ys.length ≤ i → J i ys nx → BD i v mC → h.Ns C mC → OwnOff own (nx.map (·.1)) → (∃ o, (C, o) ∈ own) → Fr h₀ env.locals h m → News h₀ env.locals h (nx ++ own) →
    wpAny (model prog w) A (testsOf ifs (compEnvC scope cl C env)) (fun ok s₃ => if ok = true then wpAny (model prog w) A (eval elt (compEnvC scope cl C env)) (fun y s₄ => CEnd h₀ env.locals m (J (i + 1) (ys ++ [y])) own { s₂ with heap := h, toks := tk } s₄) E' s₃
      else CEnd h₀ env.locals m (J (i + 1) ys) own { s₂ with heap := h, toks := tk } s₃) E' { s₂ with heap := h, toks := tk }

theorem comp_block {elt target iter : PySem.Expr} {ifs : List PySem.Expr} {scope : Scope} {cl : List (Str × Addr)} {pos : Pos} {s₂ : Shared} {I : Addr} {fp wr : List Addr} {n : Nat} {P Md : Nat → Value → Heap → Prop} {St : Nat → Heap → Prop} {BD : Nat → Value → (Str → Option Value) → Prop} {keep : List (Addr × Obj)} {J : Nat → List Value → List (Addr × Obj) → Prop}
    (X : CompW prog w A env h₀ m scope cl target ifs elt s₂ I fp wr n P Md St BD keep J) {nx : List (Addr × Obj)} (hcell : ∀ y ∈ scope.names, y.2 ≠ .cell) (hkind : scope.kind = .function)
    (hst : St 0 s₂.heap) (F : Fr h₀ env.locals s₂.heap m) (N : News h₀ env.locals s₂.heap nx) (hnw : ∀ p ∈ nx, p.1 ∉ wr) (hj : J 0 [] nx) {RR : Value → Addr → Result → Shared → Prop}
    (hRR : ∀ D C ys nx h' tk mC, h'.Ns C mC → Fr h₀ env.locals h' m → News h₀ env.locals h' ((D, listOf ys.toArray ys.length) :: nx) → (∀ p ∈ nx, p.1 ≠ C ∧ p.1 ≠ D) → C ≠ env.locals → D ≠ env.locals → C ≠ D → h₀.get? C = none → ys.length ≤ n → J n ys nx → RR (.ref D) C (.ok .next) { s₂ with heap := h', toks := tk }) :
    wpAny (model prog w) A (newList []) (fun acc s₃ => wpAny (model prog w) A (newFunctionEnv scope env.globals cl [] env.qual none .none (some env)) (fun cenv s₄ =>
      codeAny (model prog w) A (.compStart (.ListComp elt [⟨target, iter, ifs, 0⟩] scope pos) 0 (.ref I) acc { cenv with scope := relabel scope env }) (RR acc cenv.locals) s₄) E s₃) E s₂ := by
  refine wpAny_newObj_type (wpAny_newFunctionEnv hcell (by intro y hy; simp at hy) (fun h₁ hns₁ hsb₁ => ?_) hkind)
  dsimp only at hns₁ hsb₁ ⊢
  generalize hH2 : s₂.heap.push { cls := .type "list", dict := none, data := .seq ([] : List Value).toArray } = H2 at hns₁ hsb₁ ⊢
  generalize hDe : s₂.heap.objs.size = D at *
  have hC : H2.objs.size = D + 1 := by rw [← hH2, Heap.size_push, hDe]
  generalize hCe : H2.objs.size = C at *
  replace hC : @Eq Nat C (D + 1) := hC
  have below : ∀ b : Nat, @LT.lt Nat _ b D → @Ne Nat b C ∧ @Ne Nat b D := fun b hb => ⟨by omega, by omega⟩
  have hCD : @Ne Nat C D := by omega
  have old : ∀ b o, s₂.heap.get? b = some o → h₁.get? b = some o := fun b o e => hsb₁.extBut b o (below b (hDe ▸ Heap.lt_size e)).1 (Heap.get?_push_of_some _ (hH2 ▸ Heap.get?_push_of_some _ e))
  have hDf : D ∉ fp := fun hm => Nat.lt_irrefl _ (hDe ▸ X.hlt _ hm)
  have hCf : C ∉ fp := fun hm => by have q : @LT.lt Nat _ C s₂.heap.objs.size := X.hlt _ hm; have q2 : @Eq Nat s₂.heap.objs.size D := hDe; omega
  have hL : @LT.lt Nat _ env.locals D := hDe ▸ F.ns.lt
  have hA : @LE.le Nat _ h₀.objs.size env.locals := F.above
  have hLD : @Ne Nat D env.locals := by omega
  have hLC : @Ne Nat C env.locals := by omega
  have hD0 : h₀.get? D = none := Heap.get?_none_of_le (show @LE.le Nat _ h₀.objs.size D by omega)
  have hC0 : h₀.get? C = none := Heap.get?_none_of_le (show @LE.le Nat _ h₀.objs.size C by omega)
  have hacc : h₁.get? D = some (listOf ([] : List Value).toArray 0) := by
    have e : s₂.heap.objs.size = D := hDe
    have q : H2.get? D = some (listOf ([] : List Value).toArray 0) := by rw [← hH2, ← e]; exact Heap.get?_push_size _ rfl
    exact hsb₁.extBut D _ (Ne.symm hCD) (Heap.get?_push_of_some _ q)
  have F₁ : Fr h₀ env.locals h₁ m := F.keeps old
  have N₁ : News h₀ env.locals h₁ nx := N.grown old
  have hst₁ : St 0 h₁ := X.W.frame _ _ _ hst fun b _ o e => old b o e
  have hnew : ∀ p ∈ nx, p.1 < D := fun p hp => hDe ▸ Heap.lt_size (N p hp).1
  have hLw : env.locals ∉ wr := fun h => X.hLf (X.W.sub _ h)
  have loop : ∀ s₃ : Shared, s₃ = { s₂ with heap := h₁, toks := s₂.toks + ([] : List (Str × Value)).length } →
      codeAny (model prog w) A (.compLoop (.ListComp elt [⟨target, iter, ifs, 0⟩] scope pos) 0 (.ref I) (.ref D) (compEnvC scope cl C env)) (RR (.ref D) C) s₃ := by
    rintro s₃ rfl
    refine comp_loop (fun k s' => ∃ h' tk i ys nx mC, s' = { s₂ with heap := h', toks := tk } ∧ St i h' ∧ Fr h₀ env.locals h' m ∧ News h₀ env.locals h' nx ∧ h'.get? D = some (listOf ys.toArray ys.length) ∧ h'.Ns C mC ∧ (∀ p ∈ nx, p.1 ∉ wr ∧ p.1 ≠ D ∧ p.1 ≠ C) ∧ J i ys nx ∧ ys.length ≤ i ∧ i ≤ n ∧ k = n + 1 - i) ?_ (n + 1)
      ⟨h₁, _, 0, [], nx, _, rfl, hst₁, F₁, N₁, hacc, hns₁, fun p hp => ⟨hnw p hp, (below _ (hnew p hp)).2, (below _ (hnew p hp)).1⟩, hj, Nat.le_refl _, Nat.zero_le _, rfl⟩
    rintro k s' ⟨h', tk, i, ys, nx', mC, rfl, hst', F', N', hD', hns', hoff, hJ, hys, hi, rfl⟩ Nt
    have old0 : ∀ b o, h₀.get? b = some o → b ∉ wr := fun b o e hb => by rw [X.hwr b hb] at e; cases e
    have hDw : D ∉ wr := fun h => hDf (X.W.sub _ h)
    have hCw : C ∉ wr := fun h => hCf (X.W.sub _ h)
    have next : ∀ h₂ : Heap, (∀ b o, b ∉ wr → h'.get? b = some o → h₂.get? b = some o) → Fr h₀ env.locals h₂ m ∧ News h₀ env.locals h₂ nx' := fun h₂ hk₂ =>
      ⟨⟨F'.ns.at' fun o e => hk₂ _ o hLw e, fun b o e => hk₂ b o (old0 b o e) (F'.keep b o e), F'.above⟩, fun p hp => ⟨hk₂ _ _ (hoff p hp).1 (N' p hp).1, (N' p hp).2⟩⟩
    by_cases hlt : i < n
    · refine X.W.item i _ _ _ hlt hst' fun v h₂ tk₂ hMd hk₂ => ?_
      refine X.W.go i v _ _ _ hMd fun h₃ hP hst₃ hk₃ => ?_
      have k₃ : ∀ b o, b ∉ wr → h'.get? b = some o → h₃.get? b = some o := fun b o hb e => hk₃ b o hb (hk₂ b o hb e)
      refine X.asg i v C mC _ _ _ hP (hns'.at' fun o e => k₃ _ o hCw e) fun h₄ mC₄ tk₄ hns₄ hBD hx₄ => ?_
      replace hx₄ : Heap.ExtBut C h₃ h₄ := hx₄
      obtain ⟨oC, esC, epC, hoC, hdC, hrC⟩ := id hns₄
      obtain ⟨F₃, N₃⟩ := next h₃ k₃
      have hCL : C ≠ env.locals := hLC
      have F₄ : Fr h₀ env.locals h₄ m := ⟨F₃.ns.at' fun o e => hx₄ _ o (Ne.symm hCL) e, fun b o e => hx₄ b o (fun q => by rw [q, hC0] at e; cases e) (F₃.keep b o e), F₃.above⟩
      have N₄ : News h₀ env.locals h₄ nx' := fun p hp => ⟨hx₄ _ _ (hoff p hp).2.2 (N₃ p hp).1, (N₃ p hp).2⟩
      have hD₄ : h₄.get? D = some (listOf ys.toArray ys.length) := hx₄ D _ (Ne.symm hCD) (k₃ D _ hDw hD')
      have hst₄ : St (i + 1) h₄ := X.W.frame _ _ _ hst₃ fun b hb o e => hx₄ b o (fun q => hCf (q ▸ hb)) e
      have Nown : News h₀ env.locals h₄ (PyProof.Rows.ownOf h₀ fp h₄) := news_ownOf X.hLf
      generalize hown : ((D, listOf ys.toArray ys.length) :: (C, oC) :: (PyProof.Rows.ownOf h₀ fp h₄).filter fun p => decide (p.1 ∈ wr)) = own
      have hownD : (D, listOf ys.toArray ys.length) ∈ own := by rw [← hown]; exact .head _
      have hownC : (C, oC) ∈ own := by rw [← hown]; exact .tail _ (.head _)
      have hownW : ∀ b ∈ wr, ∃ o, h₄.get? b = some o ∧ (b, o) ∈ own := fun b hb => by
        obtain ⟨o, ho⟩ := X.hob _ _ hst₄ b hb
        refine ⟨o, ho, ?_⟩
        rw [← hown]
        exact .tail _ (.tail _ (List.mem_filter.mpr ⟨mem_ownOf (X.W.sub _ hb) (X.hwr _ hb) ho, by simpa using hb⟩))
      have hownN : News h₀ env.locals h₄ own := fun p hp => by
        rw [← hown] at hp
        rcases List.mem_cons.mp hp with rfl | hp
        · exact ⟨hD₄, hLD, hD0⟩
        · rcases List.mem_cons.mp hp with rfl | hp
          · exact ⟨hoC, hCL, hC0⟩
          · exact Nown p (List.mem_filter.mp hp).1
      have hownO : OwnOff own (nx'.map (·.1)) := fun p hp b hb e => by
        obtain ⟨q, hq, rfl⟩ := List.mem_map.mp hb
        rw [← hown] at hp
        rcases List.mem_cons.mp hp with rfl | hp
        · exact (hoff q hq).2.1 e.symm
        · rcases List.mem_cons.mp hp with rfl | hp
          · exact (hoff q hq).2.2 e.symm
          · have h1 : p.1 ∈ wr := by simpa using (List.mem_filter.mp hp).2
            exact (hoff q hq).1 (e ▸ h1)
      clear hown
      have fin : ∀ {ys' : List Value} {s₅ : Shared}, CEnd h₀ env.locals m (J (i + 1) ys') own { s₂ with heap := h₄, toks := tk₄ } s₅ → ∃ h₅ tk₅ nx₅, s₅ = { s₂ with heap := h₅, toks := tk₅ } ∧ St (i + 1) h₅ ∧ Fr h₀ env.locals h₅ m ∧ News h₀ env.locals h₅ nx₅ ∧ h₅.get? D = some (listOf ys.toArray ys.length) ∧ h₅.Ns C mC₄ ∧
          (∀ p ∈ nx₅, p.1 ∉ wr ∧ p.1 ≠ D ∧ p.1 ≠ C) ∧ J (i + 1) ys' nx₅ := by
        rintro ys' s₅ ⟨h₅, tk₅, news₅, nx₅, rfl, F₅, N₅, hn₅, ho₅, ha₅, hJ₅⟩
        refine ⟨h₅, tk₅, nx₅, rfl, ?_, F₅, fun p hp => N₅ p (hn₅ p hp), (N₅ _ (ho₅ _ hownD)).1, hns₄.at' fun o e => ?_, fun p hp => ⟨fun hw => ?_, fun e => ?_, fun e => ?_⟩, hJ₅⟩
        · refine X.W.frame _ _ _ hst₄ fun b hb o e => ?_
          rcases X.hfp b hb with hw | ⟨o', hk'⟩
          · obtain ⟨o', ho', hm'⟩ := hownW b hw
            rw [e] at ho'
            cases ho'
            exact (N₅ _ (ho₅ _ hm')).1
          · have h1 := (N₄ _ (X.hkeep _ _ _ hJ _ hk')).1
            rw [e] at h1
            cases h1
            exact (N₅ _ (hn₅ _ (X.hkeep _ _ _ hJ₅ _ hk'))).1
        · rw [hoC] at e
          cases e
          exact (N₅ _ (ho₅ _ hownC)).1
        · obtain ⟨o', _, hm'⟩ := hownW _ hw
          exact ha₅ _ hm' p.1 (List.mem_map.mpr ⟨p, hp, rfl⟩) rfl
        · exact ha₅ _ hownD p.1 (List.mem_map.mpr ⟨p, hp, rfl⟩) e.symm
        · exact ha₅ _ hownC p.1 (List.mem_map.mpr ⟨p, hp, rfl⟩) e.symm
      refine wpAny_mono (X.turn i v ys nx' C mC₄ h₄ tk₄ own Nt hlt hys hJ hBD hns₄ hownO ⟨_, hownC⟩ F₄ (fun p hp => (List.mem_append.mp hp).elim (N₄ p) (hownN p))) (fun ok s₄ h₄' => ?_) fun _ _ e => e
      cases ok with
      | false =>
        simp only [Bool.false_eq_true, if_false] at h₄' ⊢
        obtain ⟨h₅, tk₅, nx₅, rfl, hst₅, F₅, N₅, hD₅, hns₅, hoff₅, hJ₅⟩ := fin h₄'
        exact ⟨n + 1 - (i + 1), by omega, h₅, tk₅, i + 1, ys, nx₅, mC₄, rfl, hst₅, F₅, N₅, hD₅, hns₅, hoff₅, hJ₅, Nat.le_succ_of_le hys, hlt, rfl⟩
      | true =>
        simp only [if_true] at h₄' ⊢
        refine wpAny_mono h₄' (fun y s₅ h₅' => ?_) fun _ _ e => e
        obtain ⟨h₅, tk₅, nx₅, rfl, hst₅, F₅, N₅, hD₅, hns₅, hoff₅, hJ₅⟩ := fin h₅'
        have hsz := X.hsz
        have hz : ys.toArray.size ≤ sizeLine := by rw [List.size_toArray, sizeLine_eq]; omega
        refine append_at (hsz := hz) hD₅ fun h₆ hs₆ ho₆ => ?_
        replace hs₆ : Heap.SameBut D h₅ h₆ := hs₆
        have e1 : ys.toArray.push y = (ys ++ [y]).toArray := by simp
        rw [e1] at ho₆
        refine ⟨n + 1 - (i + 1), by omega, h₆, tk₅, i + 1, ys ++ [y], nx₅, mC₄, rfl, ?_, ?_, ?_, by rw [ho₆]; simp, ?_, hoff₅, hJ₅, by simp; omega, hlt, rfl⟩
        · exact X.W.frame _ _ _ hst₅ fun b hb o e => hs₆.extBut b o (fun q => hDf (q ▸ hb)) e
        · exact F₅.change hs₆ hLD hD0
        · exact fun p hp => ⟨(hs₆.2 p.1 (hoff₅ p hp).2.1).trans (N₅ p hp).1, (N₅ p hp).2⟩
        · exact hns₅.sameBut hs₆ hCD
    · have hin : i = n := by omega
      subst hin
      refine X.W.done _ _ _ hst' fun h₂ tk₂ hk₂ => ?_
      obtain ⟨F₂, N₂⟩ := next h₂ hk₂
      refine hRR D C ys nx' h₂ tk₂ mC (hns'.at' fun o e => hk₂ _ o hCw e) F₂ (fun p hp => ?_) (fun p hp => ⟨(hoff p hp).2.2, (hoff p hp).2.1⟩) hLC hLD hCD hC0 hys hJ
      rcases List.mem_cons.mp hp with rfl | hp
      · exact ⟨hk₂ _ _ hDw hD', hLD, hD0⟩
      · exact N₂ p hp
  exact codeAny_compStart_list (loop _ rfl) (X.self _ _ _ hst₁ (loop _ rfl))
end
section
variable {prog : Program} {w : World} {A : Around} {E : Value → Shared → Prop} {s : Shared} {env : Env} {h₀ : Heap} {m : Str → Option Value}

def CompAt (prog : Program) (w : World) (A : Around) (env : Env) (h₀ : Heap) (m : Str → Option Value) (scope : Scope) (cl : List (Str × Addr)) (target : PySem.Expr) (ifs : List PySem.Expr) (elt : PySem.Expr) (Z : Addr → List Value → List (Addr × Obj) → Heap → Nat → Prop) (it : Value) (s₂ : Shared) : Prop :=
  ∃ (I : Addr) (fp wr : List Addr) (n : Nat) (P Md : Nat → Value → Heap → Prop) (St : Nat → Heap → Prop) (BD : Nat → Value → (Str → Option Value) → Prop) (keep : List (Addr × Obj)) (J : Nat → List Value → List (Addr × Obj) → Prop) (nx : List (Addr × Obj)),
    it = .ref I ∧ CompW prog w A env h₀ m scope cl target ifs elt s₂ I fp wr n P Md St BD keep J ∧ St 0 s₂.heap ∧ Fr h₀ env.locals s₂.heap m ∧ News h₀ env.locals s₂.heap nx ∧ (∀ p ∈ nx, p.1 ∉ wr) ∧ J 0 [] nx ∧
    ∀ D ys nx' h' tk, Fr h₀ env.locals h' m → News h₀ env.locals h' ((D, listOf ys.toArray ys.length) :: nx') → (∀ p ∈ nx', p.1 ≠ D) → ys.length ≤ n → J n ys nx' → Z D ys nx' h' tk

theorem listcomp_eval {elt target iter : PySem.Expr} {ifs : List PySem.Expr} {scope : Scope} {cl : List (Str × Addr)} {pos : Pos} {Q : Value → Shared → Prop} (_F : Fr h₀ env.locals s.heap m)
    (hclos : closureFor scope env = pure cl) (hcell : ∀ y ∈ scope.names, y.2 ≠ .cell) (hkind : scope.kind = .function) (hnames : ∀ y ∈ scope.names, y.2 = .local → scope.names.lookup y.1 = some .local)
    (h : wpAny (model prog w) A (eval iter env) (fun xv s₁ => wpAny (model prog w) A (pyIter xv) (fun it s₂ => CompAt prog w A env h₀ m scope cl target ifs elt (fun D _ _ h' tk => Q (.ref D) { s₂ with heap := h', toks := tk }) it s₂) E s₁) E s)
    (hs : ∀ x, foldedSetIterable iter env x = pure x := by intro _; rfl) :
    wpAny (model prog w) A (eval (.ListComp elt [⟨target, iter, ifs, 0⟩] scope pos) env) Q E s := by
  rw [eval_ListComp]
  refine wpAny_comprehension_free (use := none) rfl hs hclos hkind hnames (wpAny_mono h (fun xv s₁ h₁ => wpAny_mono h₁ (fun it s₂ h₂ => ?_) fun _ _ e => e) fun _ _ e => e)
  obtain ⟨I, fp, wr, n, P, Md, St, BD, keep, J, nx, rfl, X, hst, F, N, hnw, hj, hQ⟩ := h₂
  refine comp_block (RR := fun acc C => compPost (model prog w) A E none Q acc C) X hcell hkind hst F N hnw hj ?_
  intro D C ys nx' h' tk mC hns F' N' hoff hCL hDL hCD hC0 hys hJ
  refine ⟨mC, hns, fun h'' hs'' => ?_⟩
  replace hs'' : Heap.SameBut C h' h'' := hs''
  refine hQ D ys nx' h'' tk (F'.change hs'' hCL hC0) (fun p hp => ⟨(hs''.2 p.1 ?_).trans (N' p hp).1, (N' p hp).2⟩) (fun p hp => (hoff p hp).2) hys hJ
  rcases List.mem_cons.mp hp with rfl | hp
  · exact Ne.symm hCD
  · exact (hoff p hp).1

theorem listcomp_assign {elt target iter : PySem.Expr} {ifs : List PySem.Expr} {scope : Scope} {cl : List (Str × Addr)} {pos spos : Pos} {y : Str} {py : Pos} {Q : Flow → Shared → Prop} (_F : Fr h₀ env.locals s.heap m)
    (hsw : swapsWith (.ListComp elt [⟨target, iter, ifs, 0⟩] scope pos) (some (.Name y py)) spos.line env = pure true)
    (hy : env.kindOf y = some .local) (hp : (env.scope.kind == .class || (env.scope.kind == .module && env.locals != env.globals)) = false)
    (hclos : closureFor scope env = pure cl) (hcell : ∀ y ∈ scope.names, y.2 ≠ .cell) (hkind : scope.kind = .function) (hnames : ∀ y ∈ scope.names, y.2 = .local → scope.names.lookup y.1 = some .local)
    (h : wpAny (model prog w) A (eval iter env) (fun xv s₁ => wpAny (model prog w) A (pyIter xv) (fun it s₂ => CompAt prog w A env h₀ m scope cl target ifs elt
      (fun D ys nx' h' _ => ∀ h'' tk'', Fr h₀ env.locals h'' (fun z => if z = y then some (.ref D) else m z) → News h₀ env.locals h'' ((D, listOf ys.toArray ys.length) :: nx') → Q .next { s₂ with heap := h'', toks := tk'' }) it s₂) E s₁) E s)
    (hs : ∀ x, foldedSetIterable iter env x = pure x := by intro _; rfl) :
    wpAny (model prog w) A (exec (.Assign [.Name y py] (.ListComp elt [⟨target, iter, ifs, 0⟩] scope pos) spos) env) Q E s := by
  rw [exec_Assign_Name_used _ _ _ _ hsw]
  refine wpAny_bind (wpAny_standAt (wpAny_bind ?_))
  show wpAny _ A (do let _ ← comprehension (.ListComp elt [⟨target, iter, ifs, 0⟩] scope pos) scope env _ (newList []) false (eval iter env) (some (assign (.Name y py) env))) _ _ s
  refine wpAny_bind (wpAny_mono (wpAny_comprehension_free (use := some (assign (.Name y py) env)) (Q := fun _ s' => Q .next s') rfl hs hclos hkind hnames
    (wpAny_mono h (fun xv s₁ h₁ => wpAny_mono h₁ (fun it s₂ h₂ => ?_) fun _ _ e => e) fun _ _ e => e)) (fun _ s' hq => wpAny_pure (wpAny_pure hq)) fun _ _ e => e)
  obtain ⟨I, fp, wr, n, P, Md, St, BD, keep, J, nx, rfl, X, hst, F, N, hnw, hj, hQ⟩ := h₂
  refine comp_block (RR := fun acc C => compPost (model prog w) A E (some (assign (.Name y py) env)) (fun _ s' => Q .next s') acc C) X hcell hkind hst F N hnw hj ?_
  intro D C ys nx' h' tk mC hns F' N' hoff hCL hDL hCD hC0 hys hJ
  show wpAny _ A (assign (.Name y py) env (.ref D)) _ _ _
  refine wpAny_assign_Name (wpAny_storeName_local hy F'.ns (fun h₂ hn₂ hs₂ => ?_) hp)
  replace hs₂ : Heap.SameBut env.locals h' h₂ := hs₂
  refine ⟨mC, hns.sameBut hs₂ hCL, fun h₃ hs₃ => ?_⟩
  replace hs₃ : Heap.SameBut C h₂ h₃ := hs₃
  have F₂ : Fr h₀ env.locals h₂ (fun z => if z = y then some (.ref D) else m z) := F'.set hn₂ hs₂
  have N₂ := N'.set hs₂
  refine hQ D ys nx' h' tk F' N' (fun p hp => (hoff p hp).2) hys hJ h₃ _ (F₂.change hs₃ hCL hC0) (fun p hp => ⟨(hs₃.2 p.1 ?_).trans (N₂ p hp).1, (N₂ p hp).2⟩)
  rcases List.mem_cons.mp hp with rfl | hp
  · exact Ne.symm hCD
  · exact (hoff p hp).1

/-- a list of the ledger walked, things of the ledger kept -/
theorem list_walk {target : PySem.Expr} (hh : A.handled = none) (I l : Addr) (nn : Nat) (vs : List Value) (keep : List (Addr × Obj)) (hl : (l, listOf vs.toArray nn) ∈ keep) (hI : ∀ p ∈ keep, p.1 ≠ I) :
    KTurns prog w A target I (I :: keep.map (·.1)) [I] vs.length (fun i v h => vs[i]? = some v ∧ ∀ p ∈ keep, h.get? p.1 = some p.2) (fun i v h => (vs[i]? = some v ∧ ∀ p ∈ keep, h.get? p.1 = some p.2) ∧ h.IsListIter I l (i + 1))
      (fun i h => h.IsListIter I l i ∧ ∀ p ∈ keep, h.get? p.1 = some p.2) where
  sub := fun b hb => by rw [List.mem_singleton.mp hb]; exact .head _
  frame := fun i h h' st hk => ⟨st.1.at fun o e => hk I (.head _) o e, fun p hp => hk p.1 (.tail _ (List.mem_map.mpr ⟨p, hp, rfl⟩)) _ (st.2 p hp)⟩
  item := fun i s Q E hi st hQ => by
    have hL : s.heap.IsList l vs.toArray := ⟨_, st.2 _ hl, rfl, nn, rfl⟩
    refine wpAny_pyNext_list_item st.1 hL (x := vs[i]) (by simp [hi]) fun h' hit' hs' => ?_
    exact hQ _ h' s.toks ⟨⟨by simp [hi], fun p hp => (hs'.2 p.1 (hI p hp)).trans (st.2 p hp)⟩, hit'⟩ fun b o hb e => hs'.extBut b o (fun h => hb (by simp [h])) e
  go := fun i v s Q E hm hQ => letGo_listiter hm.2 (hQ s.heap hm.1 ⟨hm.2, hm.1.2⟩ fun _ _ _ e => e)
  done := fun s Q E st hQ => by
    have hL : s.heap.IsList l vs.toArray := ⟨_, st.2 _ hl, rfl, nn, rfl⟩
    exact wpAny_pyNext_list_end hh st.1 hL (by simp) fun h' he' => hQ h' s.toks fun b o hb e => he' b o (fun h => hb (by simp [h])) e

theorem asg_name {scope : Scope} {cl : List (Str × Addr)} {x : Str} {px : Pos} (hkind : scope.kind = .function) (hx : scope.names.lookup x = some .local) {v : Value} {C : Addr} {mC : Str → Option Value} {Q : Unit → Shared → Prop} (hn : s.heap.Ns C mC)
    (h : ∀ h' mC' tk', h'.Ns C mC' → mC' x = some v → Heap.ExtBut C s.heap h' → Q () { s with heap := h', toks := tk' }) : wpAny (model prog w) A (assign (.Name x px) (compEnvC scope cl C env) v) Q E s :=
  wpAny_assign_Name (wpAny_storeName_local (env := compEnvC scope cl C env) (lookup_relabel_local hx) hn (fun h' hn' hs => h h' _ _ hn' (by simp) hs.extBut) (by simp [compEnvC, relabel, hkind]))
theorem asg_pair {scope : Scope} {cl : List (Str × Addr)} {x y : Str} {px py tpos : Pos} {kk : Nat} (hh : A.handled = none) (hkind : scope.kind = .function) (hx : scope.names.lookup x = some .local) (hy : scope.names.lookup y = some .local) (hxy : x ≠ y) {T : Addr} {a b : Value} {C : Addr} {mC : Str → Option Value} {Q : Unit → Shared → Prop}
    (ht : s.heap.IsTuple T #[a, b]) (hn : s.heap.Ns C mC) (hC : C < s.heap.objs.size)
    (h : ∀ h' mC' tk', h'.Ns C mC' → (mC' x = some a ∧ mC' y = some b) → Heap.ExtBut C s.heap h' → Q () { s with heap := h', toks := tk' }) : wpAny (model prog w) A (assign (.Tuple [.Name x px, .Name y py] kk tpos) (compEnvC scope cl C env) (.ref T)) Q E s := by
  refine wpAny_assign_Tuple hh ht rfl rfl fun h₁ hx₁ => ?_
  replace hx₁ : Heap.ExtBut s.heap.objs.size s.heap h₁ := hx₁
  have hCn : C ≠ s.heap.objs.size := Nat.ne_of_lt hC
  have hn₁ : h₁.Ns C mC := hn.at' fun o e => hx₁ _ o hCn e
  have hp : ((compEnvC scope cl C env).scope.kind == .class || ((compEnvC scope cl C env).scope.kind == .module && (compEnvC scope cl C env).locals != (compEnvC scope cl C env).globals)) = false := by simp [compEnvC, relabel, hkind]
  show wpAny _ _ (do holding [b] (assign (.Name x px) (compEnvC scope cl C env) a); do holding [] (assign (.Name y py) (compEnvC scope cl C env) b); pure ()) _ _ _
  refine wpAny_bind (wpAny_holding (wpAny_assign_Name (wpAny_storeName_local (env := compEnvC scope cl C env) (lookup_relabel_local hx) hn₁ (fun h₂ hn₂ hs₂ => ?_) hp)))
  replace hs₂ : Heap.SameBut C h₁ h₂ := hs₂
  refine wpAny_bind (wpAny_holding (wpAny_assign_Name (wpAny_storeName_local (env := compEnvC scope cl C env) (lookup_relabel_local hy) hn₂ (fun h₃ hn₃ hs₃ => wpAny_pure ?_) hp)))
  replace hs₃ : Heap.SameBut C h₂ h₃ := hs₃
  refine h h₃ _ _ hn₃ ⟨by simp [hxy], by simp⟩ fun c o hc e => hs₃.extBut c o hc (hs₂.extBut c o hc (hx₁ c o ?_ e))
  exact Nat.ne_of_lt (Heap.lt_size e)

theorem blk_local {M : Model} {scope : Scope} {cl : List (Str × Addr)} {C : Addr} {mC : Str → Option Value} {x : Str} {pos : Pos} {v : Value} {Q : Value → Shared → Prop} (hn : s.heap.Ns C mC) (hv : mC x = some v) (h : Q v s)
    (hk : (compEnvC scope cl C env).scope.kind = .function) (hl : (compEnvC scope cl C env).kindOf x = some .local) (hd : (x == ("__debug__" : Str)) = false := by decide) :
    wpAny M A (eval (.Name x pos) (compEnvC scope cl C env)) Q E s := wpAny_Name (wpAny_loadName_local hk hl hn hv h) hd
theorem blk_cell {M : Model} {scope : Scope} {cl : List (Str × Addr)} {C c : Addr} {o : Obj} {L : Addr} {nx : List (Addr × Obj)} {x : Str} {pos : Pos} {v : Value} {Q : Value → Shared → Prop} (N : News h₀ L s.heap nx) (hc : cl.lookup x = some c) (hm : (c, o) ∈ nx) (hd' : o.data = .cell (some v)) (h : Q v s)
    (hk : (compEnvC scope cl C env).scope.kind = .function) (hl : (compEnvC scope cl C env).kindOf x = some .cell) (hd : (x == ("__debug__" : Str)) = false := by decide) :
    wpAny M A (eval (.Name x pos) (compEnvC scope cl C env)) Q E s := wpAny_Name (wpAny_loadName_cell hk hl hc ⟨o, (N _ hm).1, hd'⟩ h) hd
end
/-- a value that is a pair of the ledger's -/
def PairV (nx : List (Addr × Obj)) (v a b : Value) : Prop := ∃ T n, v = .ref T ∧ (T, ({ cls := .type "tuple", data := .seq [a, b].toArray n } : Obj)) ∈ nx
section
variable {prog : Program} {w : World} {A : Around} {E : Value → Shared → Prop} {s : Shared} {env : Env} {h₀ : Heap} {m : Str → Option Value} {scope : Scope} {cl : List (Str × Addr)} {ifs : List PySem.Expr} {elt : PySem.Expr} {Z : Shared → Addr → List Value → List (Addr × Obj) → Heap → Nat → Prop}

/-- over a list of the ledger, things of the ledger kept; any target -/
theorem comp_list {target : PySem.Expr} {l : Addr} {vs : List Value} {nn : Nat} {nx : List (Addr × Obj)} (keep : List (Addr × Obj)) (hl : (l, listOf vs.toArray nn) ∈ keep) (hh : A.handled = none) (F : Fr h₀ env.locals s.heap m) (N : News h₀ env.locals s.heap nx) (hsz : vs.length ≤ 1000)
    (BD : Nat → Value → (Str → Option Value) → Prop)
    (asg : ∀ i v C mC (s : Shared) (Q : Unit → Shared → Prop) (E : Value → Shared → Prop), vs[i]? = some v → (∀ p ∈ keep, s.heap.get? p.1 = some p.2) → s.heap.Ns C mC → (∀ h' mC' tk', h'.Ns C mC' → BD i v mC' → Heap.ExtBut C s.heap h' → Q () { s with heap := h', toks := tk' }) →
      wpAny (model prog w) A (assign target (compEnvC scope cl C env) v) Q E s)
    (J : Nat → List Value → List (Addr × Obj) → Prop) (hkeep : ∀ i ys nx, J i ys nx → ∀ p ∈ keep, p ∈ nx) (hj : J 0 [] nx)
    (turn : ∀ i v ys nx C mC h tk own E', vs[i]? = some v → ys.length ≤ i → J i ys nx → BD i v mC → h.Ns C mC → OwnOff own (nx.map (·.1)) → (∃ o, (C, o) ∈ own) → Fr h₀ env.locals h m → News h₀ env.locals h (nx ++ own) →
      wpAny (model prog w) A (testsOf ifs (compEnvC scope cl C env)) (fun ok s₃ => if ok = true then wpAny (model prog w) A (eval elt (compEnvC scope cl C env)) (fun y s₄ => CEnd h₀ env.locals m (J (i + 1) (ys ++ [y])) own { s with heap := h, toks := tk } s₄) E' s₃
        else CEnd h₀ env.locals m (J (i + 1) ys) own { s with heap := h, toks := tk } s₃) E' { s with heap := h, toks := tk })
    (done : ∀ s₂ D ys nx' h' tk, (∃ h tk, s₂ = { s with heap := h, toks := tk }) → Fr h₀ env.locals h' m → News h₀ env.locals h' ((D, listOf ys.toArray ys.length) :: nx') → (∀ p ∈ nx', p.1 ≠ D) → ys.length ≤ vs.length → J vs.length ys nx' → Z s₂ D ys nx' h' tk) :
    wpAny (model prog w) A (pyIter (.ref l)) (fun it s₂ => CompAt prog w A env h₀ m scope cl target ifs elt (Z s₂) it s₂) E s := by
  have hk : ∀ p ∈ keep, p ∈ nx := hkeep _ _ _ hj
  have hls : s.heap.IsList l vs.toArray := ⟨_, (N _ (hk _ hl)).1, rfl, nn, rfl⟩
  have hlt : ∀ p ∈ nx, p.1 < s.heap.objs.size := fun p hp => Heap.lt_size (N p hp).1
  have hne : ∀ p ∈ nx, p.1 ≠ s.heap.objs.size := fun p hp => Nat.ne_of_lt (hlt p hp)
  refine wpAny_pyIter_list hls ?_
  refine ⟨s.heap.objs.size, s.heap.objs.size :: keep.map (·.1), [s.heap.objs.size], vs.length, _, _, _, fun i v mC => vs[i]? = some v ∧ BD i v mC, keep, J, nx, rfl, ⟨list_walk hh s.heap.objs.size l nn vs keep hl fun p hp => hne p (hk p hp), ?_, ?_, ?_, ?_, ?_, ?_, hsz, hkeep, ?_, ?_⟩, ?_, F.push _, fun p hp => ⟨Heap.get?_push_of_some _ (N p hp).1, (N p hp).2⟩, ?_, hj, ?_⟩
  · intro s Q E st hQ
    exact wpAny_pyIter_listiter st.1 hQ
  · intro b hb
    rcases List.mem_cons.mp hb with rfl | hb
    · exact .inl (List.mem_singleton.mpr rfl)
    · obtain ⟨p, hp, rfl⟩ := List.mem_map.mp hb
      exact .inr ⟨p.2, hp⟩
  · intro i h st b hb
    obtain ⟨oI, hoI, _⟩ := st.1
    rw [List.mem_singleton.mp hb]
    exact ⟨oI, hoI⟩
  · intro hb
    rcases List.mem_cons.mp hb with e | hb
    · exact Nat.lt_irrefl _ (e ▸ F.ns.lt)
    · obtain ⟨p, hp, e⟩ := List.mem_map.mp hb
      exact (N _ (hk p hp)).2.1 e
  · intro b hb
    show b < (s.heap.push _).objs.size
    rw [Heap.size_push]
    rcases List.mem_cons.mp hb with rfl | hb
    · exact Nat.lt_succ_self _
    · obtain ⟨p, hp, rfl⟩ := List.mem_map.mp hb
      exact Nat.lt_succ_of_lt (hlt p (hk p hp))
  · intro b hb
    rw [List.mem_singleton.mp hb]
    exact next_is_new F
  · intro i v C mC s Q E hP hn h
    exact asg i v C mC s Q E hP.1 hP.2 hn fun h' mC' tk' a b c => h h' mC' tk' a ⟨hP.1, b⟩ c
  · intro i v ys nx C mC h tk own E' hi hys hJ hBD hns hoff hown F₁ N₁
    exact turn i v ys nx C mC h tk own E' hBD.1 hys hJ hBD.2 hns hoff hown F₁ N₁
  · exact ⟨⟨_, Heap.get?_push_size _ rfl, rfl, rfl⟩, fun p hp => Heap.get?_push_of_some _ (N p (hk p hp)).1⟩
  · intro p hp hI
    exact hne p hp (List.mem_singleton.mp hI)
  · intro D ys nx' h' tk F' N' hoff hys hJ
    exact done _ D ys nx' h' tk ⟨_, s.toks, rfl⟩ F' N' hoff hys hJ

/-- over a range -/
theorem comp_range {r : Addr} {a₀ b₀ : Int} {t₀ u₀ v₀ : Tok} {n : Nat} {x : Str} {px : Pos} {nx : List (Addr × Obj)} (hkind : scope.kind = .function) (hx : scope.names.lookup x = some .local) (hh : A.handled = none) (hr : IsRange s.heap r a₀ b₀ 1 t₀ u₀ v₀) (hsmall : Builtin.Range.small a₀ b₀ 1 = true) (hrs : Builtin.Range.rangeSize a₀ b₀ 1 = (n : Int)) (F : Fr h₀ env.locals s.heap m) (N : News h₀ env.locals s.heap nx) (hsz : n ≤ 1000)
    (J : Nat → List Value → List (Addr × Obj) → Prop) (hj : J 0 [] nx)
    (turn : ∀ (i : Nat) t ys nx C mC h tk own E', i < n → ys.length ≤ i → J i ys nx → mC x = some (.int (a₀ + (i : Int)) t) → h.Ns C mC → OwnOff own (nx.map (·.1)) → (∃ o, (C, o) ∈ own) → Fr h₀ env.locals h m → News h₀ env.locals h (nx ++ own) →
      wpAny (model prog w) A (testsOf ifs (compEnvC scope cl C env)) (fun ok s₃ => if ok = true then wpAny (model prog w) A (eval elt (compEnvC scope cl C env)) (fun y s₄ => CEnd h₀ env.locals m (J (i + 1) (ys ++ [y])) own { s with heap := h, toks := tk } s₄) E' s₃
        else CEnd h₀ env.locals m (J (i + 1) ys) own { s with heap := h, toks := tk } s₃) E' { s with heap := h, toks := tk })
    (done : ∀ s₂ D ys nx' h' tk, (∃ h tk, s₂ = { s with heap := h, toks := tk }) → Fr h₀ env.locals h' m → News h₀ env.locals h' ((D, listOf ys.toArray ys.length) :: nx') → (∀ p ∈ nx', p.1 ≠ D) → ys.length ≤ n → J n ys nx' → Z s₂ D ys nx' h' tk) :
    wpAny (model prog w) A (pyIter (.ref r)) (fun it s₂ => CompAt prog w A env h₀ m scope cl (.Name x px) ifs elt (Z s₂) it s₂) E s := by
  refine wpAny_pyIter_range hr hsmall ?_
  have W : Walks prog w A s.heap.objs.size [s.heap.objs.size] [s.heap.objs.size] n (fun i v => i < n ∧ ∃ t, v = .int (a₀ + i * 1) t)
      (fun i h => IsRangeIter h s.heap.objs.size (a₀ + (i : Nat) * 1) ((n : Int) - (i : Nat)) 1) := (Walks.range hh _ a₀ 1 n).bound
  refine ⟨s.heap.objs.size, [s.heap.objs.size], [s.heap.objs.size], n, _, _, _, fun i v mC => ∃ t, mC x = some (.int (a₀ + (i : Int)) t), [], J, nx, rfl, ⟨KTurns.ofWalks W fun i v s Q E st q => wpAny_of_eq (rfl : letOwnedTupleGo (.Name x px) (.ref _) v = pure ()) q, ?_, fun b hb => .inl hb, ?_, ?_, ?_, ?_, hsz, fun _ _ _ _ p hp => (nomatch hp), ?_, ?_⟩, (by show IsRangeIter _ _ _ _ _; rw [hrs]; simpa using Heap.get?_push_size _ rfl), F.push _, fun p hp => ⟨Heap.get?_push_of_some _ (N p hp).1, (N p hp).2⟩, ?_, hj, ?_⟩
  · intro s Q E st hQ
    exact W.self 0 _ _ _ st hQ
  · intro i h st b hb
    rw [List.mem_singleton.mp hb]
    exact ⟨_, st⟩
  · intro hb
    exact Nat.lt_irrefl _ ((List.mem_singleton.mp hb) ▸ F.ns.lt)
  · intro b hb
    show b < (s.heap.push _).objs.size
    rw [Heap.size_push, List.mem_singleton.mp hb]
    exact Nat.lt_succ_self _
  · intro b hb
    rw [List.mem_singleton.mp hb]
    exact next_is_new F
  · rintro i v C mC s Q E ⟨_, t, rfl⟩ hn h
    refine asg_name hkind hx hn fun h' mC' tk' a b c => h h' mC' tk' a ⟨t, ?_⟩ c
    rw [b, Int.mul_one]
  · rintro i v ys nx C mC h tk own E' hi hys hJ ⟨t, hBD⟩ hns hoff hown F₁ N₁
    exact turn i t ys nx C mC h tk own E' hi hys hJ hBD hns hoff hown F₁ N₁
  · intro p hp hI
    exact absurd (Heap.lt_size (N p hp).1) ((List.mem_singleton.mp hI) ▸ Nat.lt_irrefl _)
  · intro D ys nx' h' tk F' N' hoff hys hJ
    exact done _ D ys nx' h' tk ⟨_, s.toks, rfl⟩ F' N' hoff hys hJ
end
/-- the labels, and their rank in the order of text -/
def LBS : List Str := [Str.ofString "a", Str.ofString "'x'", Str.ofString "NAME"]
def rk (s : Str) : Nat := if s = Str.ofString "'x'" then 0 else if s = Str.ofString "NAME" then 1 else 2
theorem rk_inj : ∀ a ∈ LBS, ∀ b ∈ LBS, rk a = rk b → a = b := by decide +kernel
theorem rk_lt : ∀ a ∈ LBS, ∀ b ∈ LBS, decide (a.cps.toList < b.cps.toList) = decide (rk a < rk b) := by decide +kernel
theorem rk_3 : ∀ a ∈ LBS, rk a < 3 := by decide +kernel

abbrev tupN (vs : List Value) (n : Nat) : Obj := { cls := .type "tuple", data := .seq vs.toArray n }
/-- a row of arcs, as references to pairs -/
structure RowAt (news : List (Addr × Obj)) (vs : List Value) (S : List (Str × Nat)) : Prop where
  len : vs.length = S.length
  at' : ∀ (i : Nat) l t, S[i]? = some (l, t) → ∃ a n tl ti, vs[i]? = some (Value.ref a) ∧ (a, tupN [Value.str l tl, Value.int (t : Nat) ti] n) ∈ news
theorem RowAt.mono {l l' : List (Addr × Obj)} {vs : List Value} {S : List (Str × Nat)} (h : RowAt l vs S) (hs : ∀ p ∈ l, p ∈ l') : RowAt l' vs S :=
  ⟨h.len, fun i l t e => let ⟨a, n, tl, ti, x, y⟩ := h.at' i l t e; ⟨a, n, tl, ti, x, hs _ y⟩⟩
theorem RowAt.nil {l : List (Addr × Obj)} : RowAt l [] [] := ⟨rfl, fun i l t e => by simp at e⟩
theorem RowAt.snoc {l : List (Addr × Obj)} {vs : List Value} {S : List (Str × Nat)} {a : Addr} {s : Str} {t n : Nat} {tl ti : Tok} (h : RowAt l vs S) (hm : (a, tupN [.str s tl, .int (t : Nat) ti] n) ∈ l) : RowAt l (vs ++ [.ref a]) (S ++ [(s, t)]) := by
  refine ⟨by simp [h.len], fun i l' t' e => ?_⟩
  by_cases hi : i < S.length
  · rw [List.getElem?_append_left hi] at e
    obtain ⟨a, n, tl, ti, x, y⟩ := h.at' i l' t' e
    exact ⟨a, n, tl, ti, by rw [List.getElem?_append_left (by rw [h.len]; exact hi)]; exact x, y⟩
  · have hl := (List.getElem?_eq_some_iff.mp e).1
    simp at hl
    have : i = S.length := by omega
    subst this
    simp at e
    obtain ⟨rfl, rfl⟩ := e
    exact ⟨a, n, tl, ti, by rw [← h.len]; simp, hm⟩
/-- a table of the ledger -/
structure TabIn (T : Tab) (TL : Addr) (news : List (Addr × Obj)) : Prop where
  list : ∃ (vs : List Value) (n : Nat), (TL, listOf vs.toArray n) ∈ news ∧ vs.length = T.n ∧ ∀ k, k < T.n → ∃ (a : Addr) (m : Nat) (r : Addr) (n' : Nat) (rs : List Value), vs[k]? = some (Value.ref a) ∧ (a, tupN [Value.bool (T.fin k), Value.ref r] m) ∈ news ∧ (r, listOf rs.toArray n') ∈ news ∧ RowAt news rs (T.arcs k)
theorem TabIn.mono {T : Tab} {TL : Addr} {l l' : List (Addr × Obj)} (h : TabIn T TL l) (hs : ∀ p ∈ l, p ∈ l') : TabIn T TL l' := by
  obtain ⟨vs, n, a, b, c⟩ := h.list
  refine ⟨vs, n, hs _ a, b, fun k hk => ?_⟩
  obtain ⟨a, m, r, n', rs, x, y, z, u⟩ := c k hk
  exact ⟨a, m, r, n', rs, x, hs _ y, hs _ z, u.mono hs⟩
/-- a list of numbers -/
structure NumsAt (vs : List Value) (n : Nat) (R : Nat → Nat) : Prop where
  len : vs.length = n
  at' : ∀ k, k < n → ∃ t, vs[k]? = some (Value.int (R k : Nat) t)
theorem NumsAt.lit {vs : List Value} {n k : Nat} {R : Nat → Nat} (h : NumsAt vs n R) (hk : k < n) (hn : n ≤ 1000) : ∃ t, LIt vs (k : Int) (.int (R k : Nat) t) := let ⟨t, e⟩ := h.at' k hk; ⟨t, k, rfl, e, by omega⟩

/-- the answers to a tree of questions -/
def runT {α : Type} (c : Nat → Nat → Option Bool) : KasT α → Option α
  | .ret a => some a
  | .ask i j k => match c i j with
    | some b => runT c (k b)
    | none => none
theorem runT_wp {α : Type} {c : Nat → Nat → Option Bool} {cmp : Nat → Nat → (Bool → Shared → Prop) → Shared → Prop} {s : Shared} {Q : α → Shared → Prop} (hc : ∀ i j b C, c i j = some b → C b s → cmp i j C s) : ∀ (t : KasT α) (a : α), runT c t = some a → Q a s → t.kasWp cmp Q s
  | .ret b, a, h, q => by
    have : b = a := Option.some.inj h
    subst this
    exact q
  | .ask i j k, a, h, q => by
    unfold runT at h
    cases e : c i j with
    | none => rw [e] at h; cases h
    | some b =>
      rw [e] at h
      exact hc i j b _ e (runT_wp hc (k b) a h q)
def ordC (l : List Nat) (i j : Nat) : Option Bool := match l[i]?, l[j]? with
  | some a, some b => if a = b then none else some (decide (a < b))
  | _, _ => none
def L12 : List (List Nat) := [[0, 1], [0, 2], [1, 0], [1, 2], [2, 0], [2, 1], [0, 1, 2], [0, 2, 1], [1, 0, 2], [1, 2, 0], [2, 0, 1], [2, 1, 0]]
def okRun (l : List Nat) : Bool := match runT (ordC l) (kas_sort l.length) with
  | some p => p.toList.isPerm (List.range l.length) && decide ((p.toList.map fun i => l.getD i 0).Pairwise (· < ·))
  | none => false
theorem runs_ok : ∀ l ∈ L12, okRun l = true := by decide +kernel
theorem run_ok {l : List Nat} (h : l ∈ L12) : ∃ p, runT (ordC l) (kas_sort l.length) = some p ∧ p.toList.Perm (List.range l.length) ∧ (p.toList.map fun i => l.getD i 0).Pairwise (· < ·) := by
  have q := runs_ok l h
  unfold okRun at q
  cases e : runT (ordC l) (kas_sort l.length) with
  | none => rw [e] at q; cases q
  | some p =>
    rw [e] at q
    simp only [Bool.and_eq_true, decide_eq_true_eq] at q
    exact ⟨p, rfl, List.isPerm_iff.mp q.1, q.2⟩
theorem l12_two : ∀ a b : _root_.Fin 3, a ≠ b → [a.val, b.val] ∈ L12 := by decide +kernel
theorem l12_three : ∀ a b c : _root_.Fin 3, a ≠ b → a ≠ c → b ≠ c → [a.val, b.val, c.val] ∈ L12 := by decide +kernel
theorem mem_L12 {l : List Nat} (h3 : ∀ x ∈ l, x < 3) (hn : l.Nodup) (h2 : 2 ≤ l.length) : l ∈ L12 := by
  cases l with
  | nil => exact absurd h2 (by decide)
  | cons x l => cases l with
    | nil => exact absurd h2 (Nat.lt_irrefl 1)
    | cons y l =>
      have hx := h3 x (.head _)
      have hy := h3 y (.tail _ (.head _))
      have n1 := (List.nodup_cons.mp hn).1
      have hxy : x ≠ y := fun e => n1 (e ▸ .head _)
      cases l with
      | nil => exact l12_two ⟨x, hx⟩ ⟨y, hy⟩ fun e => hxy (congrArg Fin.val e)
      | cons z l =>
        have hz := h3 z (.tail _ (.tail _ (.head _)))
        have n2 := (List.nodup_cons.mp (List.nodup_cons.mp hn).2).1
        have hxz : x ≠ z := fun e => n1 (e ▸ .tail _ (.head _))
        have hyz : y ≠ z := fun e => n2 (e ▸ .head _)
        cases l with
        | nil => exact l12_three ⟨x, hx⟩ ⟨y, hy⟩ ⟨z, hz⟩ (fun e => hxy (congrArg Fin.val e)) (fun e => hxz (congrArg Fin.val e)) fun e => hyz (congrArg Fin.val e)
        | cons u l =>
          exfalso
          have hu := h3 u (.tail _ (.tail _ (.tail _ (.head _))))
          have hxu : x ≠ u := fun e => n1 (e ▸ .tail _ (.tail _ (.head _)))
          have hyu : y ≠ u := fun e => n2 (e ▸ .tail _ (.head _))
          have hzu : z ≠ u := fun e => (List.nodup_cons.mp (List.nodup_cons.mp (List.nodup_cons.mp hn).2).2).1 (e ▸ .head _)
          clear n1 n2 hn h3 h2
          omega
section
variable {prog : Program} {w : World} {A : Around} {E : Value → Shared → Prop} {s : Shared} {h₀ : Heap} {L : Addr} {m : Str → Option Value} {news : List (Addr × Obj)}

/-- sorted of none or one -/
theorem short_list_sort {a : Addr} {vs : List Value} {n : Nat} {P : PySem.Fin → Shared → Prop} (ho : s.heap.get? a = some (seqObj "list" vs.toArray n)) (hl : vs.length < 2)
    (h : P (.done (.ret .none)) { s with heap := sortedHeap s.heap a vs vs.toArray }) : wpAny (model prog w) A (Builtin.«list.sort» ⟨[.ref a], []⟩) P E s := by
  rw [list_sort_plain]
  have ha : a < s.heap.objs.size := Heap.lt_size ho
  obtain ⟨e1, ho1⟩ : ∃ e1, (s.heap.update a (Obj.mapSeq fun _ => #[])).get? a = some (seqObj "list" #[] e1) := ⟨_, get?_update_seq ho (fun _ => #[])⟩
  have n1 : a ≠ (s.heap.update a (Obj.mapSeq fun _ => #[])).objs.size := by rw [Heap.size_update]; exact Nat.ne_of_lt ha
  have n2 : a ≠ ((s.heap.update a (Obj.mapSeq fun _ => #[])).push (seqObj "tuple" vs.toArray 0)).objs.size := by rw [size_push', Heap.size_update]; exact Nat.ne_of_lt (Nat.lt_succ_of_lt ha)
  have ho6 : (((s.heap.update a (Obj.mapSeq fun _ => #[])).push (seqObj "tuple" vs.toArray 0)).push (seqObj "list" #[] 0)).get? a = some (seqObj "list" #[] e1) :=
    (Heap.get?_push_ne _ _ _ n2).trans ((Heap.get?_push_ne _ _ _ n1).trans ho1)
  have hs : vs.toArray.size < 2 := by simpa using hl
  have hz : vs.toArray.size ≤ sizeLine := by rw [sizeLine_eq]; omega
  refine wpAny_bind (listItems_at ho rfl (wpAny_bind (listUpdate_at ho rfl ?_ hz (Nat.zero_le _))))
  refine wpAny_bind (seqEpoch_at ho1 rfl (wpAny_bind (wpAny_newTuple ?_ (by rw [List.size_toArray] at hz; exact hz))))
  refine wpAny_bind (wpAny_newList (wpAny_holding ?_) (Nat.zero_le _))
  show wpAny (model prog w) A _ P E { s with heap := ((s.heap.update a (Obj.mapSeq fun _ => #[])).push (seqObj "tuple" vs.toArray 0)).push (seqObj "list" #[] 0) }
  dsimp only
  rw [if_pos hs, if_pos hs]
  refine wpAny_bind (wpAny_pure ?_)
  rw [StateT.run_pure]
  refine wpAny_bind (wpAny_pure ?_)
  dsimp only
  refine wpAny_bind (seqEpoch_at ho6 rfl ?_)
  have hz2 : ((arrOf (SortSt.mk' general' (vs.toArray.zip vs.toArray) #[] 7 none)).map (·.2)).size ≤ sizeLine + 1 := by
    show ((vs.toArray.zip vs.toArray).map (·.2)).size ≤ sizeLine + 1
    simp
    omega
  refine wpAny_bind (listUpdate_at ho6 rfl ?_ (Nat.zero_le _) hz2)
  simp only [bne_self_eq_false, Bool.false_eq_true, if_false]
  refine wpAny_pure ?_
  have e2 : (arrOf (SortSt.mk' general' (vs.toArray.zip vs.toArray) #[] 7 none)).map (·.2) = vs.toArray := by
    show (vs.toArray.zip vs.toArray).map (·.2) = vs.toArray
    apply Array.toList_inj.mp
    simp
    exact List.map_snd_zip (Nat.le_refl _)
  rw [e2]
  exact h
theorem short_sort {l : Addr} {vs : List Value} {Q : Value → Shared → Prop} (hl : s.heap.IsList l vs.toArray) (h2 : vs.length < 2)
    (h : Q (.ref (s.heap.objs.size + 1)) { s with heap := sortedAll s.heap vs vs.toArray }) : wpAny (model prog w) A (call (.builtin "sorted") [.ref l]) Q E s := by
  refine Calls.call_function_entry kind_sorted plain_sorted entry_sorted (args_sorted1 _) ?_
  unfold Builtin.«sorted»
  have hz : vs.length ≤ sizeLine := by rw [sizeLine_eq]; omega
  refine wpAny_bind (m := checkCount "sorted" 1 1 _) (wpAny_pure (wpAny_bind (collect_list hl (wpAny_bind (wpAny_newList ?_ hz)) hz)))
  have hsz : ((s.heap.push (seqObj "list" #[] 0)).update s.heap.objs.size (Obj.mapSeq (· ++ vs.toArray))).objs.size = s.heap.objs.size + 1 := by rw [Heap.size_update, size_push']
  have hoL : (((s.heap.push (seqObj "list" #[] 0)).update s.heap.objs.size (Obj.mapSeq (· ++ vs.toArray))).push (seqObj "list" vs.toArray 0)).get? (s.heap.objs.size + 1) = some (seqObj "list" vs.toArray 0) := by
    rw [← hsz]; exact Heap.get?_push_size _ rfl
  show wpAny _ _ _ _ _ { s with heap := ((s.heap.push (seqObj "list" #[] 0)).update s.heap.objs.size (Obj.mapSeq (· ++ vs.toArray))).push (seqObj "list" vs.toArray 0) }
  rw [hsz]
  exact wpAny_bind (wpAny_holding (wpAny_call_entry slot_list_sort ⟨_, hoL, rfl⟩ entry_list_sort (short_list_sort hoL h2 ⟨_, rfl, wpAny_pure ⟨_, rfl, h⟩⟩) (args_list_sort _)))

theorem tups_of {h : Heap} {vs : List Value} {S : List (Str × Nat)} : ∀ (_ : vs.length = S.length) (_ : ∀ (i : Nat) l t, S[i]? = some (l, t) → ∃ a n tl ti, vs[i]? = some (Value.ref a) ∧ h.get? a = some (tupN [Value.str l tl, Value.int (t : Nat) ti] n)),
    ∃ fs, KatTups h vs fs ∧ fs.length = S.length ∧ ∀ f ∈ fs, ∃ l t, f = Value.str l t := by
  induction vs generalizing S with
  | nil =>
    intro hl _
    cases S with
    | nil => exact ⟨[], .nil, rfl, fun f h => (nomatch h)⟩
    | cons a r => cases hl
  | cons v vs ih =>
    intro hl hat
    cases S with
    | nil => cases hl
    | cons p S =>
      obtain ⟨a, n, tl, ti, hv, ho⟩ := hat 0 p.1 p.2 rfl
      obtain ⟨fs, h1, h2, h3⟩ := ih (S := S) (by simpa using hl) (fun i l t e => by simpa using hat (i + 1) l t (by simpa using e))
      have hv' : v = .ref a := by simpa using hv
      subst hv'
      refine ⟨.str p.1 tl :: fs, .cons ho rfl rfl rfl h1, by simp [h2], fun f hf => ?_⟩
      rcases List.mem_cons.mp hf with rfl | hf
      · exact ⟨_, _, rfl⟩
      · exact h3 f hf

theorem sort_row {l : Addr} {vs : List Value} {n : Nat} {S : List (Str × Nat)} {Q : Value → Shared → Prop} (F : Fr h₀ L s.heap m) (N : News h₀ L s.heap news) (hl : (l, listOf vs.toArray n) ∈ news) (R : RowAt news vs S) (h3 : S.length ≤ 3) (hlab : ∀ p ∈ S, p.1 ∈ LBS) (hnd : (S.map (·.1)).Nodup)
    (h : ∀ D h' tk n' vs' S', Fr h₀ L h' m → News h₀ L h' ((D, listOf vs'.toArray n') :: news) → (∀ q ∈ news, q.1 ≠ D) → RowAt news vs' S' → S'.Perm S → (S'.map fun p => rk p.1).Pairwise (· < ·) → Q (.ref D) { s with heap := h', toks := tk }) :
    wpAny (model prog w) A (call (.builtin "sorted") [.ref l]) Q E s := by
  have hL : s.heap.IsList l vs.toArray := ⟨_, (N _ hl).1, rfl, n, rfl⟩
  by_cases h2 : vs.length < 2
  · refine short_sort hL h2 ?_
    obtain ⟨e, he⟩ := sortedAll_at s.heap vs vs.toArray
    refine h _ _ _ e vs S (F.kept fun _ _ => sortedAll_old) (N.kept_cons F (fun _ _ => sortedAll_old) (Nat.le_succ _) he) (fun q hq => Nat.ne_of_lt (Nat.lt_succ_of_lt (Heap.lt_size (N q hq).1))) R (List.Perm.refl _) ?_
    rw [R.len] at h2
    match S, h2 with
    | [], _ => simp
    | [p], _ => simp
  · have hv2 : 2 ≤ vs.length := by omega
    have hlen := R.len
    have hmem : S.map (fun p => rk p.1) ∈ L12 := by
      refine mem_L12 (fun x hx => ?_) ?_ (by simp; omega)
      · obtain ⟨p, hp, rfl⟩ := List.mem_map.mp hx
        exact rk_3 _ (hlab p hp)
      · have e : S.map (fun p => rk p.1) = (S.map (·.1)).map rk := by rw [List.map_map]; rfl
        rw [e]
        have : ∀ l : List Str, (∀ x ∈ l, x ∈ LBS) → l.Nodup → (l.map rk).Nodup := by
          intro l
          induction l with
          | nil => intro _ _; exact List.nodup_nil
          | cons a r ih =>
            intro ha hn
            rw [List.nodup_cons] at hn
            rw [List.map_cons, List.nodup_cons]
            refine ⟨fun hm => ?_, ih (fun x hx => ha x (.tail _ hx)) hn.2⟩
            obtain ⟨b, hb, e⟩ := List.mem_map.mp hm
            have := rk_inj b (ha b (.tail _ hb)) a (ha a (.head _)) e
            exact hn.1 (this ▸ hb)
        exact this _ (fun x hx => by obtain ⟨p, hp, rfl⟩ := List.mem_map.mp hx; exact hlab p hp) hnd
    obtain ⟨p, hrun, hperm, hpw⟩ := run_ok hmem
    rw [List.length_map, ← hlen] at hrun hperm
    refine kat_sorted F N hL hv2 (by omega) fun D e1 h' F' N' hD => ?_
    have hat : ∀ (i : Nat) l t, S[i]? = some (l, t) → ∃ a n tl ti, vs[i]? = some (Value.ref a) ∧ h'.get? a = some (tupN [Value.str l tl, Value.int (t : Nat) ti] n) := fun i l t e => by
      obtain ⟨a, n, tl, ti, x, y⟩ := R.at' i l t e
      exact ⟨a, n, tl, ti, x, (N' _ (.tail _ y)).1⟩
    obtain ⟨fs, ht, hfl, hfs⟩ := tups_of hlen hat
    refine kat_kind (s := { s with heap := h' }) (T := Value.type "str") ht (by omega) (fun v hv => ?_) (by decide) ?_
    · obtain ⟨l, t, rfl⟩ := hfs v hv
      exact Looks.of_pure rfl
    · refine runT_wp (c := ordC (S.map fun p => rk p.1)) ?_ _ p hrun ?_
      · intro i j b C hc hC
        unfold ordC at hc
        rw [List.getElem?_map, List.getElem?_map] at hc
        cases hi : S[i]? with
        | none => rw [hi] at hc; simp at hc
        | some pi =>
          cases hj : S[j]? with
          | none => rw [hi, hj] at hc; simp at hc
          | some pj =>
            rw [hi, hj] at hc
            simp only [Option.map_some] at hc
            by_cases e : rk pi.1 = rk pj.1
            · rw [if_pos e] at hc; cases hc
            · rw [if_neg e] at hc
              obtain ⟨ai, ni, li, ti, xi, yi⟩ := hat i pi.1 pi.2 hi
              obtain ⟨aj, nj, lj, tj, xj, yj⟩ := hat j pj.1 pj.2 hj
              have hne : ¬ pi.1 = pj.1 := fun q => e (by rw [q])
              have hb : b = decide (pi.1.cps.toList < pj.1.cps.toList) := by
                rw [rk_lt _ (hlab _ (List.mem_of_getElem? hi)) _ (hlab _ (List.mem_of_getElem? hj))]
                exact (Option.some.inj hc).symm
              show wpAny (model prog w) _ (keyLt' _ (vs.getD i Value.none) (vs.getD j Value.none)) C _ _
              rw [List.getD_eq_getElem?_getD, List.getD_eq_getElem?_getD, xi, xj]
              refine kat_lt yi rfl yj rfl (kat_cons (wpAny_eqBool_str ?_))
              have hd : decide (pi.1 = pj.1) = false := decide_eq_false hne
              rw [hd]
              have hb2 : (Value.type "str" != Value.type "tuple" && (0 : Nat) == 0) = true := by rfl
              refine kat_no ?_
              rw [hb2]
              refine oneLt_str ?_
              rw [← hb]
              exact hC
      · refine KasFin.intro F' N' (.head fun p hp => Nat.ne_of_lt (hD p hp)) fun h'' c F'' N'' => ?_
        refine h D h'' s.toks c _ (p.toList.map fun i => S.getD i (Str.ofString "", 0)) F'' N'' (fun q hq => Nat.ne_of_lt (hD q hq)) ⟨by simp, fun i l t e => ?_⟩ ?_ ?_
        · rw [List.getElem?_map] at e ⊢
          cases hi : p.toList[i]? with
          | none => rw [hi] at e; cases e
          | some k =>
            rw [hi] at e
            have hk : k < vs.length := by simpa using hperm.mem_iff.mp (List.mem_of_getElem? hi)
            have hk' : k < S.length := by omega
            have e' : S[k]? = some (l, t) := by
              rw [List.getElem?_eq_getElem hk']
              simpa [hk'] using e
            obtain ⟨a, n, tl, ti, x, y⟩ := R.at' k l t e'
            exact ⟨a, n, tl, ti, by simp [x], y⟩
        · have q := hperm.map fun i => S.getD i (Str.ofString "", 0)
          refine q.trans (List.Perm.of_eq ?_)
          rw [hlen]
          apply List.ext_getElem?
          intro i
          by_cases hi : i < S.length
          · simp [hi]
          · simp [hi]
        · rw [List.map_map]
          have : (p.toList.map ((fun p => rk p.1) ∘ fun i => S.getD i (Str.ofString "", 0))) = p.toList.map fun i => (S.map fun p => rk p.1).getD i 0 := by
            apply List.map_congr_left
            intro k hk
            have hk : k < vs.length := by simpa using hperm.mem_iff.mp hk
            have hk' : k < S.length := by omega
            simp [hk']
          rw [this]
          exact hpw
end
theorem ints_at : ∀ {vs : List Value} {ns : List Int}, IntsAre vs ns → ∀ i, i < vs.length → ∃ z t, vs[i]? = some (.int z t)
  | _, _, .nil, i, h => absurd h (Nat.not_lt_zero _)
  | _, _, .cons n t r, 0, _ => ⟨n, t, rfl⟩
  | _, _, .cons n t r, i + 1, h => by
    have := ints_at r i (by simpa using h)
    simpa using this
theorem st_item1 {prog : Program} {w : World} {A : Around} {E : Value → Shared → Prop} {s : Shared} {h₀ : Heap} {L : Addr} {m : Str → Option Value} {news : List (Addr × Obj)} {l : Addr} {x y : Value} {n : Nat} {t : Tok} {v : Value} {Q : Unit → Shared → Prop} (F : Fr h₀ L s.heap m) (N : News h₀ L s.heap news) (hm : (l, listOf [x, y].toArray n) ∈ news)
    (h : ∀ h' news', Fr h₀ L h' m → News h₀ L h' news' → Chg l (listOf [x, v].toArray n) news news' → Q () { s with heap := h' }) :
    wpAny (model prog w) A (setItem (.ref l) (.int 1 t) v) Q E s := st_item F N hm (by decide) (by simp) (by decide) h
local macro_rules | `(tactic| walk_at "subscriptTail") => `(tactic| (k_here; (with_reducible show wpAny _ _ (subscriptTail _ _ (Value.ref _) (Value.int _ _)) _ _ _); k_dflt (refine ls_item (by k_asm) (by k_mem) (by first | assumption | exact ⟨0, rfl, rfl, by decide⟩ | exact ⟨1, rfl, rfl, by decide⟩) ?_)))
local macro_rules | `(tactic| walk_at "setItem ref int") => `(tactic| (k_here; k_dflt (refine st_item1 (by k_asm) (by k_asm) (by k_mem) ?_); intro h' nx' F' N' C'; have C1' := C'.here; have C2' := C'.keep _ (by assumption) (by assumption)))
set_option maxRecDepth 100000 in
set_option maxHeartbeats 8000000 in
theorem take_ct (w : World) {ca sl : Addr} {vs : List Value} {ns : List Int} {n1 n2 i : Nat} {k : Int} {ti tk : Tok} {news : List (Addr × Obj)}
    (hi : IntsAre vs ns) (hk : 1 ≤ k) (hlen : vs.length ≤ 1000) (hi9 : i ≤ 1000) (hne : sl ≠ ca)
    (hc : (ca, listOf [.ref sl, .int i ti].toArray n1) ∈ news) (hs : (sl, listOf vs.toArray n2) ∈ news) :
    Ct w (.ref 120) [.ref ca, .int k tk] 1 16 news
      (fun r news' => ∃ v t u, r = .int (v : Nat) t ∧ (v : Int) < k ∧ Chg ca (listOf [.ref sl, .int (i + 1 : Nat) u].toArray n1) news news') := by
  unfold Ct
  intro mean mg mb dp un gd cn cs a ccd cl outer A₀ base h₀ L m s Q E B F X N T hck hd hu hret
  have fin : ∀ z : Int, ∃ v : Nat, z.fmod k = (v : Int) ∧ (v : Int) < k := fun z => by
    have h1 := Int.fmod_nonneg_of_pos z (by omega : 0 < k)
    have h2 := Int.fmod_lt_of_pos z (by omega : 0 < k)
    exact ⟨(z.fmod k).toNat, by omega, by omega⟩
  by_cases hil : i < vs.length
  · obtain ⟨z, tz, hz⟩ := ints_at hi i hil
    have hI : LIt vs (i : Int) (.int z tz) := ⟨i, rfl, hz, by omega⟩
    refine wpAny_call ?_
    k_dflt ktr_enter
    k_steps
    obtain ⟨v, hv, hv2⟩ := fin z
    exact hret _ _ _ _ (by assumption) (by assumption) ⟨v, _, _, by rw [hv], hv2, by assumption⟩
  · refine wpAny_call ?_
    k_dflt ktr_enter
    k_steps
    exact hret _ _ _ _ (by assumption) (by assumption) ⟨0, _, _, rfl, by omega, by assumption⟩
theorem head_of {h₀ h : Heap} {L a : Addr} {o : Obj} {l : List (Addr × Obj)} (_N : News h₀ L h ((a, o) :: l)) : ∃ K, (a, o) :: l = K ∧ (a, o) ∈ K ∧ ∀ p ∈ l, p ∈ K := ⟨_, rfl, .head _, fun _ h => .tail _ h⟩
theorem cend_push {h₀ : Heap} {L D : Addr} {o : Obj} {m : Str → Option Value} {J : List (Addr × Obj) → Prop} {own nx : List (Addr × Obj)} {s₁ : Shared} {h' : Heap} {tk : Nat} (F : Fr h₀ L h' m) (N : News h₀ L h' ((D, o) :: (nx ++ own)))
    (hl : ∀ p ∈ nx ++ own, p.1 < D) (hoff : OwnOff own (nx.map (·.1))) (hj : J ((D, o) :: nx)) : CEnd h₀ L m J own s₁ { s₁ with heap := h', toks := tk } := by
  refine CEnd.intro ((D, o) :: nx) F N (fun p hp => ?_) (fun p hp => .tail _ (List.mem_append_right _ hp)) (fun p hp b hb => ?_) hj
  · rcases List.mem_cons.mp hp with rfl | hp
    · exact .head _
    · exact .tail _ (List.mem_append_left _ hp)
  · rcases List.mem_cons.mp hb with rfl | hb
    · exact Nat.ne_of_lt (hl p (List.mem_append_right _ hp))
    · exact hoff p hp b hb
/-- a look of the ledger -/
def LookAt (news : List (Addr × Obj)) (v : Value) (fin : Bool) (S : List (Str × Nat)) : Prop :=
  ∃ T n D n' vs, v = Value.ref T ∧ (T, tupN [Value.bool fin, Value.ref D] n) ∈ news ∧ (D, listOf (List.toArray vs) n') ∈ news ∧ RowAt news vs S
theorem LookAt.mono {l l' : List (Addr × Obj)} {v : Value} {fin : Bool} {S : List (Str × Nat)} (h : LookAt l v fin S) (hs : ∀ p ∈ l, p ∈ l') : LookAt l' v fin S := by
  obtain ⟨T, n, D, n', vs, a, b, c, d⟩ := h
  exact ⟨T, n, D, n', vs, a, hs _ b, hs _ c, d.mono hs⟩
structure LookOf (T : Tab) (R : Nat → Nat) (k : Nat) (S : List (Str × Nat)) : Prop where
  perm : S.Perm ((T.arcs k).map fun p => (p.1, R p.2))
  ord : (S.map fun p => rk p.1).Pairwise (· < ·)
local macro_rules | `(tactic| walk_at "eval ListComp") => `(tactic| (refine PStop.out ?_))
local macro_rules | `(tactic| walk_at "CompAt") => `(tactic| (refine PStop.out ?_))
local macro_rules | `(tactic| walk_at "CEnd") => `(tactic| (refine PStop.out ?_))
local macro_rules | `(tactic| walk_at "pyIter ref") => `(tactic| ((with_reducible show wpAny _ _ (pyIter (Value.ref _)) (fun it s₂ => CompAt _ _ _ _ _ _ _ _ _ _ _ _ it s₂) _ _); refine PStop.out ?_))
local macro_rules | `(tactic| walk_at "eval Name") => `(tactic| ((with_reducible show wpAny _ _ (eval (Expr.Name _ _) (compEnvC _ _ _ _)) _ _ _); first | (refine blk_local (by assumption) (by assumption) ?_ rfl rfl) | (refine blk_cell (by assumption) rfl (by assumption) rfl ?_ rfl rfl)))
local macro_rules | `(tactic| walk_at "call builtin:sorted") => `(tactic| (refine PStop.out ?_))
set_option maxRecDepth 100000 in
set_option maxHeartbeats 600000 in
theorem look_ct (w : World) {T : Tab} {TL fL : Addr} {fs : List Value} {nf k : Nat} {tk : Tok} {R : Nat → Nat} {news : List (Addr × Obj)} (O : T.Ok) (hk : k < T.n) (hlab : ∀ k, k < T.n → ∀ p ∈ T.arcs k, p.1 ∈ LBS)
    (TI : TabIn T TL news) (hf : (fL, listOf fs.toArray nf) ∈ news) (NA : NumsAt fs T.n R) :
    Ct w (.ref 125) [.ref TL, .ref fL, .int (k : Nat) tk] 2 24 news
      (fun r news' => (∀ p ∈ news, p ∈ news') ∧ ∃ S, LookOf T R k S ∧ LookAt news' r (T.fin k) S) := by
  unfold Ct
  intro mean mg mb dp un gd cn cs a ccd cl outer A₀ base h₀ L m s Q E B F X N T0 hck hd hu hret
  obtain ⟨tvs, tn, hTL, htl, hrow⟩ := TI.list
  obtain ⟨tr, trm, ra, ran, rs, hv, htr, hra, RR⟩ := hrow k hk
  have O7 := O.small
  have hIt : LIt tvs (k : Int) (.ref tr) := ⟨k, rfl, hv, by omega⟩
  refine wpAny_call ?_
  k_dflt (refine' code_defC ?k1 ?k2 ?k3 ?k4 ?k5 ?kA ?kF ?kK ?k6 ?k7 ?k8 ?k9 ?kB ?kD ?_ ?c2 ?c3 ?c4; (case kA => exact rfl); (case kF => exact rfl); (case kK => assumption); (case k1 => k_asm); (case k2 => k_asm); (case k3 => k_asm); (case k4 => k_asm); (case k5 => k_asm); (case k6 => k_is); (case k7 => k_is); (case k8 => ktr_room); (case k9 => exact BindsTo.of_eq rfl); (case kB => exact rfl); (case kD => decide +kernel); (case c2 => exact rfl); (case c3 => exact rfl); (case c4 => exact rfl); k_whole; intro g' L' h' tk' cells' FG' F' N' Y' B' X' T' l1; k_cells Y'; (try simp only [List.cons_append, List.nil_append] at N'); (try dsimp only); (try k_fold))
  k_steps
  unfold PStop
  rename Fr _ _ _ _ => FF
  rename News _ _ _ _ => NN
  refine' listcomp_eval FF ?k1 ?k2 ?k3 ?k4 ?_ ?k6
  case k1 => with_unfolding_all rfl
  case k2 => decide
  case k3 => rfl
  case k4 => decide
  case k6 => intro _; rfl
  k_steps
  unfold PStop
  obtain ⟨K, hK, hcell0, hKs⟩ := head_of NN
  rw [hK] at NN
  have R1 := RR.mono hKs
  refine comp_list K (hKs _ hra) rfl FF NN (by rw [RR.len]; have := O.len k hk; omega)
    (fun i v mC => ∃ l t tl ti, (T.arcs k)[i]? = some (l, t) ∧ mC (Str.ofString "label") = some (.str l tl) ∧ mC (Str.ofString "to") = some (.int (t : Nat) ti)) ?_
    (fun i ys nx => (∀ p ∈ K, p ∈ nx) ∧ RowAt nx ys (((T.arcs k).take i).map fun p => (p.1, R p.2))) (fun i ys nx h => h.1) ⟨fun p hp => hp, RowAt.nil⟩ ?_ ?_
  · intro i v C mC s Q E hv hkeep hn hret
    have hi : i < (T.arcs k).length := by rw [← RR.len]; exact (List.getElem?_eq_some_iff.mp hv).1
    obtain ⟨a, n, tl, ti, hv', hm⟩ := R1.at' i _ _ (List.getElem?_eq_getElem hi)
    rw [hv] at hv'
    obtain rfl := Option.some.inj hv'
    refine asg_pair rfl rfl rfl rfl (by decide) ⟨_, hkeep _ hm, rfl, n, rfl⟩ hn hn.lt fun h' mC' tk' a b c => hret h' mC' tk' a ⟨_, _, tl, ti, List.getElem?_eq_getElem hi, b.1, b.2⟩ c
  · rintro i v ys nx C mC h tk own E' hv hys ⟨hsub, RY⟩ ⟨l, t, tl, ti, hat, hl, ht⟩ hns hoff hC F₁ N₁
    have hsub2 : ∀ p ∈ K, p ∈ nx ++ own := fun p hp => List.mem_append_left _ (hsub p hp)
    have hcell := hsub2 _ hcell0
    have hf2 := hsub2 _ (hKs _ hf)
    obtain ⟨tf, hfi⟩ := NA.lit (O.lt k hk _ (List.mem_of_getElem? hat)) (by omega)
    refine wpAny_pure ?_
    rw [if_pos rfl]
    k_steps
    rename ∀ (p : Addr × Obj), p ∈ nx ++ own → p.1 < _ => l9
    rename News _ _ _ _ => N9
    unfold PStop
    refine cend_push (by assumption) N9 l9 hoff ⟨fun p hp => .tail _ (hsub p hp), ?_⟩
    rw [List.take_add_one, hat]
    simp only [Option.toList_some, List.map_append, List.map_cons, List.map_nil]
    exact (RY.mono fun p hp => .tail _ hp).snoc (.head _)
  · rintro s₂ D ys nx' h' tk ⟨_, _, rfl⟩ F₁ N₁ hoff hys ⟨hsub, RY⟩
    rw [RR.len, List.take_length] at RY
    k_steps
    unfold PStop
    refine sort_row F₁ N₁ (.head _) (RY.mono fun p hp => .tail _ hp) (by rw [List.length_map]; exact O.len k hk) (fun p hp => ?_) (by rw [List.map_map]; exact O.nd k hk) ?_
    · obtain ⟨q, hq, rfl⟩ := List.mem_map.mp hp
      exact hlab k hk q hq
    rintro D2 h2 tk2 n2 vs2 S2 F2 N2 hD2 R2 hperm hord
    clear F₁ N₁
    k_steps
    rename News _ _ _ _ => N9
    refine hret _ _ _ _ (by assumption) N9 ⟨fun p hp => ?_, S2, ⟨hperm, hord⟩, _, _, _, _, _, rfl, .head _, .tail _ (.head _), R2.mono fun p hp => .tail _ (.tail _ hp)⟩
    exact .tail _ (.tail _ (.tail _ (hsub _ (hKs _ hp))))
theorem sorted_ext {α : Type} {f : α → Nat} : ∀ {l l' : List α}, (l.map f).Pairwise (· < ·) → (l'.map f).Pairwise (· < ·) → (∀ x, x ∈ l ↔ x ∈ l') → l = l'
  | [], [], _, _, _ => rfl
  | [], b :: r, _, _, h => absurd ((h b).mpr (.head _)) (List.not_mem_nil)
  | a :: r, [], _, _, h => absurd ((h a).mp (.head _)) (List.not_mem_nil)
  | a :: r, b :: r', p, q, h => by
    rw [List.map_cons, List.pairwise_cons] at p q
    have ra : ∀ x ∈ r, f a < f x := fun x hx => p.1 _ (List.mem_map.mpr ⟨x, hx, rfl⟩)
    have rb : ∀ x ∈ r', f b < f x := fun x hx => q.1 _ (List.mem_map.mpr ⟨x, hx, rfl⟩)
    have e : a = b := by
      rcases List.mem_cons.mp ((h a).mp (.head _)) with e | h1
      · exact e
      · rcases List.mem_cons.mp ((h b).mpr (.head _)) with e | h2
        · exact e.symm
        · have := rb a h1
          have := ra b h2
          omega
    subst e
    have t : r = r' := sorted_ext p.2 q.2 fun x => by
      constructor
      · intro hx
        rcases List.mem_cons.mp ((h x).mp (.tail _ hx)) with e | h1
        · subst e; have := ra x hx; omega
        · exact h1
      · intro hx
        rcases List.mem_cons.mp ((h x).mpr (.tail _ hx)) with e | h1
        · subst e; have := rb x hx; omega
        · exact h1
    rw [t]
theorem alk_mem_iff {l : List (Str × Nat)} (hn : (l.map (·.1)).Nodup) {s : Str} {t : Nat} : (s, t) ∈ l ↔ alk l s = some t := ⟨alk_of hn, alk_mem⟩
theorem alk_perm {l l' : List (Str × Nat)} (h : l.Perm l') (hn : (l'.map (·.1)).Nodup) (s : Str) : alk l s = alk l' s := by
  have hn' : (l.map (·.1)).Nodup := (h.map _).nodup_iff.mpr hn
  apply Option.ext
  intro t
  rw [← alk_mem_iff hn, ← alk_mem_iff hn']
  exact h.mem_iff
theorem look_iff {T : Tab} (O : T.Ok) {R : Nat → Nat} {k l : Nat} (hk : k < T.n) (hl : l < T.n) {S S' : List (Str × Nat)} (a : LookOf T R k S) (b : LookOf T R l S') : (T.fin k = T.fin l ∧ S = S') ↔ Alike T R k l := by
  have nd : ∀ j, j < T.n → (((T.arcs j).map fun p => (p.1, R p.2)).map (·.1)).Nodup := fun j hj => by rw [List.map_map]; exact O.nd j hj
  have ea : ∀ s, alk S s = (alk (T.arcs k) s).map R := fun s => by rw [alk_perm a.perm (nd k hk), alk_map]
  have eb : ∀ s, alk S' s = (alk (T.arcs l) s).map R := fun s => by rw [alk_perm b.perm (nd l hl), alk_map]
  have na : (S.map (·.1)).Nodup := (a.perm.map _).nodup_iff.mpr (nd k hk)
  have nb : (S'.map (·.1)).Nodup := (b.perm.map _).nodup_iff.mpr (nd l hl)
  constructor
  · rintro ⟨hf, rfl⟩
    exact ⟨hf, fun s => by rw [← ea, ← eb]⟩
  · rintro ⟨hf, h⟩
    refine ⟨hf, sorted_ext (f := fun p => rk p.1) a.ord b.ord fun x => ?_⟩
    obtain ⟨s, t⟩ := x
    rw [alk_mem_iff na, alk_mem_iff nb, ea, eb, h s]

/-- what a look is, as data -/
def rowD (S : List (Str × Nat)) : List PyData := S.map fun p => .tuple [.str p.1, .int p.2]
theorem rowD_eqv : ∀ (S S' : List (Str × Nat)), PyData.eqvAll (rowD S) (rowD S') = decide (S = S')
  | [], [] => rfl
  | [], _ :: _ => rfl
  | _ :: _, [] => rfl
  | p :: S, q :: S' => by
    show (PyData.eqv (.tuple [.str p.1, .int p.2]) (.tuple [.str q.1, .int q.2]) && PyData.eqvAll (rowD S) (rowD S')) = _
    rw [rowD_eqv S S']
    simp only [PyData.eqv, PyData.eqvAll, Bool.and_true]
    obtain ⟨a, b⟩ := p
    obtain ⟨c, d⟩ := q
    by_cases h1 : a = c
    · by_cases h2 : b = d
      · by_cases h3 : S = S'
        · subst h1 h2 h3; simp
        · simp [h1, h2, h3]
      · have : ¬ (b : Int) = (d : Int) := by omega
        simp [h2, this]
    · simp [h1]
theorem lab_ok : ∀ a ∈ LBS, PyData.strOk a = true := by decide +kernel
theorem rowD_lay : ∀ {S : List (Str × Nat)}, (∀ p ∈ S, p.1 ∈ LBS) → PyData.canLayAll0 (rowD S) = true ∧ PyData.depthAll (rowD S) ≤ 3
  | [], _ => ⟨rfl, by simp [rowD, PyData.depthAll]⟩
  | p :: S, h => by
    obtain ⟨a, b⟩ := rowD_lay (S := S) fun q hq => h q (.tail _ hq)
    have c := lab_ok _ (h p (.head _))
    show PyData.canLayAll0 (.tuple [.str p.1, .int p.2] :: rowD S) = true ∧ PyData.depthAll (.tuple [.str p.1, .int p.2] :: rowD S) ≤ 3
    simp [PyData.canLayAll0, PyData.canLay0, PyData.depthAll, PyData.depth, a, c]
    omega
theorem row_reads {h : Heap} {news : List (Addr × Obj)} (hn : ∀ p ∈ news, h.get? p.1 = some p.2) : ∀ {vs : List Value} {S : List (Str × Nat)}, RowAt news vs S → ∃ as, ReadsAll h vs (rowD S) as
  | [], [], _ => ⟨_, ReadsAll.nil⟩
  | [], _ :: _, R => absurd R.len (by simp)
  | _ :: _, [], R => absurd R.len (by simp)
  | v :: vs, p :: S, R => by
    obtain ⟨a, n, tl, ti, hv, hm⟩ := R.at' 0 p.1 p.2 rfl
    obtain rfl : v = .ref a := by simpa using hv
    obtain ⟨as, ih⟩ := row_reads hn (vs := vs) (S := S) ⟨by simpa using R.len, fun i l t e => by simpa using R.at' (i + 1) l t (by simpa using e)⟩
    exact ⟨_, ReadsAll.cons (reads_tuple_at (hn _ hm) rfl rfl (ReadsAll.cons (Reads.str _ _) (ReadsAll.cons (Reads.int _ _) ReadsAll.nil))) ih⟩
section
variable {prog : Program} {w : World} {A : Around} {E : Value → Shared → Prop} {s : Shared} {h₀ : Heap} {L : Addr} {m : Str → Option Value} {news : List (Addr × Obj)}
theorem look_eq {a b : Value} {f g : Bool} {S S' : List (Str × Nat)} {Q : Value → Shared → Prop} (N : News h₀ L s.heap news) (x : LookAt news a f S) (y : LookAt news b g S') (hS : ∀ p ∈ S, p.1 ∈ LBS) (hS' : ∀ p ∈ S', p.1 ∈ LBS)
    (hu : A.units + 64 < cLine) (h : Q (.bool (decide (f = g ∧ S = S'))) s) : wpAny (model prog w) A (compareOp .Eq a b) Q E s := by
  obtain ⟨T, n, D, n', vs, rfl, t1, d1, r1⟩ := x
  obtain ⟨T', k, D', k', vs', rfl, t2, d2, r2⟩ := y
  obtain ⟨as, q1⟩ := row_reads (fun p hp => (N p hp).1) r1
  obtain ⟨bs, q2⟩ := row_reads (fun p hp => (N p hp).1) r2
  have l1 := rowD_lay hS
  have l2 := rowD_lay hS'
  have sh : ∀ (f : Bool) (S : List (Str × Nat)), PyData.canLayAll0 (rowD S) = true → PyData.depthAll (rowD S) ≤ 3 → SeqAt.shaped (.tuple [.bool f, .list (rowD S)]) = true := fun f S a b => by
    simp only [SeqAt.shaped, PyData.canLay0, PyData.canLayAll0, PyData.depth, PyData.depthAll, a, Bool.and_true, Bool.true_and]
    have : max 0 (max (PyData.depthAll (rowD S) + 1) 0) + 1 ≤ 64 := by omega
    simp
    omega
  refine eq_dataH (reads_tuple_at (N _ t1).1 rfl rfl (ReadsAll.cons (Reads.bool f) (ReadsAll.cons (reads_list_at (N _ d1).1 rfl rfl q1) ReadsAll.nil)))
    (reads_tuple_at (N _ t2).1 rfl rfl (ReadsAll.cons (Reads.bool g) (ReadsAll.cons (reads_list_at (N _ d2).1 rfl rfl q2) ReadsAll.nil))) (sh _ _ l1.1 l1.2) (sh _ _ l2.1 l2.2) hu ?_
  have e : PyData.eqv (.tuple [.bool f, .list (rowD S)]) (.tuple [.bool g, .list (rowD S')]) = decide (f = g ∧ S = S') := by
    simp only [PyData.eqv, PyData.eqvAll, Bool.and_true, rowD_eqv]
    by_cases h1 : f = g
    · simp [h1]
    · simp [h1]
  rw [e]
  exact h
theorem st_cell {env : Env} {x : Str} {v : Value} {c : Addr} {o : Obj} {v₀ : Option Value} {Q : Unit → Shared → Prop} (F : Fr h₀ L s.heap m) (N : News h₀ L s.heap news) (hc : env.cells.lookup x = some c) (hm : (c, o) ∈ news) (hd : o.data = .cell v₀)
    (h : ∀ h' news' o', Fr h₀ L h' m → News h₀ L h' news' → Chg c o' news news' → o'.data = .cell (some v) → Q () { s with heap := h' })
    (hk : env.scope.kind = .function := by rfl) (hx : env.kindOf x = some .cell := by rfl) : wpAny (model prog w) A (storeName env x v) Q E s := by
  have z := N _ hm
  refine wpAny_storeName_cell hk hx hc ⟨o, z.1, hd⟩ fun h' hv hs => ?_
  obtain ⟨o', ho', hd'⟩ := hv
  obtain ⟨news', N', C⟩ := chg_of N hm hs ho'
  exact h h' news' o' (F.change hs z.2.1 z.2.2) N' C hd'
theorem two_perm {a b : Nat} {l : List Int} (p : l.Perm [(a : Int), (b : Int)]) (o : l.Pairwise (· ≤ ·)) : ∃ x y, l = [x, y] ∧ x = ((min a b : Nat) : Int) ∧ y = ((max a b : Nat) : Int) := by
  have h2 := p.length_eq
  obtain ⟨x, r, rfl⟩ : ∃ x r, l = x :: r := by
    cases l with
    | nil => cases h2
    | cons x r => exact ⟨x, r, rfl⟩
  obtain ⟨y, r, rfl⟩ : ∃ y q, r = y :: q := by
    cases r with
    | nil => cases h2
    | cons x r => exact ⟨x, r, rfl⟩
  cases r with
  | cons z r => simp at h2
  | nil =>
    refine ⟨x, y, rfl, ?_⟩
    have hxy : x ≤ y := (List.pairwise_cons.mp o).1 y (.head _)
    have hx : x = a ∨ x = b := by simpa using p.mem_iff.mp (.head _ : x ∈ [x, y])
    rcases hx with rfl | rfl
    · have q : [y].Perm [(b : Int)] := List.Perm.cons_inv p
      obtain rfl : y = b := by simpa using q.mem_iff.mp (.head _ : y ∈ [y])
      have : a ≤ b := Int.ofNat_le.mp hxy
      rw [Nat.min_eq_left this, Nat.max_eq_right this]
      exact ⟨rfl, rfl⟩
    · have q : [y].Perm [(a : Int)] := List.Perm.cons_inv (p.trans (List.Perm.swap (b : Int) (a : Int) []))
      obtain rfl : y = a := by simpa using q.mem_iff.mp (.head _ : y ∈ [y])
      have : b ≤ a := Int.ofNat_le.mp hxy
      rw [Nat.min_eq_right this, Nat.max_eq_left this]
      exact ⟨rfl, rfl⟩
/-- sorted of two numbers -/
theorem sort_two {l : Addr} {n : Nat} {a b : Nat} {ta tb : Tok} {Q : Value → Shared → Prop} (F : Fr h₀ L s.heap m) (N : News h₀ L s.heap news) (hl : (l, listOf [Value.int (a : Nat) ta, Value.int (b : Nat) tb].toArray n) ∈ news)
    (h : ∀ D h' tk e t1 t2, Fr h₀ L h' m → News h₀ L h' ((D, listOf [Value.int (min a b : Nat) t1, Value.int (max a b : Nat) t2].toArray e) :: news) → (∀ q ∈ news, q.1 ≠ D) → Q (.ref D) { s with heap := h', toks := tk }) :
    wpAny (model prog w) A (call (.builtin "sorted") [.ref l]) Q E s := by
  have hL : s.heap.IsList l [Value.int (a : Nat) ta, Value.int (b : Nat) tb].toArray := ⟨_, (N _ hl).1, rfl, n, rfl⟩
  refine sorted_N (ns := [(a : Int), (b : Int)]) F N hL (.cons _ _ (.cons _ _ .nil)) (by simp) fun h' vs' ns' e F' N' hi hp ho => ?_
  obtain ⟨x, y, rfl, e1, e2⟩ := two_perm hp ho
  cases hi with
  | cons _ t1 r => cases r with
    | cons _ t2 r => cases r with
      | nil =>
        subst e1 e2
        exact h _ h' s.toks e t1 t2 F' N' fun q hq => Nat.ne_of_lt (Nat.lt_succ_of_lt (Heap.lt_size (N q hq).1))
end
theorem two_of {h₀ h : Heap} {L : Addr} {p q : Addr × Obj} {l : List (Addr × Obj)} (_N : News h₀ L h (p :: q :: l)) : ∃ K, p :: q :: l = K ∧ p ∈ K ∧ q ∈ K ∧ ∀ r ∈ l, r ∈ K := ⟨_, rfl, .head _, .tail _ (.head _), fun _ h => .tail _ (.tail _ h)⟩
theorem NumsAt.nil {R : Nat → Nat} : NumsAt [] 0 R := ⟨rfl, fun k h => absurd h (Nat.not_lt_zero _)⟩
theorem NumsAt.snoc {vs : List Value} {n : Nat} {R : Nat → Nat} {t : Tok} (h : NumsAt vs n R) : NumsAt (vs ++ [.int (R n : Nat) t]) (n + 1) R := by
  refine ⟨by simp [h.len], fun k hk => ?_⟩
  by_cases e : k < n
  · obtain ⟨t', ht⟩ := h.at' k e
    exact ⟨t', by rw [List.getElem?_append_left (by rw [h.len]; exact e)]; exact ht⟩
  · have : k = n := by omega
    subst this
    exact ⟨t, by rw [← h.len]; simp [h.len]⟩
theorem data_ne {h₀ h : Heap} {L a b : Addr} {o : Obj} {vs : List Value} {n : Nat} {v : Option Value} {l : List (Addr × Obj)} (N : News h₀ L h l) (ha : (a, listOf vs.toArray n) ∈ l) (hb : (b, o) ∈ l) (hc : o.data = .cell v) : a ≠ b := by
  rintro rfl
  have e : listOf vs.toArray n = o := Option.some.inj ((N _ ha).1.symm.trans (N _ hb).1)
  rw [← e] at hc
  cases hc
structure ClsSt (T : Tab) (c1 c2 : Addr) (base : List (Addr × Obj)) (R : Nat → Nat) (fL : Addr) (nx : List (Addr × Obj)) : Prop where
  reps : Reps T R
  keep : ∀ p ∈ base, p ∈ nx
  off : ∀ p ∈ base, p.1 ≠ fL ∧ p.1 ≠ c1 ∧ p.1 ≠ c2
  list : ∃ fs ep, (fL, listOf (List.toArray fs) ep) ∈ nx ∧ NumsAt fs T.n R
  cell1 : ∃ o v, (c1, o) ∈ nx ∧ o.data = Data.cell v
  cell2 : ∃ o v, (c2, o) ∈ nx ∧ o.data = Data.cell v
theorem ClsSt.mono {T : Tab} {c1 c2 fL : Addr} {base nx nx' : List (Addr × Obj)} {R : Nat → Nat} (S : ClsSt T c1 c2 base R fL nx) (h : ∀ p ∈ nx, p ∈ nx') : ClsSt T c1 c2 base R fL nx' := by
  obtain ⟨fs, ep, a, b⟩ := S.list
  obtain ⟨o1, v1, c, d⟩ := S.cell1
  obtain ⟨o2, v2, e, f⟩ := S.cell2
  exact ⟨S.reps, fun p hp => h p (S.keep p hp), S.off, ⟨fs, ep, h _ a, b⟩, ⟨o1, v1, h _ c, d⟩, ⟨o2, v2, h _ e, f⟩⟩
theorem ClsSt.more {T : Tab} {c1 c2 fL : Addr} {base nx own : List (Addr × Obj)} {R : Nat → Nat} (S : ClsSt T c1 c2 base R fL nx) (h : OwnOff own (nx.map (·.1))) : ClsSt T c1 c2 (own ++ base) R fL (nx ++ own) := by
  obtain ⟨fs, ep, a, b⟩ := S.list
  obtain ⟨o1, v1, c, d⟩ := S.cell1
  obtain ⟨o2, v2, e, f⟩ := S.cell2
  refine ⟨S.reps, fun p hp => ?_, fun p hp => ?_, ⟨fs, ep, List.mem_append_left _ a, b⟩, ⟨o1, v1, List.mem_append_left _ c, d⟩, ⟨o2, v2, List.mem_append_left _ e, f⟩⟩
  · rcases List.mem_append.mp hp with hp | hp
    · exact List.mem_append_right _ hp
    · exact List.mem_append_left _ (S.keep p hp)
  · rcases List.mem_append.mp hp with hp | hp
    · exact ⟨h p hp _ (List.mem_map.mpr ⟨_, a, rfl⟩), h p hp _ (List.mem_map.mpr ⟨_, c, rfl⟩), h p hp _ (List.mem_map.mpr ⟨_, e, rfl⟩)⟩
    · exact S.off p hp
theorem ClsSt.fin {T : Tab} {c1 c2 fL : Addr} {base nx own : List (Addr × Obj)} {R : Nat → Nat} (S : ClsSt T c1 c2 (own ++ base) R fL nx) (h : OwnOff own (base.map (·.1))) :
    ∃ nf, ClsSt T c1 c2 base R fL nf ∧ (∀ p ∈ nf, p ∈ nx) ∧ (∀ p ∈ own, p ∈ nx) ∧ OwnOff own (nf.map (·.1)) := by
  obtain ⟨fs, ep, a, b⟩ := S.list
  obtain ⟨o1, v1, c, d⟩ := S.cell1
  obtain ⟨o2, v2, e, f⟩ := S.cell2
  refine ⟨(fL, listOf (List.toArray fs) ep) :: (c1, o1) :: (c2, o2) :: base, ⟨S.reps, fun p hp => .tail _ (.tail _ (.tail _ hp)), fun p hp => S.off p (List.mem_append_right _ hp), ⟨fs, ep, .head _, b⟩, ⟨o1, v1, .tail _ (.head _), d⟩, ⟨o2, v2, .tail _ (.tail _ (.head _)), f⟩⟩, fun p hp => ?_, fun p hp => S.keep p (List.mem_append_left _ hp), fun p hp b hb => ?_⟩
  · rcases List.mem_cons.mp hp with rfl | hp
    · exact a
    · rcases List.mem_cons.mp hp with rfl | hp
      · exact c
      · rcases List.mem_cons.mp hp with rfl | hp
        · exact e
        · exact S.keep p (List.mem_append_right _ hp)
  · have z := S.off p (List.mem_append_left _ hp)
    rcases List.mem_cons.mp hb with rfl | hb
    · exact z.1
    · rcases List.mem_cons.mp hb with rfl | hb
      · exact z.2.1
      · rcases List.mem_cons.mp hb with rfl | hb
        · exact z.2.2
        · exact h p hp b hb
theorem ClsSt.chg1 {T : Tab} {c1 c2 fL : Addr} {base nx nx' : List (Addr × Obj)} {R : Nat → Nat} {o' : Obj} {v : Option Value} (S : ClsSt T c1 c2 base R fL nx) (N : fL ≠ c1 ∧ fL ≠ c2) (C : Chg c1 o' nx nx') (hd : o'.data = .cell v) (h12 : c1 ≠ c2) : ClsSt T c1 c2 base R fL nx' := by
  obtain ⟨fs, ep, a, b⟩ := S.list
  obtain ⟨o1, v1, c, d⟩ := S.cell1
  obtain ⟨o2, v2, e, f⟩ := S.cell2
  exact ⟨S.reps, fun p hp => C.keep p (S.keep p hp) (S.off p hp).2.1, S.off, ⟨fs, ep, C.keep _ a N.1, b⟩, ⟨o', v, C.here, hd⟩, ⟨o2, v2, C.keep _ e (Ne.symm h12), f⟩⟩
theorem ClsSt.chg2 {T : Tab} {c1 c2 fL : Addr} {base nx nx' : List (Addr × Obj)} {R : Nat → Nat} {o' : Obj} {v : Option Value} (S : ClsSt T c1 c2 base R fL nx) (N : fL ≠ c1 ∧ fL ≠ c2) (C : Chg c2 o' nx nx') (hd : o'.data = .cell v) (h12 : c1 ≠ c2) : ClsSt T c1 c2 base R fL nx' := by
  obtain ⟨fs, ep, a, b⟩ := S.list
  obtain ⟨o1, v1, c, d⟩ := S.cell1
  obtain ⟨o2, v2, e, f⟩ := S.cell2
  exact ⟨S.reps, fun p hp => C.keep p (S.keep p hp) (S.off p hp).2.2, S.off, ⟨fs, ep, C.keep _ a N.2, b⟩, ⟨o1, v1, C.keep _ c h12, d⟩, ⟨o', v, C.here, hd⟩⟩
theorem ClsSt.anew {T : Tab} {c1 c2 fL D : Addr} {base nx : List (Addr × Obj)} {R R' : Nat → Nat} {ys : List Value} {n : Nat} (S : ClsSt T c1 c2 base R fL nx) (hR : Reps T R') (hY : NumsAt ys T.n R') (hD : ∀ p ∈ nx, p.1 ≠ D) : ClsSt T c1 c2 base R' D ((D, listOf ys.toArray n) :: nx) := by
  have S' := S.mono (nx' := (D, listOf ys.toArray n) :: nx) fun p hp => .tail _ hp
  exact ⟨hR, S'.keep, fun p hp => ⟨hD p (S.keep p hp), (S.off p hp).2⟩, ⟨ys, n, .head _, hY⟩, S'.cell1, S'.cell2⟩
theorem ClsSt.numAt {T : Tab} {c1 c2 fL : Addr} {base nx : List (Addr × Obj)} {R : Nat → Nat} (S : ClsSt T c1 c2 base R fL nx) : ∃ fs ep, (fL, listOf (List.toArray fs) ep) ∈ nx ∧ NumsAt fs T.n R := S.list
theorem LookOf.lab {T : Tab} {R : Nat → Nat} {k : Nat} {S : List (Str × Nat)} (h : LookOf T R k S) (hl : ∀ p ∈ T.arcs k, p.1 ∈ LBS) : ∀ p ∈ S, p.1 ∈ LBS := fun p hp => by
  obtain ⟨q, hq, rfl⟩ := List.mem_map.mp (h.perm.mem_iff.mp hp)
  exact hl q hq
theorem ClsSt.mono1 {T : Tab} {c1 c2 fL L : Addr} {h₀ h : Heap} {base nx : List (Addr × Obj)} {a : Addr × Obj} {R : Nat → Nat} (S : ClsSt T c1 c2 base R fL nx) (_N : News h₀ L h (a :: nx)) : ClsSt T c1 c2 base R fL (a :: nx) := S.mono fun _ hp => .tail _ hp
theorem ClsSt.mono2 {T : Tab} {c1 c2 fL L : Addr} {h₀ h : Heap} {base nx : List (Addr × Obj)} {a b : Addr × Obj} {R : Nat → Nat} (S : ClsSt T c1 c2 base R fL nx) (_N : News h₀ L h (a :: b :: nx)) : ClsSt T c1 c2 base R fL (a :: b :: nx) := S.mono fun _ hp => .tail _ (.tail _ hp)
theorem ClsSt.ne {T : Tab} {c1 c2 fL L : Addr} {h₀ h : Heap} {base nx : List (Addr × Obj)} {R : Nat → Nat} (S : ClsSt T c1 c2 base R fL nx) (N : News h₀ L h nx) : fL ≠ c1 ∧ fL ≠ c2 := by
  obtain ⟨fs, ep, a, b⟩ := S.list
  obtain ⟨o1, v1, c, d⟩ := S.cell1
  obtain ⟨o2, v2, e, f⟩ := S.cell2
  exact ⟨data_ne N a c d, data_ne N a e f⟩
abbrev KW1 (T : Tab) (c1 c2 : Addr) (base : List (Addr × Obj)) (TL : Addr) : Nat → (Str → Option Value) → List (Addr × Obj) → Prop :=
  fun n m nx => ∃ (ag : Bool) (R : Nat → Nat) (fL : Addr), ClsSt T c1 c2 base R fL nx ∧ Bnd m [(Str.ofString "table", Value.ref TL), (Str.ofString "first", Value.ref fL), (Str.ofString "again", Value.bool ag)] ∧
      (ag = false → Closed T R) ∧ n = 2 * (alive T.n R).length + (if ag then 1 else 0)
abbrev KW2 (T : Tab) (c1 c2 : Addr) (base : List (Addr × Obj)) (TL : Addr) (R : Nat → Nat) : Nat → (Str → Option Value) → List (Addr × Obj) → Prop :=
  fun t m nx' => ∃ (ag : Bool) (R' : Nat → Nat) (fL' : Addr), ClsSt T c1 c2 base R' fL' nx' ∧ Bnd m [(Str.ofString "table", Value.ref TL), (Str.ofString "first", Value.ref fL'), (Str.ofString "again", Value.bool ag)] ∧
      (ag = false → R' = R ∧ ∀ x y, x < t → y < x → Alike T R x y → R x = R y) ∧ (ag = true → (alive T.n R').length < (alive T.n R).length)
abbrev KW3 (T : Tab) (c1 c2 : Addr) (base : List (Addr × Obj)) (TL : Addr) (R : Nat → Nat) (t : Nat) (tt : Tok) : Nat → (Str → Option Value) → List (Addr × Obj) → Prop :=
  fun u m nx' => ∃ (ag : Bool) (R' : Nat → Nat) (fL' : Addr), ClsSt T c1 c2 base R' fL' nx' ∧ Bnd m [(Str.ofString "table", Value.ref TL), (Str.ofString "first", Value.ref fL'), (Str.ofString "again", Value.bool ag), (Str.ofString "k", Value.int (t : Nat) tt)] ∧
        (ag = false → R' = R ∧ (∀ x y, x < t → y < x → Alike T R x y → R x = R y) ∧ ∀ y, y < u → Alike T R t y → R t = R y) ∧ (ag = true → (alive T.n R').length < (alive T.n R).length)
local macro_rules | `(tactic| walk_at "eval Name") => `(tactic| ((with_reducible show wpAny _ _ (eval (Expr.Name _ _) (compEnvC _ _ _ _)) _ _ _); first | (refine blk_local (by assumption) (by assumption) ?_ rfl rfl) | (refine blk_cell (by assumption) rfl (by assumption) (by assumption) ?_ rfl rfl)))
local macro_rules | `(tactic| walk_at "exec Assign cons ListComp") => `(tactic| ((with_reducible show wpAny _ _ (exec (Stmt.Assign [Expr.Name _ _] (Expr.ListComp _ _ _ _) _) _) _ _ _); refine PStop.out ?_))
local macro_rules | `(tactic| walk_at "compareOp Eq ref ref") => `(tactic| (refine PStop.out ?_))
local macro_rules | `(tactic| walk_at "storeName") => `(tactic| (k_here; k_dflt (refine st_cell (by k_asm) (by k_asm) rfl (by assumption) (by assumption) ?_ rfl rfl); intro h' nx' o' F' N' C' D'; refine PStop.out ?_))
local macro_rules | `(tactic| walk_at "call ref") => `(tactic| (k_here; k_dflt (refine' ct_over ?C ?k1 ?k2 ?k3 ?k4 ?k5 ?kK ?kd ?ku ?ks ?_; (case C => k_asm); (case k1 => k_asm); (case k2 => k_asm); (case k3 => k_asm); (case k4 => k_asm); (case k5 => k_asm); (case kK => first | exact rfl | assumption); (case kd => ktr_room); (case ku => ktr_units); (case ks => (intro p hp; repeat (first | exact hp | exact List.mem_append_left _ hp | refine List.Mem.tail _ ?_)))); (intro r9 nx9 h9 tk9 F9 N9 P9); refine PStop.out ?_))
set_option maxRecDepth 100000 in
set_option maxHeartbeats 600000 in
theorem classes_ct (w : World) {T : Tab} {TL : Addr} {news : List (Addr × Obj)} (O : T.Ok) (hlab : ∀ k, k < T.n → ∀ p ∈ T.arcs k, p.1 ∈ LBS) (TI : TabIn T TL news) :
    Ct w (.ref 130) [.ref TL] 4 200 news
      (fun r news' => (∀ p ∈ news, p ∈ news') ∧ ∃ R fL fs n, r = .ref fL ∧ (fL, listOf (List.toArray fs) n) ∈ news' ∧ NumsAt fs T.n R ∧ Reps T R ∧ Closed T R) := by
  unfold Ct
  intro mean mg mb dp un gd cn cs a ccd cl outer A₀ base h₀ L m s Q E B F X N T0 hck hd' hu hret
  obtain ⟨tvs, tn, hTL, htl, hrow⟩ := TI.list
  have O7 := O.small
  have hz : tvs.length ≤ 1000 := by omega
  refine wpAny_call ?_
  k_dflt (refine' code_defC ?k1 ?k2 ?k3 ?k4 ?k5 ?kA ?kF ?kK ?k6 ?k7 ?k8 ?k9 ?kB ?kD ?_ ?c2 ?c3 ?c4; (case kA => exact rfl); (case kF => exact rfl); (case kK => assumption); (case k1 => k_asm); (case k2 => k_asm); (case k3 => k_asm); (case k4 => k_asm); (case k5 => k_asm); (case k6 => k_is); (case k7 => k_is); (case k8 => ktr_room); (case k9 => exact BindsTo.of_eq rfl); (case kB => exact rfl); (case kD => decide +kernel); (case c2 => exact rfl); (case c3 => exact rfl); (case c4 => exact rfl); k_whole; intro g' L' h' tk' cells' FG' F' N' Y' B' X' T' l1; k_cells Y'; (try simp only [List.cons_append, List.nil_append] at N'); (try dsimp only); (try k_fold))
  k_steps
  unfold PStop
  rename Fr _ _ _ _ => FF
  rename News _ _ _ _ => NN
  refine' listcomp_assign FF ?k0 ?ka ?kb ?k1 ?k2 ?k3 ?k4 ?_ ?k6
  case k0 => with_unfolding_all rfl
  case ka => rfl
  case kb => rfl
  case k1 => with_unfolding_all rfl
  case k2 => decide
  case k3 => rfl
  case k4 => decide
  case k6 => intro _; rfl
  k_steps
  rename IsRange _ _ _ _ _ _ _ _ => RR
  rename Fr _ _ _ _ => F2
  rename News _ _ _ _ => N2
  obtain ⟨K, hK, hc1, hc2, hKs⟩ := two_of N2
  rw [hK] at N2
  unfold PStop
  refine comp_range (n := T.n) rfl rfl rfl RR (rng_small (by omega)) (by rw [rng_size, htl]) F2 N2 (by omega)
    (fun i ys nx => (∀ p ∈ K, p ∈ nx) ∧ NumsAt ys i (fun k => k)) ⟨fun p hp => hp, NumsAt.nil⟩ ?_ ?_
  · rintro i t ys nx C mC h tk own E' hi hys ⟨hsub, NY⟩ hk hns hoff hC F₁ N₁
    refine wpAny_pure ?_
    rw [if_pos rfl]
    k_steps
    unfold PStop
    rw [Int.zero_add]
    exact CEnd.intro nx F₁ N₁ (fun p hp => List.mem_append_left _ hp) (fun p hp => List.mem_append_right _ hp) hoff ⟨hsub, NY.snoc⟩
  · rintro s₂ D ys nx' h' tk ⟨_, _, rfl⟩ F₁ N₁ hoff hys ⟨hsub, NY⟩ h'' tk'' F₃ N₃
    clear F₁ N₁ F2 N2
    k_steps
    rename Fr _ _ _ _ => F5
    rename News _ _ _ _ => N5
    have h12 : L' + 1 + 1 ≠ L' + 1 := Nat.ne_of_gt (Nat.lt_succ_self _)
    have hTL' := hTL
    unfold PStop
    refine While_inv2 (KW1 T (L' + 1 + 1) (L' + 1) news TL) F5 N5
      ⟨true, fun k => k, D, ⟨reps_id T, fun p hp => .tail _ (hsub _ (hKs p hp)), fun p hp => ⟨hoff p (hsub _ (hKs p hp)), ?_, ?_⟩, ⟨ys, _, .head _, NY⟩, ⟨_, _, .tail _ (hsub _ hc1), by assumption⟩, ⟨_, _, .tail _ (hsub _ hc2), by assumption⟩⟩, .cons rfl (.cons rfl (.cons rfl .nil)), fun h => (nomatch h), rfl⟩ ?_ (by with_unfolding_all passes_own)
    · exact Nat.ne_of_lt (Nat.lt_succ_of_lt (Nat.lt_succ_of_lt (l1 p hp)))
    · exact Nat.ne_of_lt (Nat.lt_succ_of_lt (l1 p hp))
    clear F5 N5 F₃ N₃ hoff hsub NY hys
    rintro n m₁ nx h tk F₁ N₁ ⟨ag, R, fL, St, hm₁, hcl, rfl⟩
    replace F₁ := fr_lit F₁ hm₁
    dsimp only [kstB] at F₁
    have hTLx := St.keep _ hTL
    k_steps
    rotate_left
    · rename (ag = false) => hf
      obtain ⟨fs, ep, hfs, hNA⟩ := St.list
      exact hret _ _ _ _ (by assumption) (by assumption) ⟨St.keep, R, fL, fs, ep, rfl, hfs, hNA, St.reps, hcl hf⟩
    rename (ag = true) => hct
    subst hct
    rename IsRange _ _ _ _ _ _ _ _ => RR2
    rename Fr _ _ _ _ => F2
    rename News _ _ _ _ => N2
    unfold PStop
    refine range_turns (n := T.n) (KW2 T (L' + 1 + 1) (L' + 1) news TL R) rfl RR2 (rng_small (by omega)) (by rw [rng_size, htl]) F2 N2
      ⟨false, R, fL, St, .cons rfl (.cons rfl (.cons rfl .nil)), fun _ => ⟨rfl, fun x y hx => absurd hx (Nat.not_lt_zero _)⟩, fun h => (nomatch h)⟩ ?_ ?_
    · clear F2 N2 St hTLx
      rintro t tt m₁ nx' h tk own ht hoff ⟨ag, R', fL', St, hm₁, hag0, hag1⟩ F₁ N₁
      replace F₁ := fr_lit F₁ hm₁
      dsimp only [kstB] at F₁
      rw [Int.zero_add]
      have St1 := St.more hoff
      have hob : OwnOff own (news.map (·.1)) := fun p hp b hb => by
        obtain ⟨q, hq, rfl⟩ := List.mem_map.mp hb
        exact hoff p hp _ (List.mem_map.mpr ⟨q, St.keep q hq, rfl⟩)
      k_steps
      rename IsRange _ _ _ _ _ _ _ _ => RR3
      rename Fr _ _ _ _ => F2
      rename News _ _ _ _ => N2
      unfold PStop
      refine range_turns (n := t) (KW3 T (L' + 1 + 1) (L' + 1) (own ++ news) TL R t tt) rfl RR3 (rng_small (by omega)) (rng_size _) F2 N2
        ⟨ag, R', fL', St1, .cons rfl (.cons rfl (.cons rfl (.cons rfl .nil))), fun e => ⟨(hag0 e).1, (hag0 e).2, fun y hy => absurd hy (Nat.not_lt_zero _)⟩, hag1⟩ ?_ ?_
      · clear F2 N2
        try clear F₁
        try clear N₁
        clear St St1 hag0 hag1 hm₁
        rintro u tu m₁ nx' h tk own2 hu2 hoff2 ⟨ag, R', fL', St, hm₁, hag0, hag1⟩ F₁ N₁
        replace F₁ := fr_lit F₁ hm₁
        dsimp only [kstB] at F₁
        rw [Int.zero_add]
        have St1 := St.more hoff2
        have hob2 : OwnOff own2 ((own ++ news).map (·.1)) := fun p hp b hb => by
          obtain ⟨q, hq, rfl⟩ := List.mem_map.mp hb
          exact hoff2 p hp _ (List.mem_map.mpr ⟨q, St.keep q hq, rfl⟩)
        obtain ⟨fs, ep, hfs, hNA⟩ := St1.list
        have htu : u < T.n := Nat.lt_trans hu2 ht
        obtain ⟨tka, hIk⟩ := hNA.lit ht (by omega)
        obtain ⟨tkb, hIn⟩ := hNA.lit htu (by omega)
        have TI1 : TabIn T TL (nx' ++ own2) := TI.mono fun p hp => St1.keep p (List.mem_append_right _ (List.mem_append_right _ hp))
        have CE1 : CtOver w (.ref 125) [.ref TL, .ref fL', .int (t : Nat) tt] 2 24 (nx' ++ own2) (fun nx9 r news' => (∀ p ∈ nx9, p ∈ news') ∧ ∃ S, LookOf T R' t S ∧ LookAt news' r (T.fin t) S) := fun nx9 hs =>
          look_ct w O ht hlab (TI1.mono hs) (hs _ hfs) hNA
        have Rp := St1.reps
        k_steps
        rotate_left
        · rename ((_ : Int) = _) => he
          have he' : R' t = R' u := by omega
          obtain ⟨nf, Sf, hn, ho, hof⟩ := St1.fin hob2
          unfold PStop
          refine InvEndG.intro (by assumption) (by assumption) ⟨ag, R', fL', Sf, .cons rfl (.cons rfl (.cons rfl (.cons rfl .nil))), fun e => ⟨(hag0 e).1, (hag0 e).2.1, fun y hy al => ?_⟩, hag1⟩ hof hn ho
          by_cases hyu : y = u
          · rw [hyu, ← (hag0 e).1]; exact he'
          · exact (hag0 e).2.2 y (by omega) al
        rename (¬ (_ : Int) = _) => he
        have he' : R' t ≠ R' u := fun q => he (by rw [q])
        rename (_ ∧ ∃ S, LookOf T R' t S ∧ _) => P9
        obtain ⟨hs9, SA, hSA, hLA⟩ := P9
        have CE2 : CtOver w (.ref 125) [.ref TL, .ref fL', .int (u : Nat) tu] 2 24 _ (fun nx9' r news' => (∀ p ∈ nx9', p ∈ news') ∧ ∃ S, LookOf T R' u S ∧ LookAt news' r (T.fin u) S) := fun nx9' hs =>
          look_ct w O htu hlab ((TI1.mono hs9).mono hs) (hs _ (hs9 _ hfs)) hNA
        clear CE1
        unfold PStop
        clear F₁ N₁
        k_steps
        unfold PStop
        rename (_ ∧ ∃ S, LookOf T R' u S ∧ _) => P9b
        obtain ⟨hs9b, SB, hSB, hLB⟩ := P9b
        rename News _ _ _ _ => N9
        have Sc := (St1.mono hs9).mono hs9b
        refine look_eq N9 (hLA.mono hs9b) hLB (hSA.lab (hlab t ht)) (hSB.lab (hlab u htu)) (by ktr_units) ?_
        clear CE2
        by_cases hA : Alike T R' t u
        · rw [decide_eq_true ((look_iff O ht htu hSA hSB).mpr hA)]
          have hfs' := hs9b _ (hs9 _ hfs)
          k_steps
          unfold PStop
          rename News _ _ _ _ => N10
          refine sort_two (by assumption) N10 (.head _) ?_
          intro D2 h2 tk2 e2 t1 t2 F2 N2 hD2
          have Sd := Sc.mono2 N2
          have hfne := Sd.ne N2
          obtain ⟨o1, v1, hm1, hd1⟩ := Sd.cell1
          obtain ⟨o2, v2, hm2, hd2⟩ := Sd.cell2
          clear N10
          k_steps
          unfold PStop
          rename Chg _ _ _ _ => C1
          rename (_ = Data.cell (some (Value.int ((min (R' t) (R' u) : Nat) : Int) t1))) => D1
          have Se := Sd.chg2 hfne C1 D1 h12
          clear hm1 hm2 hd1 hd2
          obtain ⟨o3, v3, hm3, hd3⟩ := Se.cell1
          have hlow0 := C1.here
          k_steps
          unfold PStop
          rename Chg _ _ _ _ => C2
          rename (_ = Data.cell (some (Value.int ((max (R' t) (R' u) : Nat) : Int) t2))) => D2
          have Sf := Se.chg1 hfne C2 D2 h12
          have hlow := C2.keep _ hlow0 (Ne.symm h12)
          have hhigh := C2.here
          clear hm3
          rename List (Addr × Obj) => K2
          k_steps
          unfold PStop
          rename Fr _ _ _ _ => F6
          rename News _ _ _ _ => N6
          refine' listcomp_assign F6 ?k0 ?ka ?kb ?k1 ?k2 ?k3 ?k4 ?_ ?k6
          case k0 => with_unfolding_all rfl
          case ka => rfl
          case kb => rfl
          case k1 => with_unfolding_all rfl
          case k2 => decide
          case k3 => rfl
          case k4 => decide
          case k6 => intro _; rfl
          k_steps
          unfold PStop
          obtain ⟨fs4, ep4, hfs4, hNA4⟩ := Sf.list
          refine comp_list K2 hfs4 rfl F6 N6 (by rw [hNA4.len]; omega) (fun i v mC => mC (Str.ofString "one") = some v) ?_
            (fun i ys nx => (∀ p ∈ K2, p ∈ nx) ∧ NumsAt ys i (mrg R' (min (R' t) (R' u)) (max (R' t) (R' u)))) (fun i ys nx h => h.1) ⟨fun p hp => hp, NumsAt.nil⟩ ?_ ?_
          · intro i v C mC s Q E hv hkeep hn hret
            exact asg_name rfl rfl hn hret
          · rintro i v ys nx C mC h tk own' E' hv hys ⟨hsub2, NY⟩ hb hns hoff3 hC F₁ N₁
            have hi : i < T.n := by rw [← hNA4.len]; exact (List.getElem?_eq_some_iff.mp hv).1
            obtain ⟨tv, hv'⟩ := hNA4.at' i hi
            rw [hv] at hv'
            obtain rfl := Option.some.inj hv'
            have hl2 : _ ∈ nx ++ own' := List.mem_append_left _ (hsub2 _ hlow)
            have hh2 : _ ∈ nx ++ own' := List.mem_append_left _ (hsub2 _ hhigh)
            refine wpAny_pure ?_
            rw [if_pos rfl]
            k_steps
            · rename ((_ : Int) = _) => hq
              unfold PStop
              have e : mrg R' (min (R' t) (R' u)) (max (R' t) (R' u)) i = min (R' t) (R' u) := by unfold mrg; rw [if_pos (by omega)]
              have q := NY.snoc (t := t1)
              rw [e] at q
              exact CEnd.intro nx F₁ (by assumption) (fun p hp => List.mem_append_left _ hp) (fun p hp => List.mem_append_right _ hp) hoff3 ⟨hsub2, q⟩
            · rename (¬ (_ : Int) = _) => hq
              unfold PStop
              have e : mrg R' (min (R' t) (R' u)) (max (R' t) (R' u)) i = R' i := by unfold mrg; rw [if_neg (by omega)]
              have q := NY.snoc (t := tv)
              rw [e] at q
              exact CEnd.intro nx F₁ (by assumption) (fun p hp => List.mem_append_left _ hp) (fun p hp => List.mem_append_right _ hp) hoff3 ⟨hsub2, q⟩
          · rintro s₂ D ys nx' h' tk ⟨_, _, rfl⟩ F₁ N₁ hoff3 hys ⟨hsub2, NY⟩ h'' tk'' F₃ N₃
            rw [hNA4.len] at NY
            have lt1 := Rp.lt ht
            have lt2 := Rp.lt htu
            have i1 := Rp.idem t ht
            have i2 := Rp.idem u htu
            have al := ((Rp.congr t ht).symm.trans hA).trans (Rp.congr u htu)
            have hij : min (R' t) (R' u) < max (R' t) (R' u) := by omega
            have hj : max (R' t) (R' u) < T.n := by omega
            have key : R' (min (R' t) (R' u)) = min (R' t) (R' u) ∧ R' (max (R' t) (R' u)) = max (R' t) (R' u) ∧ Alike T R' (min (R' t) (R' u)) (max (R' t) (R' u)) := by
              rcases Nat.lt_or_gt_of_ne he' with c | c
              · have e1 : min (R' t) (R' u) = R' t := by omega
                have e2 : max (R' t) (R' u) = R' u := by omega
                rw [e1, e2]; exact ⟨i1, i2, al⟩
              · have e1 : min (R' t) (R' u) = R' u := by omega
                have e2 : max (R' t) (R' u) = R' t := by omega
                rw [e1, e2]; exact ⟨i2, i1, al.symm⟩
            have hR2 := reps_merge O Rp hij hj key.1 key.2.1 key.2.2
            obtain ⟨q, hq⟩ := List.getElem?_of_mem (mem_alive.mpr ⟨hj, key.2.1⟩)
            have hlen : (alive T.n (mrg R' (min (R' t) (R' u)) (max (R' t) (R' u)))).length < (alive T.n R').length := by
              have hql := (List.getElem?_eq_some_iff.mp hq).1
              rw [← alive_merge hij key.1 hq, List.length_eraseIdx_of_lt hql]
              omega
            have Sg := (Sf.mono hsub2).anew (n := ys.length) hR2 NY hoff3
            clear F₁ N₁ F6 N6
            k_steps
            unfold PStop
            obtain ⟨nf, Sh, hn, ho, hof⟩ := Sg.fin hob2
            refine InvEndG.intro (by assumption) (by assumption) ⟨true, _, D, Sh, .cons rfl (.cons rfl (.cons rfl (.cons rfl .nil))), fun e => (nomatch e), fun _ => ?_⟩ hof hn ho
            cases ag with
            | true => have := hag1 rfl; omega
            | false => rw [← (hag0 rfl).1]; exact hlen
        · rw [decide_eq_false fun q => hA ((look_iff O ht htu hSA hSB).mp q)]
          k_steps
          unfold PStop
          obtain ⟨nf, Sf, hn, ho, hof⟩ := Sc.fin hob2
          refine InvEndG.intro (by assumption) (by assumption) ⟨ag, R', fL', Sf, .cons rfl (.cons rfl (.cons rfl (.cons rfl .nil))), fun e => ⟨(hag0 e).1, (hag0 e).2.1, fun y hy al => ?_⟩, hag1⟩ hof hn ho
          by_cases hyu : y = u
          · have al' : Alike T R' t u := by rw [(hag0 e).1, ← hyu]; exact al
            exact absurd al' hA
          · exact (hag0 e).2.2 y (by omega) al
      · clear F2 N2
        rintro m₁ nx' h tk ⟨ag, R', fL', St, hm₁, hag0, hag1⟩ F₁ N₁
        replace F₁ := fr_lit F₁ hm₁
        dsimp only [kstB] at F₁
        k_steps
        unfold PStop
        obtain ⟨nf, Sf, hn, ho, hof⟩ := St.fin hob
        refine InvEndG.intro (by assumption) (by assumption) ⟨ag, R', fL', Sf, .cons rfl (.cons rfl (.cons rfl .nil)), fun e => ⟨(hag0 e).1, fun x y hx hyx al => ?_⟩, hag1⟩ hof hn ho
        by_cases hxt : x = t
        · subst hxt
          exact (hag0 e).2.2 y hyx al
        · exact (hag0 e).2.1 x y (by omega) hyx al
    · clear F2 N2
      rintro m₁ nx' h tk ⟨ag, R', fL', St, hm₁, hag0, hag1⟩ F₁ N₁
      replace F₁ := fr_lit F₁ hm₁
      dsimp only [kstB] at F₁
      k_steps
      unfold PStop
      rename News _ _ _ _ => N9
      refine whl2_end _ (by assumption) N9 ?_ ⟨ag, R', fL', St, .cons rfl (.cons rfl (.cons rfl .nil)), fun e => ?_, rfl⟩
      · cases ag with
        | true => have := hag1 rfl; simp; omega
        | false => rw [(hag0 rfl).1]; simp
      · obtain ⟨rfl, hall⟩ := hag0 e
        intro x y hx hy al
        rcases Nat.lt_trichotomy x y with c | c | c
        · exact (hall y x hy c al.symm).symm
        · rw [c]
        · exact hall x y hx c al
/-- a part of the ledger that stays, off what is changed -/
structure Bs (M : List Addr) (base nx : List (Addr × Obj)) : Prop where
  keep : ∀ p ∈ base, p ∈ nx
  off : ∀ p ∈ base, p.1 ∉ M
  chm : ∀ a ∈ M, ∃ o, (a, o) ∈ nx
theorem Bs.sub {M : List Addr} {base nx nx' : List (Addr × Obj)} (B : Bs M base nx) (h : ∀ p ∈ nx, p ∈ nx') : Bs M base nx' := ⟨fun p hp => h p (B.keep p hp), B.off, fun a ha => let ⟨o, e⟩ := B.chm a ha; ⟨o, h _ e⟩⟩
theorem Bs.chg {M : List Addr} {base nx nx' : List (Addr × Obj)} {a : Addr} {o' : Obj} (B : Bs M base nx) (C : Chg a o' nx nx') (ha : a ∈ M) : Bs M base nx' :=
  ⟨fun p hp => C.keep p (B.keep p hp) fun e => B.off p hp (e ▸ ha), B.off, fun b hb => by
    by_cases e : b = a
    · exact ⟨o', e ▸ C.here⟩
    · obtain ⟨o, h⟩ := B.chm b hb
      exact ⟨o, C.keep _ h e⟩⟩
theorem Bs.fresh {M : List Addr} {base nx : List (Addr × Obj)} {x : Addr} (B : Bs M base nx) (h : ∀ p ∈ nx, p.1 ≠ x) : x ∉ M := fun hx => let ⟨o, e⟩ := B.chm x hx; h _ e rfl
theorem Bs.add {M : List Addr} {base nx : List (Addr × Obj)} {x : Addr} {o : Obj} (B : Bs M base nx) (h : (x, o) ∈ nx) (hx : x ∉ M) : Bs M ((x, o) :: base) nx := by
  refine ⟨fun p hp => ?_, fun p hp => ?_, B.chm⟩
  · rcases List.mem_cons.mp hp with rfl | hp
    · exact h
    · exact B.keep p hp
  · rcases List.mem_cons.mp hp with rfl | hp
    · exact hx
    · exact B.off p hp
theorem Bs.own {M : List Addr} {base nx own : List (Addr × Obj)} (B : Bs M base nx) (h : OwnOff own (nx.map (·.1))) : Bs M (own ++ base) (nx ++ own) := by
  refine ⟨fun p hp => ?_, fun p hp => ?_, fun a ha => let ⟨o, e⟩ := B.chm a ha; ⟨o, List.mem_append_left _ e⟩⟩
  · rcases List.mem_append.mp hp with hp | hp
    · exact List.mem_append_right _ hp
    · exact List.mem_append_left _ (B.keep p hp)
  · rcases List.mem_append.mp hp with hp | hp
    · intro ha
      obtain ⟨o, e⟩ := B.chm _ ha
      exact h p hp _ (List.mem_map.mpr ⟨_, e, rfl⟩) rfl
    · exact B.off p hp
theorem Bs.left {M : List Addr} {a b nx : List (Addr × Obj)} (B : Bs M (a ++ b) nx) : Bs M b nx := ⟨fun p hp => B.keep p (List.mem_append_right _ hp), fun p hp => B.off p (List.mem_append_right _ hp), B.chm⟩
theorem Bs.own' {M : List Addr} {base nx own : List (Addr × Obj)} (B : Bs M base nx) (h : OwnOff own (nx.map (·.1))) : OwnOff own (M ++ base.map (·.1)) := fun p hp b hb => by
  rcases List.mem_append.mp hb with hb | hb
  · obtain ⟨o, e⟩ := B.chm b hb
    exact h p hp b (List.mem_map.mpr ⟨_, e, rfl⟩)
  · obtain ⟨q, hq, rfl⟩ := List.mem_map.mp hb
    exact h p hp _ (List.mem_map.mpr ⟨q, B.keep q hq, rfl⟩)
/-- the labels' list -/
structure StrsAt (vs : List Value) (S : List Str) : Prop where
  len : vs.length = S.length
  at' : ∀ (i : Nat) l, S[i]? = some l → ∃ t, vs[i]? = some (Value.str l t)
/-- what stays while the table is built -/
structure LB (cC cN ca sl lb en : Addr) (ws : List Value) (n m : Nat) (base : List (Addr × Obj)) : Prop where
  cellC : ∃ o, (cC, o) ∈ base ∧ o.data = Data.cell (some (Value.ref ca))
  cellN : ∃ o t, (cN, o) ∈ base ∧ o.data = Data.cell (some (Value.int (n : Nat) t))
  slice : ∃ k, (sl, listOf (List.toArray ws) k) ∈ base
  labels : ∃ vs k, (lb, listOf (List.toArray vs) k) ∈ base ∧ StrsAt vs (LBS.take m)
  end' : ∃ d od, (en, instObj 60 d) ∈ base ∧ (d, od) ∈ base
theorem LB.sub {cC cN ca sl lb en : Addr} {ws : List Value} {n m : Nat} {b b' : List (Addr × Obj)} (h : LB cC cN ca sl lb en ws n m b) (hs : ∀ p ∈ b, p ∈ b') : LB cC cN ca sl lb en ws n m b' := by
  obtain ⟨o1, a1, a2⟩ := h.cellC
  obtain ⟨o2, t2, b1, b2⟩ := h.cellN
  obtain ⟨k3, c1⟩ := h.slice
  obtain ⟨vs, k4, d1, d2⟩ := h.labels
  obtain ⟨d, od, e1, e2⟩ := h.end'
  exact ⟨⟨o1, hs _ a1, a2⟩, ⟨o2, t2, hs _ b1, b2⟩, ⟨k3, hs _ c1⟩, ⟨vs, k4, hs _ d1, d2⟩, ⟨d, od, hs _ e1, hs _ e2⟩⟩
def upd {α : Type} (f : Nat → α) (k : Nat) (v : α) (j : Nat) : α := if j = k then v else f j
theorem upd_at {α : Type} (f : Nat → α) (k : Nat) (v : α) : upd f k v k = v := by simp [upd]
theorem upd_ne {α : Type} (f : Nat → α) {k j : Nat} (v : α) (h : j < k) : upd f k v j = f j := by
  have : j ≠ k := by omega
  simp [upd, this]
/-- a row of the table -/
def Row1 (base : List (Addr × Obj)) (f : Bool) (S : List (Str × Nat)) (v : Value) : Prop :=
  ∃ (a : Addr) (m : Nat) (r : Addr) (n' : Nat) (rs : List Value), v = Value.ref a ∧ (a, tupN [Value.bool f, Value.ref r] m) ∈ base ∧ (r, listOf rs.toArray n') ∈ base ∧ RowAt base rs S
theorem Row1.sub {b b' : List (Addr × Obj)} {f : Bool} {S : List (Str × Nat)} {v : Value} (h : Row1 b f S v) (hs : ∀ p ∈ b, p ∈ b') : Row1 b' f S v := by
  obtain ⟨a, m, r, n', rs, x, y, z, u⟩ := h
  exact ⟨a, m, r, n', rs, x, hs _ y, hs _ z, u.mono hs⟩
/-- the arcs of a row -/
structure ArcsOk (n : Nat) (S : List (Str × Nat)) : Prop where
  nd : (S.map (·.1)).Nodup
  lt : ∀ p ∈ S, p.2 < n
  lab : ∀ p ∈ S, p.1 ∈ LBS
  len : S.length ≤ 3
structure Built (w : World) (n : Nat) (base : List (Addr × Obj)) (k : Nat) (tvs svs : List Value) (fin : Nat → Bool) (arcs : Nat → List (Str × Nat)) (X DX AX : Nat → Addr) : Prop where
  tl : tvs.length = k
  sl : svs.length = k
  row : ∀ j, j < k → ∃ v, tvs[j]? = some v ∧ Row1 base (fin j) (arcs j) v
  ok : ∀ j, j < k → ArcsOk n (arcs j)
  st : ∀ j, j < k → svs[j]? = some (Value.ref (X j)) ∧ IsSt w base (X j) (DX j) (AX j) (fin j) ∧ ∃ o, (AX j, o) ∈ base ∧ o.IsDictOf (strKind pg w) []
  ap : Apart k X DX AX
theorem Built.nil {w : World} {n : Nat} {base : List (Addr × Obj)} {fin : Nat → Bool} {arcs : Nat → List (Str × Nat)} {X DX AX : Nat → Addr} : Built w n base 0 [] [] fin arcs X DX AX :=
  ⟨rfl, rfl, fun _ h => absurd h (Nat.not_lt_zero _), fun _ h => absurd h (Nat.not_lt_zero _), fun _ h => absurd h (Nat.not_lt_zero _), ⟨fun _ _ h => absurd h (Nat.not_lt_zero _), fun _ _ h => absurd h (Nat.not_lt_zero _), fun _ _ h => absurd h (Nat.not_lt_zero _)⟩⟩
theorem Built.snoc {w : World} {n : Nat} {base base' : List (Addr × Obj)} {k : Nat} {tvs svs : List Value} {fin : Nat → Bool} {arcs : Nat → List (Str × Nat)} {X DX AX : Nat → Addr} {f : Bool} {S : List (Str × Nat)} {v : Value} {x d ar : Addr} {o : Obj}
    (B : Built w n base k tvs svs fin arcs X DX AX) (hs : ∀ p ∈ base, p ∈ base') (hr : Row1 base' f S v) (hS : ArcsOk n S) (hst : IsSt w base' x d ar f) (ho : (ar, o) ∈ base') (hd : o.IsDictOf (strKind pg w) [])
    (hf : ∀ p ∈ base, p.1 ≠ x ∧ p.1 ≠ d ∧ p.1 ≠ ar) (hda : d ≠ ar) : Built w n base' (k + 1) (tvs ++ [v]) (svs ++ [.ref x]) (upd fin k f) (upd arcs k S) (upd X k x) (upd DX k d) (upd AX k ar) := by
  have mx : ∀ j, j < k → X j ≠ x ∧ X j ≠ d ∧ X j ≠ ar := fun j hj => hf _ (B.st j hj).2.1.inst
  have ma : ∀ j, j < k → AX j ≠ x ∧ AX j ≠ d ∧ AX j ≠ ar := fun j hj => by
    obtain ⟨o, h1, h2⟩ := (B.st j hj).2.2
    exact hf _ h1
  have md : ∀ j, j < k → DX j ≠ x ∧ DX j ≠ d ∧ DX j ≠ ar := fun j hj => by
    obtain ⟨_, _, _, _, _, _, _, _, _, _, h⟩ := (B.st j hj).2.1.dict
    exact hf _ h
  have cs : ∀ j, j < k + 1 → j < k ∨ j = k := fun j h => by omega
  refine ⟨by simp [B.tl], by simp [B.sl], fun j hj => ?_, fun j hj => ?_, fun j hj => ?_, fun i j hi hj e => ?_, fun i j hi hj e => ?_, fun i j hi hj => ?_⟩
  · rcases cs j hj with h | rfl
    · obtain ⟨v', h1, h2⟩ := B.row j h
      rw [upd_ne _ _ h, upd_ne _ _ h]
      exact ⟨v', by rw [List.getElem?_append_left (by rw [B.tl]; exact h)]; exact h1, h2.sub hs⟩
    · rw [upd_at, upd_at]
      exact ⟨v, by rw [← B.tl]; simp, hr⟩
  · rcases cs j hj with h | rfl
    · rw [upd_ne _ _ h]; exact B.ok j h
    · rw [upd_at]; exact hS
  · rcases cs j hj with h | rfl
    · obtain ⟨h1, h2, o', h3, h4⟩ := B.st j h
      rw [upd_ne _ _ h, upd_ne _ _ h, upd_ne _ _ h, upd_ne _ _ h]
      exact ⟨by rw [List.getElem?_append_left (by rw [B.sl]; exact h)]; exact h1, h2.mono hs, o', hs _ h3, h4⟩
    · rw [upd_at, upd_at, upd_at, upd_at]
      exact ⟨by rw [← B.sl]; simp, hst, o, ho, hd⟩
  · rcases cs i hi with h | rfl <;> rcases cs j hj with g | rfl
    · rw [upd_ne _ _ h, upd_ne _ _ g] at e; exact B.ap.xinj i j h g e
    · rw [upd_ne _ _ h, upd_at] at e; exact absurd e (mx i h).1
    · rw [upd_at, upd_ne _ _ g] at e; exact absurd e.symm (mx j g).1
    · rfl
  · rcases cs i hi with h | rfl <;> rcases cs j hj with g | rfl
    · rw [upd_ne _ _ h, upd_ne _ _ g] at e; exact B.ap.ainj i j h g e
    · rw [upd_ne _ _ h, upd_at] at e; exact absurd e (ma i h).2.2
    · rw [upd_at, upd_ne _ _ g] at e; exact absurd e.symm (ma j g).2.2
    · rfl
  · rcases cs i hi with h | rfl <;> rcases cs j hj with g | rfl
    · rw [upd_ne _ _ h, upd_ne _ _ g]; exact B.ap.da i j h g
    · rw [upd_ne _ _ h, upd_at]; exact (md i h).2.2
    · rw [upd_at, upd_ne _ _ g]; exact Ne.symm (ma j g).2.1
    · rw [upd_at, upd_at]; exact hda
theorem Built.sub {w : World} {n : Nat} {base base' : List (Addr × Obj)} {k : Nat} {tvs svs : List Value} {fin : Nat → Bool} {arcs : Nat → List (Str × Nat)} {X DX AX : Nat → Addr} (B : Built w n base k tvs svs fin arcs X DX AX) (hs : ∀ p ∈ base, p ∈ base') : Built w n base' k tvs svs fin arcs X DX AX :=
  ⟨B.tl, B.sl, fun j hj => let ⟨v, a, b⟩ := B.row j hj; ⟨v, a, b.sub hs⟩, B.ok, fun j hj => let ⟨a, b, o, c, d⟩ := B.st j hj; ⟨a, b.mono hs, o, hs _ c, d⟩, B.ap⟩
structure LoopSt (w : World) (cC cN cA cF ca sl lb en TL SL : Addr) (ws : List Value) (n m k : Nat) (base nx : List (Addr × Obj)) (tvs svs : List Value) (fin : Nat → Bool) (arcs : Nat → List (Str × Nat)) (X DX AX : Nat → Addr) : Prop where
  bs : Bs [ca, TL, SL, cA, cF] base nx
  lb : LB cC cN ca sl lb en ws n m base
  tk : ∃ (i : Nat) (u : Tok) (nc : Nat), (ca, listOf [Value.ref sl, Value.int (i : Nat) u].toArray nc) ∈ nx ∧ i ≤ 2 + 4 * k
  tab : ∃ (nt : Nat), (TL, listOf tvs.toArray nt) ∈ nx
  sta : ∃ (ns : Nat), (SL, listOf svs.toArray ns) ∈ nx
  cA' : ∃ o v, (cA, o) ∈ nx ∧ o.data = Data.cell v
  cF' : ∃ o v, (cF, o) ∈ nx ∧ o.data = Data.cell v
  bt : Built w n base k tvs svs fin arcs X DX AX
theorem bs_of {ca TL SL cA cF : Addr} {base nx : List (Addr × Obj)} (hk : ∀ p ∈ base, p ∈ nx) (ho : ∀ p ∈ base, p.1 ≠ ca ∧ p.1 ≠ TL ∧ p.1 ≠ SL ∧ p.1 ≠ cA ∧ p.1 ≠ cF) (h1 : ∃ o, (ca, o) ∈ nx) (h2 : ∃ o, (TL, o) ∈ nx) (h3 : ∃ o, (SL, o) ∈ nx) (h4 : ∃ o, (cA, o) ∈ nx) (h5 : ∃ o, (cF, o) ∈ nx) : Bs [ca, TL, SL, cA, cF] base nx := by
  refine ⟨hk, fun p hp hM => ?_, fun a ha => ?_⟩
  · obtain ⟨a, b, c, d, e⟩ := ho p hp
    simp only [List.mem_cons, List.not_mem_nil, or_false] at hM
    rcases hM with h | h | h | h | h
    · exact a h
    · exact b h
    · exact c h
    · exact d h
    · exact e h
  · simp only [List.mem_cons, List.not_mem_nil, or_false] at ha
    rcases ha with rfl | rfl | rfl | rfl | rfl <;> assumption
theorem labs_of {m : Nat} {t1 t2 t3 : Tok} : StrsAt ([Value.str (Str.ofString "a") t1, Value.str (Str.ofString "'x'") t2, Value.str (Str.ofString "NAME") t3].take m) (LBS.take m) := by
  refine ⟨by simp [LBS], fun i l h => ?_⟩
  have hi := (List.getElem?_eq_some_iff.mp h).1
  rw [List.length_take] at hi
  have hl : LBS.length = 3 := rfl
  have him : i < m := by omega
  rw [List.getElem?_take, if_pos him] at h ⊢
  match i, hi with
  | 0, _ => exact ⟨t1, by have : l = Str.ofString "a" := (Option.some.inj h).symm; rw [this]; rfl⟩
  | 1, _ => exact ⟨t2, by have : l = Str.ofString "'x'" := (Option.some.inj h).symm; rw [this]; rfl⟩
  | 2, _ => exact ⟨t3, by have : l = Str.ofString "NAME" := (Option.some.inj h).symm; rw [this]; rfl⟩
  | i + 3, hi => omega
section
variable {M : Model} {A : Around} {E : Value → Shared → Prop} {s : Shared} {K : Frag} {h₀ : Heap} {L C : Addr} {m mg mb : Str → Option Value} {scope : Scope} {cl : List (Str × Addr)} {env : Env} {p : Program} {loose : List Str} {x : Str} {pos : Pos} {v : Value} {Q : Value → Shared → Prop}
theorem blk_K (F : Fr h₀ L s.heap m) (X : K.In h₀) (T : TopRead p loose mg mb h₀) (e : nsIn K mainGlobals x = some (some v)) (h : Q v s)
    (hk : (compEnvC scope cl C env).scope.kind = .function) (hx : (compEnvC scope cl C env).kindOf x = some .globalImplicit) (hg : env.globals = mainGlobals) (hd : (x == ("__debug__" : Str)) = false := by decide) :
    wpAny M A (eval (.Name x pos) (compEnvC scope cl C env)) Q E s := Name_function_global hk hx (loadGlobal_global (env := compEnvC scope cl C env) (by show s.heap.Ns env.globals mg; rw [hg]; exact T.g.keeps F.keep) (mg_of X T.g e) h) hd
theorem blk_B (F : Fr h₀ L s.heap m) (X : K.In h₀) (T : TopRead p loose mg mb h₀) (e : nsIn K mainGlobals x = some none) (hv : bootBuiltins x = some v) (hn : x ≠ "__name__") (h : Q v s)
    (hk : (compEnvC scope cl C env).scope.kind = .function) (hx : (compEnvC scope cl C env).kindOf x = some .globalImplicit) (hg : env.globals = mainGlobals) (hb : env.builtins = builtinsNs) (hd : (x == ("__debug__" : Str)) = false := by decide) :
    wpAny M A (eval (.Name x pos) (compEnvC scope cl C env)) Q E s :=
  Name_function_global hk hx (loadGlobal_builtin (env := compEnvC scope cl C env) (by show s.heap.Ns env.globals mg; rw [hg]; exact T.g.keeps F.keep) (mg_none_of X T.g e) (by show s.heap.Ns env.builtins mb; rw [hb]; exact T.b.keeps F.keep) ((T.builtins x hn).trans hv) h) hd
end
/-- a row of pairs that are new against K0 -/
def FRow (K0 : List (Addr × Obj)) (ca : Addr) (nx : List (Addr × Obj)) (ys : List Value) (S : List (Str × Nat)) : Prop :=
  ∃ tl : List (Addr × Obj), (∀ p ∈ tl, p ∈ nx ∧ (∀ q ∈ K0, q.1 ≠ p.1) ∧ ca ≠ p.1 ∧ p.2.cls = Value.type "tuple") ∧ RowAt tl ys S
theorem FRow.nil {K0 nx : List (Addr × Obj)} {ca : Addr} : FRow K0 ca nx [] [] := ⟨[], fun p hp => (nomatch hp), RowAt.nil⟩
theorem FRow.mono {K0 nx nx' : List (Addr × Obj)} {ca : Addr} {ys : List Value} {S : List (Str × Nat)} (h : FRow K0 ca nx ys S) (hs : ∀ p ∈ nx, p ∈ nx') : FRow K0 ca nx' ys S :=
  let ⟨tl, a, b⟩ := h; ⟨tl, fun p hp => ⟨hs _ (a p hp).1, (a p hp).2⟩, b⟩
theorem FRow.row {K0 nx : List (Addr × Obj)} {ca : Addr} {ys : List Value} {S : List (Str × Nat)} (h : FRow K0 ca nx ys S) : RowAt nx ys S := let ⟨_, a, b⟩ := h; b.mono fun p hp => (a p hp).1
theorem FRow.snoc {K0 nx : List (Addr × Obj)} {ca a : Addr} {ys : List Value} {S : List (Str × Nat)} {s : Str} {t n : Nat} {tl ti : Tok} (h : FRow K0 ca nx ys S) (hm : (a, tupN [.str s tl, .int (t : Nat) ti] n) ∈ nx) (hK : ∀ q ∈ K0, q.1 ≠ a) (hc : ca ≠ a) : FRow K0 ca nx (ys ++ [.ref a]) (S ++ [(s, t)]) := by
  obtain ⟨l, h1, h2⟩ := h
  refine ⟨(a, tupN [.str s tl, .int (t : Nat) ti] n) :: l, fun p hp => ?_, (h2.mono fun p hp => .tail _ hp).snoc (.head _)⟩
  rcases List.mem_cons.mp hp with rfl | hp
  · exact ⟨hm, hK, hc, rfl⟩
  · exact h1 p hp
theorem arcs_ok {n m : Nat} {S : List (Str × Nat)} (h : S.map (·.1) = LBS.take m) : ArcsOk n (S.filter fun p => decide (p.2 < n)) := by
  have hl : S.length ≤ 3 := by
    have q := congrArg List.length h
    simp [LBS] at q
    omega
  have nd : (S.map (·.1)).Nodup := by
    rw [h]
    exact List.Nodup.sublist (List.take_sublist _ _) (by decide)
  refine ⟨?_, fun p hp => ?_, fun p hp => ?_, Nat.le_trans (List.length_filter_le _ _) hl⟩
  · exact List.Nodup.sublist (List.Sublist.map _ (List.filter_sublist)) nd
  · simpa using (List.mem_filter.mp hp).2
  · have q : p.1 ∈ LBS.take m := by rw [← h]; exact List.mem_map.mpr ⟨p, (List.mem_filter.mp hp).1, rfl⟩
    exact List.mem_of_mem_take q
theorem arcs_rev {n : Nat} {S : List (Str × Nat)} (h : ArcsOk n S) : ArcsOk n S.reverse :=
  ⟨by rw [List.map_reverse]; exact (List.reverse_perm _).nodup_iff.mpr h.nd, fun p hp => h.lt p (List.mem_reverse.mp hp), fun p hp => h.lab p (List.mem_reverse.mp hp), by rw [List.length_reverse]; exact h.len⟩
theorem FRow.keep {K0 nx nx' : List (Addr × Obj)} {ca : Addr} {ys : List Value} {S : List (Str × Nat)} (h : FRow K0 ca nx ys S) (hs : ∀ p ∈ nx, (∀ q ∈ K0, q.1 ≠ p.1) → ca ≠ p.1 → p ∈ nx') : FRow K0 ca nx' ys S :=
  let ⟨tl, a, b⟩ := h; ⟨tl, fun p hp => ⟨hs _ (a p hp).1 (a p hp).2.1 (a p hp).2.2.1, (a p hp).2⟩, b⟩
def MidP (s : Shared) (h₀ : Heap) (L : Addr) (m : Str → Option Value) (Post : Value → List (Addr × Obj) → Prop) (v : Value) (s' : Shared) : Prop :=
  ∃ h' tk' nx4, s' = { s with heap := h', toks := tk' } ∧ Fr h₀ L h' m ∧ News h₀ L h' nx4 ∧ Post v nx4
theorem MidP.intro {s : Shared} {h₀ h' : Heap} {L : Addr} {m : Str → Option Value} {Post : Value → List (Addr × Obj) → Prop} {v : Value} {tk' : Nat} {nx4 : List (Addr × Obj)} (F : Fr h₀ L h' m) (N : News h₀ L h' nx4) (p : Post v nx4) : MidP s h₀ L m Post v { s with heap := h', toks := tk' } := ⟨h', tk', nx4, rfl, F, N, p⟩
theorem mid {w : World} {A : Around} {E : Value → Shared → Prop} {s : Shared} {h₀ : Heap} {L : Addr} {m : Str → Option Value} {nx : List (Addr × Obj)} {e : PySem.Expr} {env : Env} {Qc : Value → Shared → Prop} (_F : Fr h₀ L s.heap m) (_N : News h₀ L s.heap nx) (Post : Value → List (Addr × Obj) → Prop)
    (h1 : wpAny (model pg w) A (eval e env) (MidP s h₀ L m Post) E s)
    (h2 : ∀ v h' tk' nx4, Fr h₀ L h' m → News h₀ L h' nx4 → Post v nx4 → Qc v { s with heap := h', toks := tk' }) : wpAny (model pg w) A (eval e env) Qc E s :=
  wpAny_mono h1 (fun v s' ⟨h', tk', nx4, e, F, N, p⟩ => e ▸ h2 v h' tk' nx4 F N p) fun _ _ e => e
theorem RowAt.rev {l : List (Addr × Obj)} {vs : List Value} {S : List (Str × Nat)} (R : RowAt l vs S) : RowAt l vs.reverse S.reverse := by
  refine ⟨by simp [R.len], fun i s t e => ?_⟩
  have hi := (List.getElem?_eq_some_iff.mp e).1
  rw [List.length_reverse] at hi
  rw [List.getElem?_reverse hi] at e
  rw [List.getElem?_reverse (by rw [R.len]; exact hi), R.len]
  exact R.at' _ _ _ e
theorem FRow.rev {K0 nx : List (Addr × Obj)} {ca : Addr} {ys : List Value} {S : List (Str × Nat)} (h : FRow K0 ca nx ys S) : FRow K0 ca nx ys.reverse S.reverse := let ⟨tl, a, b⟩ := h; ⟨tl, a, b.rev⟩
theorem Bs.ne {M : List Addr} {base nx : List (Addr × Obj)} {p : Addr × Obj} {a : Addr} (B : Bs M base nx) (hp : p ∈ base) (ha : a ∈ M) : p.1 ≠ a := fun e => B.off p hp (e ▸ ha)

theorem turn_end {w : World} {cC cN cA cF ca sl lb en TL SL : Addr} {ws : List Value} {n m k : Nat} {base nx own K0 nx8 : List (Addr × Obj)} {tvs svs rs : List Value} {fin : Nat → Bool} {arcs : Nat → List (Str × Nat)} {X DX AX : Nat → Addr}
    {oA oF oA' o7 : Obj} {vA vF : Option Value} {f : Bool} {S2 : List (Str × Nat)} {Tp R x7 d7 ar7 : Addr} {nr nt nS i' nc : Nat} {u : Tok} {h₀ h : Heap} {L : Addr}
    (Ls : LoopSt w cC cN cA cF ca sl lb en TL SL ws n m k base nx tvs svs fin arcs X DX AX) (N8 : News h₀ L h nx8) (hoff : OwnOff own (nx.map (·.1)))
    (hK0 : (TL, listOf tvs.toArray nt) :: (SL, listOf svs.toArray nS) :: (cA, oA) :: (cF, oF) :: (own ++ base) = K0)
    (hi : i' ≤ 2 + 4 * (k + 1)) (hF' : oF.data = .cell vF) (hA' : oA'.data = .cell vA)
    (hK8 : ∀ p ∈ K0, p.1 ≠ cA → p.1 ≠ TL → p.1 ≠ SL → p ∈ nx8) (ca8 : (ca, listOf [Value.ref sl, Value.int (i' : Nat) u].toArray nc) ∈ nx8) (T8 : (TL, listOf (tvs ++ [Value.ref Tp]).toArray (nt + 1)) ∈ nx8) (S8 : (SL, listOf (svs ++ [Value.ref x7]).toArray (nS + 1)) ∈ nx8)
    (A8 : (cA, oA') ∈ nx8) (F8 : (cF, oF) ∈ nx8) (tup8 : (Tp, tupN [Value.bool f, Value.ref R] 0) ∈ nx8) (R8 : (R, listOf rs.toArray nr) ∈ nx8) (RY8 : FRow K0 ca nx8 rs S2) (Aok : ArcsOk n S2)
    (ist : IsSt w nx8 x7 d7 ar7 f) (mar : (ar7, o7) ∈ nx8) (hd7 : o7.IsDictOf (strKind pg w) []) (da7 : d7 ≠ ar7)
    (fT : (∀ q ∈ K0, q.1 ≠ Tp) ∧ ca ≠ Tp) (fR : (∀ q ∈ K0, q.1 ≠ R) ∧ ca ≠ R) (fx : (∀ q ∈ K0, q.1 ≠ x7) ∧ ca ≠ x7) (fd : (∀ q ∈ K0, q.1 ≠ d7) ∧ ca ≠ d7) (fa : (∀ q ∈ K0, q.1 ≠ ar7) ∧ ca ≠ ar7) :
    ∃ nf, (∃ base tvs svs fin arcs X DX AX, LoopSt w cC cN cA cF ca sl lb en TL SL ws n m (k + 1) base nf tvs svs fin arcs X DX AX) ∧ (∀ p ∈ nf, p ∈ nx8) ∧ (∀ p ∈ own, p ∈ nx8) ∧ OwnOff own (nf.map (·.1)) := by
  have kT : (TL, listOf tvs.toArray nt) ∈ K0 := by rw [← hK0]; exact .head _
  have kS : (SL, listOf svs.toArray nS) ∈ K0 := by rw [← hK0]; exact .tail _ (.head _)
  have kA : (cA, oA) ∈ K0 := by rw [← hK0]; exact .tail _ (.tail _ (.head _))
  have kF : (cF, oF) ∈ K0 := by rw [← hK0]; exact .tail _ (.tail _ (.tail _ (.head _)))
  have kO : ∀ p ∈ own, p ∈ K0 := fun p hp => by rw [← hK0]; exact .tail _ (.tail _ (.tail _ (.tail _ (List.mem_append_left _ hp))))
  have kB : ∀ p ∈ base, p ∈ K0 := fun p hp => by rw [← hK0]; exact .tail _ (.tail _ (.tail _ (.tail _ (List.mem_append_right _ hp))))
  have inM : ∀ a, (∃ o, (a, o) ∈ nx) → ∀ p ∈ own, p.1 ≠ a := fun a ⟨o, ho⟩ p hp => hoff p hp a (List.mem_map.mpr ⟨_, ho, rfl⟩)
  have mM : ∀ a ∈ [ca, TL, SL, cA, cF], ∀ p ∈ own, p.1 ≠ a := fun a ha => inM a (Ls.bs.chm a ha)
  have off5 : ∀ z, (∀ q ∈ K0, q.1 ≠ z) ∧ ca ≠ z → z ≠ ca ∧ z ≠ TL ∧ z ≠ SL ∧ z ≠ cA ∧ z ≠ cF := fun z h => ⟨Ne.symm h.2, Ne.symm (h.1 _ kT), Ne.symm (h.1 _ kS), Ne.symm (h.1 _ kA), Ne.symm (h.1 _ kF)⟩
  have offB : ∀ p ∈ base, p.1 ≠ ca ∧ p.1 ≠ TL ∧ p.1 ≠ SL ∧ p.1 ≠ cA ∧ p.1 ≠ cF := fun p hp => ⟨Ls.bs.ne hp (.head _), Ls.bs.ne hp (.tail _ (.head _)), Ls.bs.ne hp (.tail _ (.tail _ (.head _))), Ls.bs.ne hp (.tail _ (.tail _ (.tail _ (.head _)))), Ls.bs.ne hp (.tail _ (.tail _ (.tail _ (.tail _ (.head _)))))⟩
  obtain ⟨tl, htl, hrow⟩ := RY8
  obtain ⟨t1, t2, t3, t4, t5, t6, t0, nf0, na, tr, hd8⟩ := ist.dict
  obtain ⟨bs', hbs⟩ : ∃ b, b = (x7, instObj 102 d7) :: (d7, stD w.params t1 t2 t3 t4 t5 t6 t0 nf0 ar7 na tr f) :: (ar7, o7) :: (Tp, tupN [Value.bool f, Value.ref R] 0) :: (R, listOf rs.toArray nr) :: (tl ++ base) := ⟨_, rfl⟩
  have b1 : (x7, instObj 102 d7) ∈ bs' := by rw [hbs]; exact .head _
  have b2 : (d7, stD w.params t1 t2 t3 t4 t5 t6 t0 nf0 ar7 na tr f) ∈ bs' := by rw [hbs]; exact .tail _ (.head _)
  have b3 : (ar7, o7) ∈ bs' := by rw [hbs]; exact .tail _ (.tail _ (.head _))
  have b4 : (Tp, tupN [Value.bool f, Value.ref R] 0) ∈ bs' := by rw [hbs]; exact .tail _ (.tail _ (.tail _ (.head _)))
  have b5 : (R, listOf rs.toArray nr) ∈ bs' := by rw [hbs]; exact .tail _ (.tail _ (.tail _ (.tail _ (.head _))))
  have b6 : ∀ p ∈ tl, p ∈ bs' := fun p hp => by rw [hbs]; exact .tail _ (.tail _ (.tail _ (.tail _ (.tail _ (List.mem_append_left _ hp)))))
  have b7 : ∀ p ∈ base, p ∈ bs' := fun p hp => by rw [hbs]; exact .tail _ (.tail _ (.tail _ (.tail _ (.tail _ (List.mem_append_right _ hp)))))
  have ball : ∀ p ∈ bs', p ∈ nx8 ∧ (p.1 ≠ ca ∧ p.1 ≠ TL ∧ p.1 ≠ SL ∧ p.1 ≠ cA ∧ p.1 ≠ cF) ∧ ∀ q ∈ own, q.1 ≠ p.1 := fun p hp => by
    rw [hbs] at hp
    simp only [List.mem_cons, List.mem_append] at hp
    rcases hp with rfl | rfl | rfl | rfl | rfl | hp | hp
    · exact ⟨ist.inst, off5 _ fx, fun q hq => fx.1 q (kO q hq)⟩
    · exact ⟨hd8, off5 _ fd, fun q hq => fd.1 q (kO q hq)⟩
    · exact ⟨mar, off5 _ fa, fun q hq => fa.1 q (kO q hq)⟩
    · exact ⟨tup8, off5 _ fT, fun q hq => fT.1 q (kO q hq)⟩
    · exact ⟨R8, off5 _ fR, fun q hq => fR.1 q (kO q hq)⟩
    · obtain ⟨h1, h2, h3, _⟩ := htl p hp
      exact ⟨h1, off5 _ ⟨h2, h3⟩, fun q hq => h2 q (kO q hq)⟩
    · have z := offB p hp
      exact ⟨hK8 p (kB p hp) z.2.2.2.1 z.2.1 z.2.2.1, z, fun q hq => inM p.1 ⟨p.2, Ls.bs.keep p hp⟩ q hq⟩
  refine ⟨(ca, listOf [Value.ref sl, Value.int (i' : Nat) u].toArray nc) :: (TL, listOf (tvs ++ [Value.ref Tp]).toArray (nt + 1)) :: (SL, listOf (svs ++ [Value.ref x7]).toArray (nS + 1)) :: (cA, oA') :: (cF, oF) :: bs',
    ⟨bs', tvs ++ [Value.ref Tp], svs ++ [Value.ref x7], upd fin k f, upd arcs k S2, upd X k x7, upd DX k d7, upd AX k ar7,
      bs_of (fun p hp => .tail _ (.tail _ (.tail _ (.tail _ (.tail _ hp))))) (fun p hp => (ball p hp).2.1) ⟨_, .head _⟩ ⟨_, .tail _ (.head _)⟩ ⟨_, .tail _ (.tail _ (.head _))⟩ ⟨_, .tail _ (.tail _ (.tail _ (.head _)))⟩ ⟨_, .tail _ (.tail _ (.tail _ (.tail _ (.head _))))⟩,
      Ls.lb.sub b7, ⟨i', u, nc, .head _, hi⟩, ⟨_, .tail _ (.head _)⟩, ⟨_, .tail _ (.tail _ (.head _))⟩, ⟨_, _, .tail _ (.tail _ (.tail _ (.head _))), hA'⟩, ⟨_, _, .tail _ (.tail _ (.tail _ (.tail _ (.head _)))), hF'⟩,
      Ls.bt.snoc b7 ⟨Tp, 0, R, nr, rs, rfl, b4, b5, hrow.mono b6⟩ Aok ⟨b1, ⟨t1, t2, t3, t4, t5, t6, t0, nf0, na, tr, b2⟩, ist.low⟩ b3 hd7 (fun p hp => ⟨fx.1 p (kB p hp), fd.1 p (kB p hp), fa.1 p (kB p hp)⟩) da7⟩, ?_, ?_, ?_⟩
  · intro p hp
    simp only [List.mem_cons] at hp
    rcases hp with rfl | rfl | rfl | rfl | rfl | hp
    · exact ca8
    · exact T8
    · exact S8
    · exact A8
    · exact F8
    · exact (ball p hp).1
  · intro p hp
    exact hK8 p (kO p hp) (mM cA (.tail _ (.tail _ (.tail _ (.head _)))) p hp) (mM TL (.tail _ (.head _)) p hp) (mM SL (.tail _ (.tail _ (.head _))) p hp)
  · intro p hp b hb
    obtain ⟨q, hq, rfl⟩ := List.mem_map.mp hb
    simp only [List.mem_cons] at hq
    rcases hq with rfl | rfl | rfl | rfl | rfl | hq
    · exact mM ca (.head _) p hp
    · exact mM TL (.tail _ (.head _)) p hp
    · exact mM SL (.tail _ (.tail _ (.head _))) p hp
    · exact mM cA (.tail _ (.tail _ (.tail _ (.head _)))) p hp
    · exact mM cF (.tail _ (.tail _ (.tail _ (.tail _ (.head _))))) p hp
    · exact (ball q hq).2.2 p hp
/-- the table that was built -/
def tabOf (n : Nat) (fin : Nat → Bool) (arcs : Nat → List (Str × Nat)) : Tab := ⟨n, fin, arcs⟩
theorem tab_ok {w : World} {n : Nat} {base : List (Addr × Obj)} {tvs svs : List Value} {fin : Nat → Bool} {arcs : Nat → List (Str × Nat)} {X DX AX : Nat → Addr} (B : Built w n base n tvs svs fin arcs X DX AX) (h7 : n ≤ 7) : (tabOf n fin arcs).Ok :=
  ⟨fun k hk => (B.ok k hk).nd, fun k hk => (B.ok k hk).lt, fun k hk => (B.ok k hk).len, h7⟩
theorem tab_in {w : World} {n TL : Nat} {base nx : List (Addr × Obj)} {tvs svs : List Value} {fin : Nat → Bool} {arcs : Nat → List (Str × Nat)} {X DX AX : Nat → Addr} {nt : Nat} (B : Built w n base n tvs svs fin arcs X DX AX) (hT : ((TL : Addr), listOf tvs.toArray nt) ∈ nx) (hs : ∀ p ∈ base, p ∈ nx) : TabIn (tabOf n fin arcs) TL nx :=
  ⟨tvs, nt, hT, B.tl, fun k hk => by
    obtain ⟨v, h1, a, m, r, n', rs, rfl, h2, h3, h4⟩ := B.row k hk
    exact ⟨a, m, r, n', rs, h1, hs _ h2, hs _ h3, h4.mono hs⟩⟩
/-- the arcs' dicts while they fill up: c k of them are in -/
structure ArcSt (w : World) (T : Tab) (X AX : Nat → Addr) (base : List (Addr × Obj)) (c : Nat → Nat) (nx : List (Addr × Obj)) : Prop where
  keep : ∀ p ∈ base, p ∈ nx
  off : ∀ p ∈ base, ∀ k, k < T.n → p.1 ≠ AX k
  arcs : ∀ k, k < T.n → ∃ o, (AX k, o) ∈ nx ∧ o.IsDictOf (strKind pg w) (vals X (fun t => t) ((T.arcs k).take (c k)))
theorem ArcSt.sub {w : World} {T : Tab} {X AX : Nat → Addr} {base nx nx' : List (Addr × Obj)} {c : Nat → Nat} (S : ArcSt w T X AX base c nx) (h : ∀ p ∈ nx, p ∈ nx') : ArcSt w T X AX base c nx' :=
  ⟨fun p hp => h p (S.keep p hp), S.off, fun k hk => let ⟨o, a, b⟩ := S.arcs k hk; ⟨o, h _ a, b⟩⟩
theorem ArcSt.more {w : World} {T : Tab} {X AX : Nat → Addr} {base nx own : List (Addr × Obj)} {c : Nat → Nat} (S : ArcSt w T X AX base c nx) (h : OwnOff own (nx.map (·.1))) : ArcSt w T X AX (own ++ base) c (nx ++ own) := by
  refine ⟨fun p hp => ?_, fun p hp k hk => ?_, fun k hk => let ⟨o, a, b⟩ := S.arcs k hk; ⟨o, List.mem_append_left _ a, b⟩⟩
  · rcases List.mem_append.mp hp with hp | hp
    · exact List.mem_append_right _ hp
    · exact List.mem_append_left _ (S.keep p hp)
  · rcases List.mem_append.mp hp with hp | hp
    · obtain ⟨o, a, b⟩ := S.arcs k hk
      exact h p hp _ (List.mem_map.mpr ⟨_, a, rfl⟩)
    · exact S.off p hp k hk
/-- one arc more -/
theorem ArcSt.step {w : World} {T : Tab} {X AX : Nat → Addr} {base nx nx' : List (Addr × Obj)} {c c' : Nat → Nat} {k : Nat} {o' : Obj} (S : ArcSt w T X AX base c nx) (inj : ∀ k l, k < T.n → l < T.n → AX k = AX l → k = l) (hk : k < T.n) (C : Chg (AX k) o' nx nx') (hd : o'.IsDictOf (strKind pg w) (vals X (fun t => t) ((T.arcs k).take (c' k)))) (hc : ∀ l, l ≠ k → c' l = c l) : ArcSt w T X AX base c' nx' := by
  refine ⟨fun p hp => C.keep p (S.keep p hp) (S.off p hp k hk), S.off, fun l hl => ?_⟩
  by_cases e : l = k
  · subst e
    exact ⟨o', C.here, hd⟩
  · obtain ⟨o, a, b⟩ := S.arcs l hl
    exact ⟨o, C.keep _ a fun q => e (inj l k hl hk q), by rw [hc l e]; exact b⟩
theorem rising_rk : ∀ (r : List Str) (p : Str), (∀ x ∈ p :: r, x ∈ LBS) → (p :: r).Nodup → risingS p r = true → ((p :: r).map rk).Pairwise (· < ·)
  | [], p, _, _, _ => by simp
  | x :: r, p, hL, hn, h => by
    have h1 : ltCps x.cps.toList p.cps.toList = false := by
      have q : (!ltCps x.cps.toList p.cps.toList && risingS x r) = true := h
      simp only [Bool.and_eq_true, Bool.not_eq_true'] at q
      exact q.1
    have h2 : risingS x r = true := by
      have q : (!ltCps x.cps.toList p.cps.toList && risingS x r) = true := h
      simp only [Bool.and_eq_true] at q
      exact q.2
    have ih := rising_rk r x (fun y hy => hL y (.tail _ hy)) (List.nodup_cons.mp hn).2 h2
    rw [ltCps_eq, rk_lt x (hL x (.tail _ (.head _))) p (hL p (.head _))] at h1
    have h3 : ¬ rk x < rk p := by simpa using h1
    have h4 : rk p ≠ rk x := fun e => by
      have := rk_inj p (hL p (.head _)) x (hL x (.tail _ (.head _))) e
      exact (List.nodup_cons.mp hn).1 (this ▸ .head _)
    have h5 : rk p < rk x := by omega
    rw [List.map_cons, List.pairwise_cons]
    refine ⟨fun y hy => ?_, ih⟩
    rw [List.map_cons] at hy ih
    rcases List.mem_cons.mp hy with rfl | hy
    · exact h5
    · exact Nat.lt_trans h5 ((List.pairwise_cons.mp ih).1 y hy)
theorem sorted_rk {l : List Str} (hL : ∀ x ∈ l, x ∈ LBS) (hn : l.Nodup) (h : sortedS l = true) : (l.map rk).Pairwise (· < ·) := by
  cases l with
  | nil => simp
  | cons p r => exact rising_rk r p hL hn h
theorem sorted_one {l a b : List Str} (hL : ∀ x ∈ l, x ∈ LBS) (hn : l.Nodup) (pa : a.Perm l) (pb : b.Perm l) (ha : sortedS a = true) (hb : sortedS b = true) : a = b :=
  sorted_ext (f := rk) (sorted_rk (fun x hx => hL x (pa.mem_iff.mp hx)) (pa.nodup_iff.mpr hn) ha) (sorted_rk (fun x hx => hL x (pb.mem_iff.mp hx)) (pb.nodup_iff.mpr hn) hb) fun x => (pa.trans pb.symm).mem_iff
theorem take_new {l : List (Str × Nat)} {X : Nat → Addr} {t : Nat} {s : Str} {to : Nat} (hn : (l.map (·.1)).Nodup) (h : l[t]? = some (s, to)) : s ∉ (vals X (fun t => t) (l.take t)).map (·.1) := by
  rw [vals_keys, List.map_take]
  have h' : (l.map (·.1))[t]? = some s := by rw [List.getElem?_map, h]; rfl
  generalize l.map (·.1) = q at hn h'
  obtain ⟨ht, rfl⟩ := List.getElem?_eq_some_iff.mp h'
  intro hm
  obtain ⟨j, hj, e⟩ := List.getElem_of_mem hm
  rw [List.length_take] at hj
  rw [List.getElem_take] at e
  have := (List.getElem_inj hn).mp e
  omega
theorem OwnOff.sub {own nx base : List (Addr × Obj)} (h : OwnOff own (nx.map (·.1))) (hs : ∀ p ∈ base, p ∈ nx) : OwnOff own (base.map (·.1)) := fun p hp b hb => by
  obtain ⟨q, hq, rfl⟩ := List.mem_map.mp hb
  exact h p hp _ (List.mem_map.mpr ⟨q, hs q hq, rfl⟩)
open Classical in
theorem ArcSt.fin {w : World} {T : Tab} {X AX : Nat → Addr} {base nx own : List (Addr × Obj)} {c : Nat → Nat} (S : ArcSt w T X AX (own ++ base) c nx) (h : OwnOff own (base.map (·.1))) : ∃ nf, ArcSt w T X AX base c nf ∧ (∀ p ∈ nf, p ∈ nx) ∧ (∀ p ∈ own, p ∈ nx) ∧ OwnOff own (nf.map (·.1)) := by
  refine ⟨nx.filter fun p => decide (p ∈ base ∨ ∃ k, k < T.n ∧ p.1 = AX k), ⟨fun p hp => ?_, fun p hp => S.off p (List.mem_append_right _ hp), fun k hk => ?_⟩, fun p hp => (List.mem_filter.mp hp).1, fun p hp => S.keep p (List.mem_append_left _ hp), fun p hp b hb => ?_⟩
  · exact List.mem_filter.mpr ⟨S.keep p (List.mem_append_right _ hp), by simp [hp]⟩
  · obtain ⟨o, a, b⟩ := S.arcs k hk
    refine ⟨o, List.mem_filter.mpr ⟨a, ?_⟩, b⟩
    rw [decide_eq_true_eq]
    exact .inr ⟨k, hk, rfl⟩
  · obtain ⟨q, hq, rfl⟩ := List.mem_map.mp hb
    have hq2 := (List.mem_filter.mp hq).2
    rw [decide_eq_true_eq] at hq2
    rcases hq2 with h1 | ⟨k, hk, e⟩
    · exact h p hp _ (List.mem_map.mpr ⟨q, h1, rfl⟩)
    · rw [e]
      exact S.off p (List.mem_append_left _ hp) k hk
section
variable {w : World} {A : Around} {E : Value → Shared → Prop} {s : Shared} {h₀ : Heap} {L : Addr} {m : Str → Option Value} {news : List (Addr × Obj)}
theorem sort_dict {d : Addr} {o : Obj} {kvs : List (Str × Value)} {Q : Value → Shared → Prop} (hh : A.handled = none) (F : Fr h₀ L s.heap m) (N : News h₀ L s.heap news) (lo : (d == sysModules) = false) (hm : (d, o) ∈ news) (hd : o.IsDictOf (PySem.strKind pg w) kvs) (hz : kvs.length < 64)
    (h : ∀ D h' tk vs' ss' e, Fr h₀ L h' m → News h₀ L h' ((D, listOf (List.toArray vs') e) :: news) → (∀ q ∈ news, q.1 < D) → StrsAre vs' ss' → ss'.Perm (kvs.map (·.1)) → sortedS ss' = true → Q (.ref D) { s with heap := h', toks := tk }) :
    wpAny (model pg w) A (call (.builtin "sorted") [.ref d]) Q E s := by
  obtain ⟨ep, hD⟩ := DAt.of hd
  refine kdu_sorted (kdl_dict (knd := PySem.strKind pg w) lo) hh F N (hD.at (N _ hm).1) (by rw [sizeLine_eq]; omega) fun D h' tk vs F' N' l1 hl hv => ?_
  have hshape : ∀ (j : Nat) v, vs[j]? = some v → ∃ k x t, kvs[j]? = some (k, x) ∧ v = .str k t := fun j v e => by
    obtain ⟨k, x, h1, h2⟩ := hv j v e
    obtain ⟨t, rfl⟩ := Value.isStrOf_shape h2
    exact ⟨k, x, t, h1, rfl⟩
  have hS : StrsAre vs (vs.map strOf) := strsAre_map vs fun v hv' => by
    obtain ⟨j, hj⟩ := List.getElem?_of_mem hv'
    obtain ⟨k, x, t, _, e⟩ := hshape j v hj
    exact ⟨k, t, e⟩
  have hss : vs.map strOf = kvs.map (·.1) := by
    apply List.ext_getElem?
    intro j
    rw [List.getElem?_map, List.getElem?_map]
    cases e : vs[j]? with
    | none =>
      have : kvs[j]? = none := by
        rw [List.getElem?_eq_none_iff] at e ⊢
        omega
      rw [this]; rfl
    | some v =>
      obtain ⟨k, x, t, h1, rfl⟩ := hshape j v e
      rw [h1]; rfl
  have z := N' _ (.head _)
  have ho : h'.get? D = some (seqObj "list" vs.toArray 0) := z.1
  refine wpAny_call_entry PyProof.Rows.slot_list_sort ⟨_, z.1, rfl⟩ PyProof.Rows.entry_list_sort (list_sort_treeK strKind_oneLt ho hS.keysOf (fun v₁ v₂ rest e => keyKind_strs (by rw [← e]; exact hS)) (by omega) fun st' hp hs => ⟨.none, rfl, ?_⟩) (PyProof.Rows.args_list_sort _)
  obtain ⟨ss', a1, a2, a3⟩ := sorted_out_str hS hp hs
  obtain ⟨e, he⟩ := sortedHeap_at (out := (arrOf st').map (·.2)) ho
  have F1 : Fr h₀ L (h'.update D (Obj.mapSeq fun _ => (#[] : Array Value))) m := F'.change (Heap.SameBut.update ..) z.2.1 z.2.2
  have F4 : Fr h₀ L (sortedHeap h' D vs ((arrOf st').map (·.2))) m :=
    ((F1.push (seqObj "tuple" vs.toArray 0)).push (seqObj "list" #[] 0)).change (Heap.SameBut.update ..) z.2.1 z.2.2
  refine h D _ tk _ ss' e F4 (fun p hp => ?_) l1 a1 (hss ▸ a2) a3
  rcases List.mem_cons.mp hp with rfl | hp
  · exact ⟨he, z.2.1, z.2.2⟩
  · have y := N' p (.tail _ hp)
    exact ⟨(sortedHeap_old (Nat.ne_of_lt (l1 p hp)) (Heap.lt_size y.1)).trans y.1, y.2⟩
theorem strs_reads {h : Heap} : ∀ {vs : List Value} {ss : List Str}, StrsAre vs ss → ∃ as, ReadsAll h vs (ss.map PyData.str) as
  | _, _, .nil => ⟨_, ReadsAll.nil⟩
  | _, _, .cons x t r => let ⟨_, q⟩ := strs_reads r; ⟨_, ReadsAll.cons (Reads.str _ _) q⟩
theorem strs_lay : ∀ {ss : List Str}, (∀ x ∈ ss, x ∈ LBS) → PyData.canLayAll0 (ss.map PyData.str) = true ∧ PyData.depthAll (ss.map PyData.str) ≤ 1
  | [], _ => ⟨rfl, by simp [PyData.depthAll]⟩
  | x :: ss, h => by
    obtain ⟨a, b⟩ := strs_lay (ss := ss) fun q hq => h q (.tail _ hq)
    have c := lab_ok _ (h x (.head _))
    show PyData.canLayAll0 (.str x :: ss.map PyData.str) = true ∧ PyData.depthAll (.str x :: ss.map PyData.str) ≤ 1
    simp [PyData.canLayAll0, PyData.canLay0, PyData.depthAll, PyData.depth, a, c]
    omega
theorem strs_eqv : ∀ (ss : List Str), PyData.eqvAll (ss.map PyData.str) (ss.map PyData.str) = true
  | [] => rfl
  | x :: ss => by
    show (PyData.eqv (.str x) (.str x) && PyData.eqvAll (ss.map PyData.str) (ss.map PyData.str)) = true
    rw [strs_eqv ss]
    simp [PyData.eqv]
theorem strs_ne {a b : Addr} {vs us : List Value} {ss : List Str} {n k : Nat} {Q : Value → Shared → Prop} (N : News h₀ L s.heap news) (ha : (a, listOf vs.toArray n) ∈ news) (hb : (b, listOf us.toArray k) ∈ news) (x : StrsAre vs ss) (y : StrsAre us ss) (hL : ∀ x ∈ ss, x ∈ LBS)
    (hu : A.units + 64 < cLine) (h : Q (.bool false) s) : wpAny (model pg w) A (compareOp .NotEq (.ref a) (.ref b)) Q E s := by
  obtain ⟨as, q1⟩ := strs_reads (h := s.heap) x
  obtain ⟨bs, q2⟩ := strs_reads (h := s.heap) y
  have l1 := strs_lay hL
  have sh : SeqAt.shaped (.list (ss.map PyData.str)) = true := by
    simp only [SeqAt.shaped, PyData.canLay0, PyData.canLayAll0, PyData.depth, PyData.depthAll, l1.1, Bool.and_true, Bool.true_and]
    have := l1.2
    simp
    omega
  refine ne_dataH (reads_list_at (N _ ha).1 rfl rfl q1) (reads_list_at (N _ hb).1 rfl rfl q2) sh sh hu ?_
  have e : PyData.eqv (.list (ss.map PyData.str)) (.list (ss.map PyData.str)) = true := by
    simp only [PyData.eqv, strs_eqv]
  rw [e]
  exact h
end
theorem dict_cls {w : World} {o : Obj} {kvs : List (Str × Value)} (h : o.IsDictOf (PySem.strKind pg w) kvs) : o.cls = .type "dict" := let ⟨_, _, hc, _⟩ := h; hc.1
theorem dict_cell {w : World} {o : Obj} {kvs : List (Str × Value)} {v : Option Value} (h : o.IsDictOf (PySem.strKind pg w) kvs) : o.data ≠ .cell v := fun e => by
  obtain ⟨es, ep, _, hd, _⟩ := h
  rw [hd] at e
  cases e
/-- the table and the states that were built, none of it an arcs' dict -/
structure Made (w : World) (cN cA cF TL SL : Addr) (n : Nat) (fin : Nat → Bool) (arcs : Nat → List (Str × Nat)) (X DX AX : Nat → Addr) (B : List (Addr × Obj)) : Prop where
  tab : TabIn (tabOf n fin arcs) TL B
  sta : ∃ ns, (SL, listOf (lst X (List.range n)).toArray ns) ∈ B
  st : ∀ k, k < n → IsSt w B (X k) (DX k) (AX k) (fin k)
  cellN : ∃ o t, (cN, o) ∈ B ∧ o.data = Data.cell (some (Value.int (n : Nat) t))
  cellA : ∃ o v, (cA, o) ∈ B ∧ o.data = Data.cell v
  cellF : ∃ o v, (cF, o) ∈ B ∧ o.data = Data.cell v
theorem Made.mono {w : World} {cN cA cF TL SL : Addr} {n : Nat} {fin : Nat → Bool} {arcs : Nat → List (Str × Nat)} {X DX AX : Nat → Addr} {B B' : List (Addr × Obj)} (M : Made w cN cA cF TL SL n fin arcs X DX AX B) (h : ∀ p ∈ B, p ∈ B') : Made w cN cA cF TL SL n fin arcs X DX AX B' := by
  obtain ⟨ns, a⟩ := M.sta
  obtain ⟨o1, t1, b1, b2⟩ := M.cellN
  obtain ⟨o2, t2, c1, c2⟩ := M.cellA
  obtain ⟨o3, t3, d1, d2⟩ := M.cellF
  exact ⟨M.tab.mono h, ⟨ns, h _ a⟩, fun k hk => (M.st k hk).mono h, ⟨o1, t1, h _ b1, b2⟩, ⟨o2, t2, h _ c1, c2⟩, ⟨o3, t3, h _ d1, d2⟩⟩
theorem svs_lst {w : World} {n : Nat} {base : List (Addr × Obj)} {tvs svs : List Value} {fin : Nat → Bool} {arcs : Nat → List (Str × Nat)} {X DX AX : Nat → Addr} (B : Built w n base n tvs svs fin arcs X DX AX) : svs = lst X (List.range n) := by
  apply List.ext_getElem?
  intro j
  unfold lst
  rw [List.getElem?_map]
  by_cases h : j < n
  · rw [(B.st j h).1, List.getElem?_range h]; rfl
  · rw [List.getElem?_eq_none (by rw [B.sl]; omega), List.getElem?_eq_none (by simp; omega)]; rfl
open Classical in
theorem enter2 {w : World} {cC cN cA cF ca sl lb en TL SL : Addr} {ws : List Value} {n m : Nat} {base nx : List (Addr × Obj)} {tvs svs : List Value} {fin : Nat → Bool} {arcs : Nat → List (Str × Nat)} {X DX AX : Nat → Addr} {h₀ h : Heap} {L : Addr}
    (Ls : LoopSt w cC cN cA cF ca sl lb en TL SL ws n m n base nx tvs svs fin arcs X DX AX) (N : News h₀ L h nx) :
    ∃ B2, ArcSt w (tabOf n fin arcs) X AX B2 (fun _ => 0) nx ∧ Made w cN cA cF TL SL n fin arcs X DX AX B2 := by
  have hAX : ∀ k, k < n → ∃ o, (AX k, o) ∈ nx ∧ o.IsDictOf (PySem.strKind pg w) [] := fun k hk => let ⟨_, _, o, a, b⟩ := Ls.bt.st k hk; ⟨o, Ls.bs.keep _ a, b⟩
  obtain ⟨B2, hB2⟩ : ∃ B, B = nx.filter fun p => decide (∀ k, k < n → p.1 ≠ AX k) := ⟨_, rfl⟩
  have inB : ∀ p ∈ nx, (∀ k, k < n → p.1 ≠ AX k) → p ∈ B2 := fun p hp h => by rw [hB2]; exact List.mem_filter.mpr ⟨hp, by rw [decide_eq_true_eq]; exact h⟩
  have inC : ∀ p ∈ nx, p.2.cls ≠ .type "dict" → p ∈ B2 := fun p hp h => inB p hp fun k hk e => by
    obtain ⟨o, a, b⟩ := hAX k hk
    have q : p.2 = o := Option.some.inj ((N p hp).1.symm.trans (by rw [e]; exact (N _ a).1))
    exact h (by rw [q]; exact dict_cls b)
  have inD : ∀ p ∈ nx, (∃ v, p.2.data = .cell v) → p ∈ B2 := fun p hp ⟨v, hv⟩ => inB p hp fun k hk e => by
    obtain ⟨o, a, b⟩ := hAX k hk
    have q : p.2 = o := Option.some.inj ((N p hp).1.symm.trans (by rw [e]; exact (N _ a).1))
    exact dict_cell b (by rw [← q]; exact hv)
  have kB := Ls.bs.keep
  obtain ⟨nt, hTL⟩ := Ls.tab
  obtain ⟨nS, hSL⟩ := Ls.sta
  obtain ⟨oA, vA, hA, dA⟩ := Ls.cA'
  obtain ⟨oF, vF, hF, dF⟩ := Ls.cF'
  obtain ⟨on, tn, hcN, dcN⟩ := Ls.lb.cellN
  have nl : ∀ (vs : List Value) (k : Nat), (listOf vs.toArray k).cls ≠ Value.type "dict" := fun _ _ x => absurd (Value.type.inj x) (by decide)
  have ntp : ∀ (vs : List Value) (k : Nat), (tupN vs k).cls ≠ Value.type "dict" := fun _ _ x => absurd (Value.type.inj x) (by decide)
  have nin : ∀ (c d : Addr), (instObj c d).cls ≠ Value.type "dict" := fun _ _ x => by cases x
  refine ⟨B2, ⟨fun p hp => ?_, fun p hp => ?_, fun k hk => ?_⟩, ⟨⟨tvs, nt, inC _ hTL (nl _ _), Ls.bt.tl, fun k hk => ?_⟩, ⟨nS, ?_⟩, fun k hk => ?_, ⟨on, tn, inD _ (kB _ hcN) ⟨_, dcN⟩, dcN⟩, ⟨oA, vA, inD _ hA ⟨_, dA⟩, dA⟩, ⟨oF, vF, inD _ hF ⟨_, dF⟩, dF⟩⟩⟩
  · rw [hB2] at hp; exact (List.mem_filter.mp hp).1
  · rw [hB2] at hp
    have q := (List.mem_filter.mp hp).2
    rw [decide_eq_true_eq] at q
    exact q
  · obtain ⟨o, a, b⟩ := hAX k hk
    exact ⟨o, a, by simpa [vals] using b⟩
  · obtain ⟨v, h1, a, m', r, n', rs, rfl, h2, h3, h4⟩ := Ls.bt.row k hk
    refine ⟨a, m', r, n', rs, h1, inC _ (kB _ h2) (ntp _ _), inC _ (kB _ h3) (nl _ _), h4.len, fun i l t e => ?_⟩
    obtain ⟨b, nn, tl, ti, x, y⟩ := h4.at' i l t e
    exact ⟨b, nn, tl, ti, x, inC _ (kB _ y) (ntp _ _)⟩
  · rw [← svs_lst Ls.bt]
    exact inC _ hSL (nl _ _)
  · obtain ⟨_, hs, _⟩ := Ls.bt.st k hk
    obtain ⟨a, b, c, d, e, f, g, i, j, q, hm⟩ := hs.dict
    exact ⟨inC _ (kB _ hs.inst) (nin _ _), ⟨a, b, c, d, e, f, g, i, j, q, inB _ (kB _ hm) fun l hl => Ls.bt.ap.da k l hk hl⟩, hs.low⟩
theorem sl_start {w : World} {cN cA cF TL SLa : Addr} {n : Nat} {fin : Nat → Bool} {arcs : Nat → List (Str × Nat)} {X DX AX : Nat → Addr} {B nx3 nx4 : List (Addr × Obj)}
    (_O : (tabOf n fin arcs).Ok) (Sb : ArcSt w (tabOf n fin arcs) X AX B (fun j => if j < n then (arcs j).length else 0) nx3) (hs : ∀ p ∈ nx3, p ∈ nx4) (M : Made w cN cA cF TL SLa n fin arcs X DX AX nx4) (D : Addr) (o : Obj) :
    SL w (tabOf n fin arcs) X DX AX D ((D, o) :: nx4) (fun _ => True) (fun _ t => t) ((D, o) :: nx4) := by
  refine ⟨fun k hk => (M.st k hk).mono fun p hp => .tail _ hp, fun k hk _ => ?_, fun p hp _ _ => hp⟩
  obtain ⟨o, a, b⟩ := Sb.arcs k hk
  refine ⟨o, .tail _ (hs _ a), ?_⟩
  have hk' : k < n := hk
  rw [if_pos hk'] at b
  rw [List.take_of_length_le (by exact Nat.le_refl _)] at b
  exact b
theorem Made.cell {w : World} {cN cA cF TL SLa c : Addr} {n : Nat} {fin : Nat → Bool} {arcs : Nat → List (Str × Nat)} {X DX AX : Nat → Addr} {nx nx' : List (Addr × Obj)} {h₀ h : Heap} {L : Addr} {oc o' : Obj} {v0 v : Option Value}
    (M : Made w cN cA cF TL SLa n fin arcs X DX AX nx) (N : News h₀ L h nx) (hc : (c, oc) ∈ nx) (hd : oc.data = .cell v0) (C : Chg c o' nx nx') (hd' : o'.data = .cell v) (hN : cN ≠ c) : Made w cN cA cF TL SLa n fin arcs X DX AX nx' := by
  have k : ∀ p ∈ nx, (∀ v, p.2.data ≠ .cell v) → p ∈ nx' := fun p hp hv => C.keep p hp fun e => by
    have q : p.2 = oc := Option.some.inj ((N p hp).1.symm.trans (by rw [e]; exact (N _ hc).1))
    exact hv v0 (by rw [q]; exact hd)
  obtain ⟨ns, a⟩ := M.sta
  obtain ⟨o1, t1, b1, b2⟩ := M.cellN
  obtain ⟨o2, t2, c1, c2⟩ := M.cellA
  obtain ⟨o3, t3, d1, d2⟩ := M.cellF
  obtain ⟨vs, nn, e1, e2, e3⟩ := M.tab.list
  refine ⟨⟨vs, nn, k _ e1 (fun v x => by cases x), e2, fun j hj => ?_⟩, ⟨ns, k _ a (fun v x => by cases x)⟩, fun j hj => ?_, ⟨o1, t1, C.keep _ b1 hN, b2⟩, ?_, ?_⟩
  · obtain ⟨a, m, r, n', rs, f1, f2, f3, f4⟩ := e3 j hj
    refine ⟨a, m, r, n', rs, f1, k _ f2 (fun v x => by cases x), k _ f3 (fun v x => by cases x), f4.len, fun i l t e => ?_⟩
    obtain ⟨b, nn, tl, ti, x, y⟩ := f4.at' i l t e
    exact ⟨b, nn, tl, ti, x, k _ y (fun v x => by cases x)⟩
  · have s := M.st j hj
    obtain ⟨a, b, c, d, e, f, g, i, j, q, hm⟩ := s.dict
    exact ⟨k _ s.inst (fun v x => by cases x), ⟨a, b, c, d, e, f, g, i, j, q, k _ hm (fun v x => by cases x)⟩, s.low⟩
  · by_cases e : cA = c
    · exact ⟨o', v, e ▸ C.here, hd'⟩
    · exact ⟨o2, t2, C.keep _ c1 e, c2⟩
  · by_cases e : cF = c
    · exact ⟨o', v, e ▸ C.here, hd'⟩
    · exact ⟨o3, t3, C.keep _ d1 e, d2⟩
/-- a list of these numbers -/
structure IntL (vs : List Value) (l : List Nat) : Prop where
  len : vs.length = l.length
  at' : ∀ (i : Nat) x, l[i]? = some x → ∃ t, vs[i]? = some (Value.int (x : Nat) t)
theorem IntL.nil : IntL [] [] := ⟨rfl, fun i x e => by simp at e⟩
theorem IntL.snoc {vs : List Value} {l : List Nat} {x : Nat} {t : Tok} (h : IntL vs l) : IntL (vs ++ [.int (x : Nat) t]) (l ++ [x]) := by
  refine ⟨by simp [h.len], fun i y e => ?_⟩
  by_cases hi : i < l.length
  · rw [List.getElem?_append_left hi] at e
    obtain ⟨t, ht⟩ := h.at' i y e
    exact ⟨t, by rw [List.getElem?_append_left (by rw [h.len]; exact hi)]; exact ht⟩
  · have hl := (List.getElem?_eq_some_iff.mp e).1
    simp at hl
    have : i = l.length := by omega
    subst this
    simp at e
    subst e
    exact ⟨t, by rw [← h.len]; simp⟩
theorem IntL.lit {vs : List Value} {l : List Nat} {i x : Nat} (h : IntL vs l) (e : l[i]? = some x) (hi : i < 2 ^ 62) : ∃ t, LIt vs (i : Int) (.int (x : Nat) t) := let ⟨t, ht⟩ := h.at' i x e; ⟨t, i, rfl, ht, hi⟩
theorem alive_step (R : Nat → Nat) (i : Nat) : alive (i + 1) R = if R i = i then alive i R ++ [i] else alive i R := by
  unfold alive
  rw [List.range_succ, List.filter_append]
  by_cases e : R i = i
  · simp [e]
  · simp [e]
theorem alive_congr {n : Nat} {R S : Nat → Nat} (h : ∀ k, k < n → R k = S k) : alive n R = alive n S := by
  unfold alive
  apply List.filter_congr
  intro k hk
  rw [h k (List.mem_range.mp hk)]
theorem NumsAt.congr {vs : List Value} {n : Nat} {R S : Nat → Nat} (h : NumsAt vs n R) (e : ∀ k, k < n → R k = S k) : NumsAt vs n S := ⟨h.len, fun k hk => by rw [← e k hk]; exact h.at' k hk⟩
/-- all that the last loop reads -/
structure Fin2 (w : World) (cF TL SLa D fL lf : Addr) (n : Nat) (fin : Nat → Bool) (arcs : Nat → List (Str × Nat)) (X DX AX : Nat → Addr) (R : Nat → Nat) (B : List (Addr × Obj)) : Prop where
  tab : TabIn (tabOf n fin arcs) TL B
  sta : ∃ ns, (SLa, listOf (lst X (List.range n)).toArray ns) ∈ B
  st : ∀ k, k < n → IsSt w B (X k) (DX k) (AX k) (fin k)
  arcs : ∀ k, k < n → R k = k → ∃ o, (AX k, o) ∈ B ∧ o.IsDictOf (PySem.strKind pg w) (vals X R (arcs k))
  list : ∃ ep, (D, listOf (lst X (alive n R)).toArray ep) ∈ B
  first : ∃ fs e, (fL, listOf (List.toArray fs) e) ∈ B ∧ NumsAt fs n R
  left : ∃ ls e, (lf, listOf (List.toArray ls) e) ∈ B ∧ IntL ls (alive n R)
  cellF : ∃ o, (cF, o) ∈ B ∧ o.data = Data.cell (some (Value.ref fL))
/-- the arc's label in the rep's dict -/
theorem vals_label {X : Nat → Addr} {R : Nat → Nat} {l : List (Str × Nat)} (hn : (l.map (·.1)).Nodup) {s : Str} {t : Nat} (h : (s, t) ∈ l) : valueAt (vals X R l) s = some (.ref (X (R t))) := by
  rw [vals_at, alk_of hn h]
  rfl
theorem isNot_same {M : Model} {A : Around} {E : Value → Shared → Prop} {s : Shared} {a : Addr} {Q : Value → Shared → Prop} (h : Q (.bool false) s) : wpAny M A (compareOp .IsNot (.ref a) (.ref a)) Q E s := wpAny_isNot_ref_self h
theorem ne_bool_same {prog : Program} {w : World} {A : Around} {E : Value → Shared → Prop} {s : Shared} {b : Bool} {Q : Value → Shared → Prop} (h : Q (.bool false) s) : wpAny (model prog w) A (compareOp .NotEq (.bool b) (.bool b)) Q E s := ne_bool (by simpa using h)
theorem strs_snoc : ∀ {vs : List Value} {ss : List Str} {l : Str} {t : Tok}, StrsAre vs ss → StrsAre (vs ++ [.str l t]) (ss ++ [l])
  | _, _, _, _, .nil => .cons _ _ .nil
  | _, _, _, _, .cons x t r => .cons x t (strs_snoc r)
open Classical in
theorem enter3 {w : World} {cN cA cF TL SLa D fL lf : Addr} {n : Nat} {fin : Nat → Bool} {arcs : Nat → List (Str × Nat)} {X DX AX : Nat → Addr} {R : Nat → Nat} {nx : List (Addr × Obj)} {h₀ h : Heap} {L : Addr}
    (M : Made w cN cA cF TL SLa n fin arcs X DX AX nx) (N : News h₀ L h nx) (hAF : cF ≠ cA)
    (ha : ∀ k, k < n → R k = k → ∃ o, (AX k, o) ∈ nx ∧ o.IsDictOf (PySem.strKind pg w) (vals X R (arcs k)))
    (hl : ∃ ep, (D, listOf (lst X (alive n R)).toArray ep) ∈ nx) (hf : ∃ fs e, (fL, listOf (List.toArray fs) e) ∈ nx ∧ NumsAt fs n R) (hlf : ∃ ls e, (lf, listOf (List.toArray ls) e) ∈ nx ∧ IntL ls (alive n R))
    (hcF : ∃ o, (cF, o) ∈ nx ∧ o.data = Data.cell (some (Value.ref fL))) :
    ∃ B, Fin2 w cF TL SLa D fL lf n fin arcs X DX AX R B ∧ Bs [cA] B nx := by
  obtain ⟨o2, v2, c1, c2⟩ := M.cellA
  obtain ⟨B, hB⟩ : ∃ B, B = nx.filter fun p => decide (p.1 ≠ cA) := ⟨_, rfl⟩
  have inB : ∀ p ∈ nx, p.1 ≠ cA → p ∈ B := fun p hp h => by rw [hB]; exact List.mem_filter.mpr ⟨hp, by rw [decide_eq_true_eq]; exact h⟩
  have k : ∀ p ∈ nx, (∀ v, p.2.data ≠ .cell v) → p ∈ B := fun p hp hv => inB p hp fun e => by
    have q : p.2 = o2 := Option.some.inj ((N p hp).1.symm.trans (by rw [e]; exact (N _ c1).1))
    exact hv v2 (by rw [q]; exact c2)
  have kl : ∀ (a : Addr) (vs : List Value) (e : Nat), (a, listOf vs.toArray e) ∈ nx → (a, listOf vs.toArray e) ∈ B := fun a vs e h => k _ h (fun v x => by cases x)
  obtain ⟨ns, a⟩ := M.sta
  obtain ⟨vs, nn, e1, e2, e3⟩ := M.tab.list
  obtain ⟨ep, l1⟩ := hl
  obtain ⟨fs, e, f1, f2⟩ := hf
  obtain ⟨ls, e', g1, g2⟩ := hlf
  obtain ⟨oF, q1, q2⟩ := hcF
  refine ⟨B, ⟨⟨vs, nn, kl _ _ _ e1, e2, fun j hj => ?_⟩, ⟨ns, kl _ _ _ a⟩, fun j hj => ?_, fun j hj hR => ?_, ⟨ep, kl _ _ _ l1⟩, ⟨fs, e, kl _ _ _ f1, f2⟩, ⟨ls, e', kl _ _ _ g1, g2⟩, ⟨oF, inB _ q1 hAF, q2⟩⟩, ⟨fun p hp => ?_, fun p hp => ?_, fun b hb => ?_⟩⟩
  · obtain ⟨a, m, r, n', rs, f1, f2, f3, f4⟩ := e3 j hj
    refine ⟨a, m, r, n', rs, f1, k _ f2 (fun v x => by cases x), k _ f3 (fun v x => by cases x), f4.len, fun i l t e => ?_⟩
    obtain ⟨b, nn, tl, ti, x, y⟩ := f4.at' i l t e
    exact ⟨b, nn, tl, ti, x, k _ y (fun v x => by cases x)⟩
  · have s := M.st j hj
    obtain ⟨a, b, c, d, e, f, g, i, j, q, hm⟩ := s.dict
    exact ⟨k _ s.inst (fun v x => by cases x), ⟨a, b, c, d, e, f, g, i, j, q, k _ hm (fun v x => by cases x)⟩, s.low⟩
  · obtain ⟨o, h1, h2⟩ := ha j hj hR
    exact ⟨o, k _ h1 (fun v x => dict_cell h2 x), h2⟩
  · rw [hB] at hp; exact (List.mem_filter.mp hp).1
  · rw [hB] at hp
    have q := (List.mem_filter.mp hp).2
    rw [decide_eq_true_eq] at q
    rw [List.mem_singleton]
    exact q
  · rw [List.mem_singleton.mp hb]; exact ⟨o2, c1⟩
theorem six_of {h₀ h : Heap} {L : Addr} {p1 p2 p3 p4 p5 p6 : Addr × Obj} (_N : News h₀ L h [p1, p2, p3, p4, p5, p6]) : ∃ K, [p1, p2, p3, p4, p5, p6] = K ∧ p1 ∈ K ∧ p2 ∈ K ∧ p3 ∈ K ∧ p4 ∈ K ∧ p5 ∈ K ∧ p6 ∈ K :=
  ⟨_, rfl, .head _, .tail _ (.head _), .tail _ (.tail _ (.head _)), .tail _ (.tail _ (.tail _ (.head _))), .tail _ (.tail _ (.tail _ (.tail _ (.head _)))), .tail _ (.tail _ (.tail _ (.tail _ (.tail _ (.head _)))))⟩
theorem slice_to (vs : List Value) (k : Nat) : slicePick vs.toArray none (some ((k : Nat) : Int)) none = (vs.take k).toArray := by
  have e : sliceBounds none (some ((k : Nat) : Int)) none vs.toArray.size = (((0 : Nat) : Int), ((min k vs.toArray.size : Nat) : Int), 1) := by
    simp only [sliceBounds, Option.getD_none, show (1 : Int) > 0 by decide, if_true, if_neg (show ¬ (((k : Nat) : Int) < 0) by omega)]
    congr 1
    congr 1
    omega
  rw [kmk_pick_nat _ e]
  simp only [List.drop_zero, Nat.sub_zero, List.size_toArray, kmk_take_min]
theorem name2 {h₀ h : Heap} {L a b : Addr} {oa ob : Obj} {l : List (Addr × Obj)} (_N : News h₀ L h ((a, oa) :: (b, ob) :: l)) : ∃ x y : Addr, x = a ∧ y = b := ⟨_, _, rfl, rfl⟩
theorem nameI {vs : List Value} {ns : List Int} (_h : IntsAre vs ns) : ∃ ws : List Value, ws = vs := ⟨_, rfl⟩
/-- what stays through a turn, only the draw changed -/
theorem bs_one {ca TL SL cA cF : Addr} {base nx : List (Addr × Obj)} {oT oS oA oF : Obj} (B : Bs [ca, TL, SL, cA, cF] base nx) (h2 : (TL, oT) ∈ nx) (h3 : (SL, oS) ∈ nx) (h4 : (cA, oA) ∈ nx) (h5 : (cF, oF) ∈ nx) (n2 : TL ≠ ca) (n3 : SL ≠ ca) (n4 : cA ≠ ca) (n5 : cF ≠ ca) :
    Bs [ca] ((TL, oT) :: (SL, oS) :: (cA, oA) :: (cF, oF) :: base) nx := by
  refine ⟨fun p hp => ?_, fun p hp => ?_, fun a ha => B.chm a (by rw [List.mem_singleton.mp ha]; exact .head _)⟩
  · simp only [List.mem_cons] at hp
    rcases hp with rfl | rfl | rfl | rfl | hp
    · exact h2
    · exact h3
    · exact h4
    · exact h5
    · exact B.keep p hp
  · simp only [List.mem_cons] at hp
    rw [List.mem_singleton]
    rcases hp with rfl | rfl | rfl | rfl | hp
    · exact n2
    · exact n3
    · exact n4
    · exact n5
    · exact fun e => B.off p hp (by rw [e]; exact .head _)
theorem RowAt.chg {h₀ h : Heap} {L a : Addr} {o' : Obj} {its : Array Value} {n : Nat} {nx nx' : List (Addr × Obj)} {vs : List Value} {S : List (Str × Nat)} (R : RowAt nx vs S) (N : News h₀ L h nx) (hm : (a, listOf its n) ∈ nx) (C : Chg a o' nx nx') : RowAt nx' vs S :=
  ⟨R.len, fun i l t e => let ⟨b, n, tl, ti, x, y⟩ := R.at' i l t e; ⟨b, n, tl, ti, x, C.keep _ y (cls_ne N y hm (by intro x; exact absurd (Value.type.inj x) (by decide)))⟩⟩
theorem cend_new {h₀ : Heap} {L D : Addr} {o : Obj} {m : Str → Option Value} {J : List (Addr × Obj) → Prop} {own nx2 nx10 : List (Addr × Obj)} {s₁ : Shared} {h' : Heap} {tk : Nat} (F : Fr h₀ L h' m) (N : News h₀ L h' ((D, o) :: nx10))
    (hl : ∀ p ∈ nx10, p.1 < D) (hs : ∀ p ∈ nx2, p ∈ nx10) (ho : ∀ p ∈ own, p ∈ nx10) (hof : OwnOff own (nx2.map (·.1))) (hj : J ((D, o) :: nx2)) : CEnd h₀ L m J own s₁ { s₁ with heap := h', toks := tk } := by
  refine CEnd.intro ((D, o) :: nx2) F N (fun p hp => ?_) (fun p hp => .tail _ (ho p hp)) (fun p hp b hb => ?_) hj
  · rcases List.mem_cons.mp hp with rfl | hp
    · exact .head _
    · exact .tail _ (hs p hp)
  · rcases List.mem_cons.mp hb with rfl | hb
    · exact Nat.ne_of_lt (hl p (ho p hp))
    · exact hof p hp b hb
theorem tests_one {M : Model} {A : Around} {E : Value → Shared → Prop} {s : Shared} {c : PySem.Expr} {env : Env} {Q : Bool → Shared → Prop} (h : wpAny M A (isTrue c env (eval c env)) Q E s) : wpAny M A (testsOf [c] env) Q E s := by
  unfold testsOf
  rw [List.forIn_cons]
  refine wpAny_bind ?_
  rw [if_pos rfl]
  refine wpAny_bind (wpAny_mono h (fun ok s' hk => wpAny_pure ?_) fun _ _ e => e)
  show wpAny M A (forIn [] ok _) Q E s'
  rw [List.forIn_nil]
  exact wpAny_pure hk
theorem RowAt.lit {l : List (Addr × Obj)} {vs : List Value} {S : List (Str × Nat)} (R : RowAt l vs S) {i : Nat} {v : Value} (h : vs[i]? = some v) : ∃ a n tl ti s t, S[i]? = some (s, t) ∧ v = .ref a ∧ (a, tupN [Value.str s tl, Value.int (t : Nat) ti] n) ∈ l := by
  have hi : i < S.length := by rw [← R.len]; exact (List.getElem?_eq_some_iff.mp h).1
  obtain ⟨a, n, tl, ti, h1, h2⟩ := R.at' i S[i].1 S[i].2 (List.getElem?_eq_getElem hi)
  rw [h] at h1
  exact ⟨a, n, tl, ti, _, _, List.getElem?_eq_getElem hi, Option.some.inj h1, h2⟩
abbrev JW1 (w : World) (lo : Nat) (ca sl lb en TL SL : Addr) (ws : List Value) (v v2 : Nat) : Nat → (Str → Option Value) → List (Addr × Obj) → Prop :=
  fun k m nx => ∃ base tvs svs fin arcs X DX AX, LoopSt w (lo + 1) (lo + 1 + 1) (lo + 1 + 1 + 1) (lo + 1 + 1 + 1 + 1) ca sl lb en TL SL ws (2 + v) (1 + v2) k base nx tvs svs fin arcs X DX AX ∧
    Bnd m [(Str.ofString "labels", Value.ref lb), (Str.ofString "end", Value.ref en), (Str.ofString "table", Value.ref TL), (Str.ofString "states", Value.ref SL)]
abbrev JW2 (w : World) (n : Nat) (fin : Nat → Bool) (arcs : Nat → List (Str × Nat)) (X AX : Nat → Addr) (B2 : List (Addr × Obj)) (TL SL : Addr) : Nat → (Str → Option Value) → List (Addr × Obj) → Prop :=
  fun k m nx' => ArcSt w (tabOf n fin arcs) X AX B2 (fun j => if j < k then (arcs j).length else 0) nx' ∧
      Bnd m [(Str.ofString "table", Value.ref TL), (Str.ofString "states", Value.ref SL)]
abbrev JW3 (w : World) (n : Nat) (fin : Nat → Bool) (arcs : Nat → List (Str × Nat)) (X AX : Nat → Addr) (B2 : List (Addr × Obj)) (TL SL : Addr) (k : Nat) (tk0 : Tok) : Nat → (Str → Option Value) → List (Addr × Obj) → Prop :=
  fun t m nx2 => ArcSt w (tabOf n fin arcs) X AX B2 (fun j => if j < k then (arcs j).length else if j = k then t else 0) nx2 ∧
        Bnd m [(Str.ofString "table", Value.ref TL), (Str.ofString "states", Value.ref SL), (Str.ofString "k", Value.int (k : Nat) tk0)]
abbrev JW4 (lo : Nat) (B6 : List (Addr × Obj)) (SL lf TL D : Addr) : Nat → (Str → Option Value) → List (Addr × Obj) → Prop :=
  fun _ m nx => Bs [lo + 1 + 1 + 1] B6 nx ∧ (∃ o v, (lo + 1 + 1 + 1, o) ∈ nx ∧ o.data = Data.cell v) ∧
            Bnd m [(Str.ofString "states", Value.ref SL), (Str.ofString "left", Value.ref lf), (Str.ofString "table", Value.ref TL), (Str.ofString "made", Value.ref D)]
abbrev JW5 (K7 : List (Addr × Obj)) (xx SL lf TL D : Addr) : Nat → (Str → Option Value) → List (Addr × Obj) → Prop :=
  fun _ m nx => (∀ p ∈ K7, p ∈ nx) ∧ Bnd m [(Str.ofString "state", Value.ref xx), (Str.ofString "states", Value.ref SL), (Str.ofString "left", Value.ref lf), (Str.ofString "table", Value.ref TL), (Str.ofString "made", Value.ref D)]
theorem lt5 {a b c d e f : Nat} (h : a < b ∧ c < b ∧ d < b ∧ e < b ∧ f < b) : a < b ∧ c < b ∧ d < b ∧ e < b ∧ f < b := h
theorem lt4 {a b c d e : Nat} (h : a < b ∧ c < b ∧ d < b ∧ e < b) : a < b ∧ c < b ∧ d < b ∧ e < b := h
theorem tk_small {i k n : Nat} (hk : k < n) (hn : n ≤ 7) (hi : i ≤ 2 + 4 * k) : i ≤ 1000 := by omega
theorem tk_small3 {i j k n : Nat} (hk : k < n) (hn : n ≤ 7) (hi : i ≤ 2 + 4 * k) (hj : j < 3) : i + 1 + j ≤ 1000 := by omega
theorem tk_next {i k l : Nat} (hi : i ≤ 2 + 4 * k) (hl : l ≤ 3) : i + 1 + l ≤ 2 + 4 * (k + 1) := by omega
theorem one_le_n (n : Nat) : 1 ≤ (n : Int) + 1 := by omega
theorem lbs_le (m : Nat) : (LBS.take m).length ≤ 3 := by rw [List.length_take]; exact Nat.min_le_right _ _
theorem lbs3 {vs : List Value} {m : Nat} (h : StrsAt vs (LBS.take m)) : vs.length ≤ 3 := by rw [h.len]; exact lbs_le m
theorem lbs_lt {m j : Nat} {l : Str} (h : (LBS.take m)[j]? = some l) : j < 3 := Nat.lt_of_lt_of_le (List.getElem?_eq_some_iff.mp h).1 (lbs_le m)
theorem map_len3 {S : List (Str × Nat)} {m : Nat} (h : S.map (·.1) = LBS.take m) : S.length ≤ 3 := by
  have q := congrArg List.length h
  rw [List.length_map] at q
  rw [q]
  exact lbs_le m
theorem rev_lt {n i : Nat} (h : i < n) : n - 1 - i < n := by omega
theorem rev_small {n i : Nat} (h : n ≤ 1000) : n - 1 - i < 2 ^ 62 := by omega
theorem rev_cast {n i : Nat} (h : i < n) : (n : Int) - 1 - (0 + (i : Int)) = ((n - 1 - i : Nat) : Int) := by omega
theorem vtake_small {X : Nat → Addr} {R : Nat → Nat} {l : List (Str × Nat)} {t : Nat} (h : l.length ≤ 3) : (vals X R (l.take t)).length ≤ 1000 := by
  rw [vals, List.length_map, List.length_take]
  omega
theorem vals_small {X : Nat → Addr} {R : Nat → Nat} {l : List (Str × Nat)} (h : l.length ≤ 3) : (vals X R l).length < 64 := by
  rw [vals, List.length_map]
  omega
theorem lst_small {X : Nat → Addr} {n : Nat} (h : n ≤ 1000) : (lst X (List.range n)).length ≤ 1000 := by
  rw [lst, List.length_map, List.length_range]
  exact h
local macro_rules | `(tactic| walk_at "call ref") => `(tactic| (refine PStop.out ?_))
local macro_rules | `(tactic| walk_at "subscriptTail List Slice ref ref") => `(tactic| (refine PStop.out ?_))
local macro_rules | `(tactic| walk_at "subscriptTail List") => `(tactic| ((with_reducible show wpAny _ _ (subscriptTail _ (PySem.Expr.Slice _ _ none _) (Value.ref _) (Value.ref _)) _ _ _); refine PStop.out ?_))
local macro_rules | `(tactic| walk_at "eval Name") => `(tactic| ((with_reducible show wpAny _ _ (eval (Expr.Name _ _) (compEnvC _ _ _ _)) _ _ _); (with_reducible rename Fr _ _ _ _ => kF); k_dflt (refine' blk_B kF ?k1 ?k2 ?k3 ?k4 ?k5 ?_ rfl rfl rfl rfl; (case k1 => k_asm); (case k2 => k_asm); (case k3 => k_is); (case k4 => boot_by_name); (case k5 => decide); k_whole)))
local macro_rules | `(tactic| walk_at "eval Name") => `(tactic| ((with_reducible show wpAny _ _ (eval (Expr.Name _ _) (compEnvC _ _ _ _)) _ _ _); (with_reducible rename Fr _ _ _ _ => kF); k_dflt (refine' blk_K kF ?k1 ?k2 ?k3 ?_ rfl rfl rfl; (case k1 => k_asm); (case k2 => k_asm); (case k3 => k_is); k_whole)))
local macro_rules | `(tactic| walk_at "eval Name") => `(tactic| ((with_reducible show wpAny _ _ (eval (Expr.Name _ _) (compEnvC _ _ _ _)) _ _ _); first | (refine blk_local (by assumption) (by assumption) ?_ rfl rfl) | (refine blk_cell (by assumption) rfl (by assumption) (by assumption) ?_ rfl rfl)))
local macro_rules | `(tactic| walk_at "eval IfExp") => `(tactic| (refine PStop.out ?_))
local macro_rules | `(tactic| walk_at "call builtin:list.append") => `(tactic| (k_here; (with_reducible show wpAny _ _ (call (Value.builtin "list.append") [Value.ref _, _]) _ _ _); k_dflt (refine st_append (by k_asm) (by k_asm) (by k_mem) (by assumption) ?_); intro h' nx' F' N' C'; refine PStop.out ?_))
local macro_rules | `(tactic| walk_at "MidP") => `(tactic| (refine PStop.out ?_))
local macro_rules | `(tactic| walk_at "exec For Tuple Subscript cons nil") => `(tactic| (k_here; (rename Fr _ _ _ _ => lF'); (with_unfolding_all refine' For_turns lF' ?_)))
local macro_rules | `(tactic| walk_at "compareOp NotEq ref ref") => `(tactic| (refine PStop.out ?_))
local macro_rules | `(tactic| walk_at "exec For Tuple Name cons nil") => `(tactic| (k_here; (rename Fr _ _ _ _ => lF'); (with_unfolding_all refine' For_turns lF' ?_)))
local macro_rules | `(tactic| walk_at "compareOp IsNot ref ref") => `(tactic| (k_here; (with_reducible show wpAny _ _ (compareOp .IsNot (.ref (_ : Addr)) (.ref (_ : Addr))) _ _ _); k_dflt (refine isNot_same ?_)))
local macro_rules | `(tactic| walk_at "compareOp NotEq bool bool") => `(tactic| (k_here; k_dflt (refine ne_bool_same ?_)))
local macro_rules | `(tactic| walk_at "subscriptTail") => `(tactic| (k_here; (with_reducible show wpAny _ _ (subscriptTail _ _ (Value.ref _) (Value.str _ _)) _ _ _); refine PStop.out ?_))
set_option maxRecDepth 100000 in
set_option maxHeartbeats 8000000 in
theorem cw : PySem.Challenge.rw_iv0022_01.Holds := by
  refine Mine.hd ?_
  k_go0
  all_goals try k_fold
  k_steps
  rename IntsAre _ _ => hI
  rename (List.length (List.take 30 _) = _) => hC
  rename News _ _ _ _ => N1
  rename World => w
  rename Shared => s1
  obtain ⟨ws, hws⟩ := nameI hI
  subst hws
  obtain ⟨ca, sl, hca, hsl⟩ := name2 N1
  subst hca hsl
  obtain ⟨f0, f4, f3, f2, f1⟩ : @LT.lt Nat _ sl ca ∧ @LT.lt Nat _ (s1.heap.objs.size + 1 + 1 + 1 + 1) ca ∧ @LT.lt Nat _ (s1.heap.objs.size + 1 + 1 + 1) ca ∧ @LT.lt Nat _ (s1.heap.objs.size + 1 + 1) ca ∧ @LT.lt Nat _ (s1.heap.objs.size + 1) ca := lt5 (by assumption)
  obtain ⟨g4, g3, g2, g1⟩ : @LT.lt Nat _ (s1.heap.objs.size + 1 + 1 + 1 + 1) sl ∧ @LT.lt Nat _ (s1.heap.objs.size + 1 + 1 + 1) sl ∧ @LT.lt Nat _ (s1.heap.objs.size + 1 + 1) sl ∧ @LT.lt Nat _ (s1.heap.objs.size + 1) sl := lt4 (by assumption)
  have a12 : @LT.lt Nat _ (s1.heap.objs.size + 1) (s1.heap.objs.size + 1 + 1) := Nat.lt_succ_self _
  have a23 : @LT.lt Nat _ (s1.heap.objs.size + 1 + 1) (s1.heap.objs.size + 1 + 1 + 1) := Nat.lt_succ_self _
  have a34 : @LT.lt Nat _ (s1.heap.objs.size + 1 + 1 + 1) (s1.heap.objs.size + 1 + 1 + 1 + 1) := Nat.lt_succ_self _
  have a13 := Nat.lt_trans a12 a23
  have a24 := Nat.lt_trans a23 a34
  have a14 := Nat.lt_trans a13 a34
  have hlenI := IntsAre.length hI
  have hws : ws.length ≤ 1000 := by omega
  obtain ⟨K1, hK1, m1, m2, m3, m4, m5, m6⟩ := six_of N1
  rw [hK1] at N1
  unfold PStop
  k_dflt (refine' ct_use (take_ct (k := 6) (i := 0) _ hI (by decide) hws (by decide) (Nat.ne_of_lt f0) m1 m2) ?k1 ?k2 ?k3 ?k4 ?k5 ?k6 ?k7 ?k8 ?_)
  (case k1 => k_asm)
  (case k2 => k_asm)
  (case k3 => k_asm)
  (case k4 => k_asm)
  (case k5 => k_asm)
  (case k6 => first | exact rfl | assumption)
  (case k7 => ktr_room)
  (case k8 => ktr_units)
  rintro r9 nx9 h9 tk9 F9 N9 ⟨v, tv, u9, rfl, hv6, C9⟩
  have n1 := C9.here
  have n2 := C9.keep _ m2 (Nat.ne_of_lt f0)
  have n3 := C9.keep _ m3 (Nat.ne_of_lt f4)
  have n4 := C9.keep _ m4 (Nat.ne_of_lt f3)
  have n5 := C9.keep _ m5 (Nat.ne_of_lt f2)
  have n6 := C9.keep _ m6 (Nat.ne_of_lt f1)
  clear m1 m2 m3 m4 m5 m6 N1 hK1
  k_steps
  unfold PStop
  rename Chg _ _ _ _ => C2
  rename (_ = Data.cell (some (Value.int (2 + (v : Int)) _))) => dN
  have b1 := C2.keep _ n1 (Nat.ne_of_gt f2)
  have b2 := C2.keep _ n2 (Nat.ne_of_gt g2)
  have b3 := C2.keep _ n3 (Nat.ne_of_gt a24)
  have b4 := C2.keep _ n4 (Nat.ne_of_gt a23)
  have b5 := C2.here
  have b6 := C2.keep _ n6 (Nat.ne_of_lt a12)
  clear n1 n2 n3 n4 n5 n6 C9 F9 N9
  k_steps
  unfold PStop
  rename News _ _ _ _ => N3
  rename ∀ (p : Addr × Obj), p ∈ (_ : List (Addr × Obj)) → p.1 < _ => lt3
  k_dflt (refine' ct_use (take_ct (k := 3) (i := 1) _ hI (by decide) hws (by decide) (Nat.ne_of_lt f0) (.tail _ b1) (.tail _ b2)) ?k1 ?k2 ?k3 ?k4 ?k5 ?k6 ?k7 ?k8 ?_)
  (case k1 => k_asm)
  (case k2 => k_asm)
  (case k3 => k_asm)
  (case k4 => k_asm)
  (case k5 => k_asm)
  (case k6 => first | exact rfl | assumption)
  (case k7 => ktr_room)
  (case k8 => ktr_units)
  rintro r9 nx9 h9 tk9 F9 N9 ⟨v2, tv2, u9, rfl, hv3, C9⟩
  have q0 := C9.keep _ (.head _) (Ne.symm (Nat.ne_of_lt (lt3 _ b1)))
  have q1 := C9.here
  have q2 := C9.keep _ (.tail _ b2) (Nat.ne_of_lt f0)
  have q3 := C9.keep _ (.tail _ b3) (Nat.ne_of_lt f4)
  have q4 := C9.keep _ (.tail _ b4) (Nat.ne_of_lt f3)
  have q5 := C9.keep _ (.tail _ b5) (Nat.ne_of_lt f2)
  have q6 := C9.keep _ (.tail _ b6) (Nat.ne_of_lt f1)
  clear b1 b2 b3 b4 b5 b6 N3
  k_steps
  unfold PStop
  k_dflt (refine kba_turn (value' := PySem.Expr.Name (PySem.Str.ofString "_") ⟨0, 0, 0, 0⟩) (fun _ => rfl) ?_)
  k_dflt (refine' kmk_slice F9 N9 ⟨_, (N9 _ q0).1, rfl, _, rfl⟩ ?y1 ?y2 ?_ ?y3 ?y4 ?y5; (case y1 => kmk_part); (case y2 => kmk_part); (case y3 => with_unfolding_all rfl); (case y4 => exact fun _ => rfl); (case y5 => exact Nat.le_trans (Nat.le_of_ble_eq_true rfl : (3 : Nat) ≤ 1000) (by rw [sizeLine_eq]; omega)))
  intro lb h10 F10 N10 lt10
  have ecast : (1 + (v2 : Int)) = ((1 + v2 : Nat) : Int) := by omega
  rw [ecast, slice_to] at N10
  clear F9 N9
  k_steps
  unfold PStop
  k_dflt (refine' ct_use (nfa_ct _) ?k1 ?k2 ?k3 ?k4 ?k5 ?k6 ?k7 ?k8 ?_)
  (case k1 => k_asm)
  (case k2 => k_asm)
  (case k3 => k_asm)
  (case k4 => k_asm)
  (case k5 => k_asm)
  (case k6 => first | exact rfl | assumption)
  (case k7 => ktr_room)
  (case k8 => ktr_units)
  rintro r9 nx11 h11 tk11 F11 N11 ⟨hs11, en, de, oe, rfl, me1, me2, hen⟩
  have p0 := hs11 _ (.head _)
  have p1 := hs11 _ (.tail _ q1)
  have p2 := hs11 _ (.tail _ q2)
  have p3 := hs11 _ (.tail _ q3)
  have p4 := hs11 _ (.tail _ q4)
  have p5 := hs11 _ (.tail _ q5)
  have p6 := hs11 _ (.tail _ q6)
  have lbne := fun p hp => Nat.ne_of_lt (lt10 p hp)
  have x1 := lbne _ q1
  have x2 := lbne _ q3
  have x3 := lbne _ q4
  have y1 := (hen _ (.tail _ q1)).1
  have y2 := (hen _ (.tail _ q3)).1
  have y3 := (hen _ (.tail _ q4)).1
  have z1 := (hen _ (.tail _ q1)).2
  have z2 := (hen _ (.tail _ q3)).2
  have z3 := (hen _ (.tail _ q4)).2
  clear q0 q1 q2 q3 q4 q5 q6 lbne hen hs11 C9 lt3 lt10 C2
  k_steps
  unfold PStop
  rename IsRange _ _ _ _ _ _ _ _ => RR
  rename Fr _ _ _ _ => F12
  rename News _ _ _ _ => N12
  obtain ⟨SL, TL, hSL, hTL⟩ := name2 N12
  subst hSL hTL
  rename ∀ (p : Addr × Obj), p ∈ nx11 → p.1 < _ => ltT
  rename (@LT.lt Nat _ _ _ ∧ AllLt _ nx11) => ltS
  have hM : ∀ p ∈ nx11, _ := fun p hp => And.intro (Nat.ne_of_lt (ltT p hp)) (allLt_mem ltS.2 p hp)
  have dca : @LT.lt Nat _ ca TL := ltT _ p1
  have dTS : @LT.lt Nat _ TL SL := ltS.1
  have dcF : @LT.lt Nat _ (s1.heap.objs.size + 1 + 1 + 1 + 1) ca := f4
  have dAT := Nat.lt_trans f3 dca
  have dAS := Nat.lt_trans dAT dTS
  have dFT := Nat.lt_trans f4 dca
  have dFS := Nat.lt_trans dFT dTS
  have dcS := Nat.lt_trans dca dTS
  have hn62 : 2 + v ≤ 2 ^ 62 := by omega
  have hn3 : 2 + v ≤ 1000 := by omega
  have hn7 : 2 + v ≤ 7 := by omega
  have ecn : (2 : Int) + (v : Int) = ((2 + v : Nat) : Int) := by omega
  rw [ecn] at dN RR
  refine range_turns (n := 2 + v) (JW1 w s1.heap.objs.size ca sl lb en TL SL ws v v2) rfl RR (rng_small hn3) (rng_size _) F12 N12 ?init ?turn ?done
  case init =>
    --<init
    refine ⟨[_, _, _, _, _, _], [], [], fun _ => false, fun _ => [], fun _ => 0, fun _ => 0, fun _ => 0,
      ⟨bs_of (List.forall_mem_cons.mpr ⟨.tail _ (.tail _ p6), List.forall_mem_cons.mpr ⟨.tail _ (.tail _ p5), List.forall_mem_cons.mpr ⟨.tail _ (.tail _ p2), List.forall_mem_cons.mpr ⟨.tail _ (.tail _ p0), List.forall_mem_cons.mpr ⟨.tail _ (.tail _ me1), List.forall_mem_cons.mpr ⟨.tail _ (.tail _ me2), List.forall_mem_nil _⟩⟩⟩⟩⟩⟩)
          (List.forall_mem_cons.mpr ⟨⟨?_, (hM _ p6).1, (hM _ p6).2, ?_, ?_⟩, List.forall_mem_cons.mpr ⟨⟨?_, (hM _ p5).1, (hM _ p5).2, ?_, ?_⟩, List.forall_mem_cons.mpr ⟨⟨?_, (hM _ p2).1, (hM _ p2).2, ?_, ?_⟩, List.forall_mem_cons.mpr ⟨⟨Ne.symm x1, (hM _ p0).1, (hM _ p0).2, Ne.symm x3, Ne.symm x2⟩, List.forall_mem_cons.mpr ⟨⟨Ne.symm y1, (hM _ me1).1, (hM _ me1).2, Ne.symm y3, Ne.symm y2⟩, List.forall_mem_cons.mpr ⟨⟨Ne.symm z1, (hM _ me2).1, (hM _ me2).2, Ne.symm z3, Ne.symm z2⟩, List.forall_mem_nil _⟩⟩⟩⟩⟩⟩)
          ⟨_, .tail _ (.tail _ p1)⟩ ⟨_, .tail _ (.head _)⟩ ⟨_, .head _⟩ ⟨_, .tail _ (.tail _ p4)⟩ ⟨_, .tail _ (.tail _ p3)⟩,
        ⟨⟨_, .head _, by assumption⟩, ⟨_, _, .tail _ (.head _), dN⟩, ⟨_, .tail _ (.tail _ (.head _))⟩, ⟨_, _, .tail _ (.tail _ (.tail _ (.head _))), labs_of⟩, ⟨_, _, .tail _ (.tail _ (.tail _ (.tail _ (.head _)))), .tail _ (.tail _ (.tail _ (.tail _ (.tail _ (.head _)))))⟩⟩,
        ⟨2, u9, 0, .tail _ (.tail _ p1), by omega⟩, ⟨0, .tail _ (.head _)⟩, ⟨0, .head _⟩, ⟨_, _, .tail _ (.tail _ p4), by assumption⟩, ⟨_, _, .tail _ (.tail _ p3), by assumption⟩, Built.nil⟩,
      .cons rfl (.cons rfl (.cons rfl (.cons rfl .nil)))⟩
    all_goals first | exact Nat.ne_of_lt f1 | exact Nat.ne_of_lt f2 | exact Nat.ne_of_lt f0 | exact Nat.ne_of_gt g3 | exact Nat.ne_of_gt g4 | exact Nat.ne_of_lt a13 | exact Nat.ne_of_lt a14 | exact Nat.ne_of_lt a23 | exact Nat.ne_of_lt a24
    -->
  case turn =>
    --<turn
    rintro k tk0 m₁ nx h tk own hk hoff ⟨base, tvs, svs, fin, arcs, X, DX, AX, Ls, hm₁⟩ F₁ N₁
    replace F₁ := fr_lit F₁ hm₁
    dsimp only [kstB] at F₁
    rw [Int.zero_add]
    have Bo := Ls.bs.own hoff
    obtain ⟨i, u, nc, hca, hi⟩ := Ls.tk
    obtain ⟨nt, hTL⟩ := Ls.tab
    obtain ⟨nS, hSL⟩ := Ls.sta
    obtain ⟨oA, vA, hA, dA⟩ := Ls.cA'
    obtain ⟨oF, vF, hF, dF⟩ := Ls.cF'
    obtain ⟨oc, hcC, dcC⟩ := Ls.lb.cellC
    obtain ⟨on, tn, hcN, dcN⟩ := Ls.lb.cellN
    obtain ⟨ksl, hsl⟩ := Ls.lb.slice
    obtain ⟨lvs, klb, hlb, hSA⟩ := Ls.lb.labels
    have B0 := bs_one Bo (List.mem_append_left own hTL) (List.mem_append_left own hSL) (List.mem_append_left own hA) (List.mem_append_left own hF) (Nat.ne_of_gt dca) (Nat.ne_of_gt dcS) (Nat.ne_of_lt f3) (Nat.ne_of_lt f4)
    generalize hK0 : (TL, listOf tvs.toArray nt) :: (SL, listOf svs.toArray nS) :: (s1.heap.objs.size + 1 + 1 + 1, oA) :: (s1.heap.objs.size + 1 + 1 + 1 + 1, oF) :: (own ++ base) = K0 at B0
    have inK : ∀ p ∈ base, p ∈ K0 := fun p hp => by rw [← hK0]; exact .tail _ (.tail _ (.tail _ (.tail _ (List.mem_append_right _ hp))))
    have e1 := List.mem_append_left own hca
    have e2 := B0.keep _ (inK _ hcC)
    have e3 := B0.keep _ (inK _ hcN)
    have e4 := B0.keep _ (inK _ hsl)
    have hi3 : i ≤ 1000 := tk_small hk hn7 hi
    have slca : sl ≠ ca := fun e => B0.off _ (inK _ hsl) (by rw [show (sl, _).1 = sl from rfl, e]; exact .head _)
    k_steps
    unfold PStop
    k_dflt (refine' ct_use (take_ct (k := 2) (i := i) _ hI (by decide) hws hi3 slca e1 e4) ?k1 ?k2 ?k3 ?k4 ?k5 ?k6 ?k7 ?k8 ?_)
    (case k1 => k_asm)
    (case k2 => k_asm)
    (case k3 => k_asm)
    (case k4 => k_asm)
    (case k5 => k_asm)
    (case k6 => first | exact rfl | assumption)
    (case k7 => ktr_room)
    (case k8 => ktr_units)
    rintro r9 nx9 h9 tk9 F9 N9 ⟨vf, tvf, u9, rfl, hvf, C9⟩
    have B1 := B0.chg C9 (.head _)
    have e1' := C9.here
    clear F₁ N₁ e1 e2 e3 e4
    k_steps
    unfold PStop
    rename Fr _ _ _ _ => F6
    rename News _ _ _ _ => N6
    refine' listcomp_assign F6 ?k0 ?ka ?kb ?k1 ?k2 ?k3 ?k4 ?_ ?k6
    case k0 => with_unfolding_all rfl
    case ka => rfl
    case kb => rfl
    case k1 => with_unfolding_all rfl
    case k2 => decide
    case k3 => rfl
    case k4 => decide
    case k6 => intro _; rfl
    k_steps
    unfold PStop
    refine comp_list K0 (inK _ hlb) rfl F6 N6 (Nat.le_trans (lbs3 hSA) (by decide)) (fun j v mC => ∃ l t, (LBS.take (1 + v2))[j]? = some l ∧ mC (Str.ofString "label") = some (Value.str l t)) ?_
      (fun j ys nx => Bs [ca] K0 nx ∧ (∃ u nc, (ca, listOf [Value.ref sl, Value.int (i + 1 + j : Nat) u].toArray nc) ∈ nx) ∧ ∃ S, RowAt nx ys S ∧ S.map (·.1) = (LBS.take (1 + v2)).take j ∧ ∀ p ∈ S, p.2 < 2 + v + 1)
      (fun j ys nx h => h.1.keep) ⟨B1, ⟨_, _, e1'⟩, [], RowAt.nil, rfl, fun p hp => (nomatch hp)⟩ ?_ ?_
    · intro j v C mC s Q E hv hkeep hn hret
      have hj : j < (LBS.take (1 + v2)).length := by rw [← hSA.len]; exact (List.getElem?_eq_some_iff.mp hv).1
      obtain ⟨t, ht⟩ := hSA.at' j _ (List.getElem?_eq_getElem hj)
      rw [hv] at ht
      obtain rfl := Option.some.inj ht
      exact asg_name rfl rfl hn fun h' mC' tk' a b c => hret h' mC' tk' a ⟨_, t, List.getElem?_eq_getElem hj, b⟩ c
    · rintro j vj ys nx C mC h tk own' E' hv hys ⟨Bj, ⟨uj, ncj, hcaj⟩, S, RY, hSm, hSl⟩ ⟨l, t, hl, hml⟩ hns hoff' hC F₁ N₁
      have g1 := List.mem_append_left own' hcaj
      have g2 := List.mem_append_left own' (Bj.keep _ (inK _ hcC))
      have g3 := List.mem_append_left own' (Bj.keep _ (inK _ hcN))
      have g4 := List.mem_append_left own' (Bj.keep _ (inK _ hsl))
      refine wpAny_pure ?_
      rw [if_pos rfl]
      k_steps
      have hj3 : j < 3 := lbs_lt hl
      unfold PStop
      k_dflt (refine' ct_use (take_ct (k := ((2 + v : Nat) : Int) + 1) (i := i + 1 + j) _ hI (one_le_n (2 + v)) hws (tk_small3 hk hn7 hi hj3) slca g1 g4) ?k1 ?k2 ?k3 ?k4 ?k5 ?k6 ?k7 ?k8 ?_)
      (case k1 => k_asm)
      (case k2 => k_asm)
      (case k3 => k_asm)
      (case k4 => k_asm)
      (case k5 => k_asm)
      (case k6 => first | exact rfl | assumption)
      (case k7 => ktr_room)
      (case k8 => ktr_units)
      rintro r10 nx10 h10 tk10 F10 N10 ⟨vj, tvj, u10, rfl, hvj, C10⟩
      obtain ⟨nx2, C2, hs2, ho2, hof2⟩ := C10.split hcaj hoff'
      have RY2 := RY.chg (news_l N₁) hcaj C2
      clear N₁ g1 g2 g3 g4
      k_steps
      rename ∀ (p : Addr × Obj), p ∈ nx10 → p.1 < _ => l9
      rename News _ _ _ _ => N9
      unfold PStop
      refine cend_new (by assumption) N9 l9 hs2 ho2 hof2 ⟨(Bj.chg C2 (.head _)).sub fun p hp => .tail _ hp, ⟨u10, ncj, .tail _ C2.here⟩, S ++ [(l, vj)], (RY2.mono fun p hp => .tail _ hp).snoc (.head _), ?_, ?_⟩
      · rw [List.map_append, hSm, List.take_add_one, hl]
        rfl
      · intro p hp
        rcases List.mem_append.mp hp with hp | hp
        · exact hSl p hp
        · rw [List.mem_singleton.mp hp]
          exact Int.ofNat_lt.mp hvj
    · rintro s₂ D ys nx1 h' tk ⟨_, _, rfl⟩ F₁ N₁ hoffD hys ⟨Bj, ⟨uj, ncj, hcaj⟩, S, RY, hSm, hSl⟩ h'' tk'' F₃ N₃
      rw [hSA.len, List.take_length] at hSm
      clear F₁ N₁ F6 N6
      have hcN1 := Bj.keep _ (inK _ hcN)
      k_steps
      unfold PStop
      refine wpAny_Assign_Name ?_ (by with_unfolding_all rfl)
      rename Fr _ _ _ _ => F7
      rename News _ _ _ _ => N7
      refine' listcomp_eval F7 ?k1 ?k2 ?k3 ?k4 ?_ ?k6
      case k1 => with_unfolding_all rfl
      case k2 => decide
      case k3 => rfl
      case k4 => decide
      case k6 => intro _; rfl
      k_steps
      unfold PStop
      have hlS : ys.length = S.length := RY.len
      have hS3 : S.length ≤ 3 := map_len3 hSm
      refine comp_list ((D, listOf ys.toArray ys.length) :: nx1) (.head _) rfl F7 N7 (Nat.le_trans (Nat.le_of_eq hlS) (Nat.le_trans hS3 (by decide)))
        (fun j v mC => ∃ l t tl ti, S[j]? = some (l, t) ∧ mC (Str.ofString "label") = some (.str l tl) ∧ mC (Str.ofString "to") = some (.int (t : Nat) ti)) ?_
        (fun j ys2 nx => (∀ p ∈ (D, listOf ys.toArray ys.length) :: nx1, p ∈ nx) ∧ FRow K0 ca nx ys2 ((S.take j).filter fun p => decide (p.2 < 2 + v))) (fun j ys nx h => h.1) ⟨fun p hp => hp, FRow.nil⟩ ?_ ?_
      · intro j vj C mC s Q E hv hkeep hn hret
        obtain ⟨a, n, tl, ti, l, t, hSj, rfl, hm⟩ := RY.lit hv
        refine asg_pair rfl rfl rfl rfl (by decide) ⟨_, hkeep _ (.tail _ hm), rfl, n, rfl⟩ hn hn.lt fun h' mC' tk' a b c => hret h' mC' tk' a ⟨l, t, tl, ti, hSj, b.1, b.2⟩ c
      · rintro j vj ys2 nx C mC h tk own' E' hv hys2 ⟨hsub, RY2⟩ ⟨l, t, tl, ti, hSj, hml, hmt⟩ hns hoff' hC F₁ N₁
        have g1 := List.mem_append_left own' (hsub _ (.tail _ hcN1))
        refine tests_one ?_
        k_steps
        · rename ∀ (p : Addr × Obj), p ∈ nx ++ own' → p.1 < _ => l9
          rename News _ _ _ _ => N9
          unfold PStop
          rename ((_ : Int) < _) => hlt
          refine cend_push (by assumption) N9 l9 hoff' ⟨fun p hp => .tail _ (hsub p hp), ?_⟩
          have ht : t < 2 + v := Int.ofNat_lt.mp hlt
          rw [List.take_add_one, hSj]
          simp only [Option.toList_some, List.filter_append, List.filter_cons, ht, decide_true, if_true, List.filter_nil]
          exact (RY2.mono fun p hp => .tail _ hp).snoc (.head _) (fun q hq => Nat.ne_of_lt (l9 q (List.mem_append_left _ (hsub _ (.tail _ (Bj.keep _ hq)))))) (Nat.ne_of_lt (l9 _ (List.mem_append_left _ (hsub _ (.tail _ hcaj)))))
        · rename (¬ (_ : Int) < _) => hlt
          unfold PStop
          refine CEnd.intro nx (by assumption) (by assumption) (fun p hp => List.mem_append_left _ hp) (fun p hp => List.mem_append_right _ hp) hoff' ⟨hsub, ?_⟩
          have ht : ¬ t < 2 + v := fun h => hlt (Int.ofNat_lt.mpr h)
          rw [List.take_add_one, hSj]
          simp only [Option.toList_some, List.filter_append, List.filter_cons, ht, decide_false, Bool.false_eq_true, if_false, List.filter_nil, List.append_nil]
          exact RY2
      · rintro s₂ D2 ys2 nx2 h' tk ⟨_, _, rfl⟩ F₁ N₁ hoffD2 hys2 ⟨hsub, RY2⟩
        rw [hlS, List.take_length] at RY2
        clear F7 N7
        have K0A : (s1.heap.objs.size + 1 + 1 + 1, oA) ∈ K0 := by rw [← hK0]; exact .tail _ (.tail _ (.head _))
        have K0T : (TL, listOf tvs.toArray nt) ∈ K0 := by rw [← hK0]; exact .head _
        have K0S : (SL, listOf svs.toArray nS) ∈ K0 := by rw [← hK0]; exact .tail _ (.head _)
        have K0F : (s1.heap.objs.size + 1 + 1 + 1 + 1, oF) ∈ K0 := by rw [← hK0]; exact .tail _ (.tail _ (.tail _ (.head _)))
        have hAm := List.Mem.tail (D2, listOf ys2.toArray ys2.length) (hsub _ (.tail _ (Bj.keep _ K0A)))
        k_steps
        unfold PStop
        rename Chg _ _ _ _ => CA
        rename (_ = Data.cell (some (Value.ref D2))) => dA2
        rename List (Addr × Obj) => nx3
        have up2 : ∀ p ∈ K0, p ∈ nx2 := fun p hp => hsub _ (.tail _ (Bj.keep _ hp))
        have hK3 : ∀ p ∈ K0, p.1 ≠ s1.heap.objs.size + 1 + 1 + 1 → p ∈ nx3 := fun p hp hne => CA.keep _ (.tail _ (up2 p hp)) hne
        have hca2 := hsub _ (.tail _ hcaj)
        have hca3 := CA.keep _ (.tail _ hca2) (Nat.ne_of_gt f3)
        have hD3 := CA.keep _ (.head _) (Ne.symm (hoffD2 _ (up2 _ K0A)))
        have hcA3 := CA.here
        have fD2 : ∀ q ∈ K0, q.1 ≠ D2 := fun q hq => hoffD2 _ (up2 _ hq)
        have cD2 : ca ≠ D2 := hoffD2 _ hca2
        have RY3 : FRow K0 ca nx3 ys2 _ := RY2.keep (nx' := nx3) fun p hp h1 _ => CA.keep _ (.tail _ hp) (Ne.symm (h1 _ K0A))
        have A3 := arcs_ok (n := 2 + v) hSm
        have hT3 := hK3 _ K0T (Nat.ne_of_gt dAT)
        have hS3' := hK3 _ K0S (Nat.ne_of_gt dAS)
        have hk3 : k ≤ 1000 := Nat.le_trans (Nat.le_of_lt hk) hn3
        have htl : tvs.length ≤ 1000 := Nat.le_trans (Nat.le_of_eq Ls.bt.tl) hk3
        have hsl2 : svs.length ≤ 1000 := Nat.le_trans (Nat.le_of_eq Ls.bt.sl) hk3
        clear CA hAm F₁ N₁
        k_steps
        unfold PStop
        rename Fr _ _ _ _ => F8
        rename News _ _ _ _ => N8
        have hy2 : ys2.length ≤ 1000 := Nat.le_trans (Nat.le_of_eq RY3.row.len) (Nat.le_trans A3.len (by decide))
        refine mid F8 N8 (fun (vv : Value) (nx4 : List (Addr × Obj)) => ∃ (R : Addr) (rs : List Value) (nr : Nat) (S2 : List (Str × Nat)), vv = Value.ref R ∧ (∀ p ∈ nx3, p ∈ nx4) ∧ (R, listOf (List.toArray rs) nr) ∈ nx4 ∧ FRow K0 ca nx4 rs S2 ∧ ArcsOk (2 + v) S2 ∧ (∀ q ∈ K0, q.1 ≠ R) ∧ ca ≠ R) ?_ ?_
        · refine IfExp_ ?_
          k_steps
          · unfold PStop
            exact MidP.intro (by assumption) (by assumption) ⟨D2, ys2, _, _, rfl, fun p hp => hp, hD3, RY3, A3, fD2, cD2⟩
          · unfold PStop
            refine' listcomp_eval F8 ?k1 ?k2 ?k3 ?k4 ?_ ?k6
            case k1 => with_unfolding_all rfl
            case k2 => decide
            case k3 => rfl
            case k4 => decide
            case k6 => intro _; rfl
            k_steps
            unfold PStop
            rename IsRange _ _ _ _ _ _ _ _ => RR4
            rename Fr _ _ _ _ => F10
            rename News _ _ _ _ => N10
            refine comp_range (n := ys2.length) rfl rfl rfl RR4 (rng_small hy2) (rng_size _) F10 N10 hy2
              (fun i zs nx => (∀ p ∈ nx3, p ∈ nx) ∧ zs = ys2.reverse.take i) ⟨fun p hp => hp, rfl⟩ ?_ ?_
            · rintro i t zs nx C mC h tk own' E' hi hzs ⟨hsub3, rfl⟩ hmi hns hoff' hC F₁ N₁
              obtain ⟨vi, hvi⟩ : ∃ vi, ys2[ys2.length - 1 - i]? = some vi := ⟨_, List.getElem?_eq_getElem (rev_lt hi)⟩
              have hL : LIt ys2 ((ys2.length : Int) - 1 - (0 + (i : Int))) vi := ⟨ys2.length - 1 - i, rev_cast hi, hvi, rev_small hy2⟩
              have g1 := List.mem_append_left own' (hsub3 _ hD3)
              have g2 := List.mem_append_left own' (hsub3 _ hcA3)
              refine wpAny_pure ?_
              rw [if_pos rfl]
              k_steps
              unfold PStop
              refine CEnd.intro nx (by assumption) (by assumption) (fun p hp => List.mem_append_left _ hp) (fun p hp => List.mem_append_right _ hp) hoff' ⟨hsub3, ?_⟩
              rw [List.take_add_one, List.getElem?_reverse hi, hvi]
              rfl
            · rintro s₂ D zs nx' h' tk ⟨_, _, rfl⟩ F₁ N₁ hoffD hys ⟨hsub3, rfl⟩
              have ez : ys2.reverse.take ys2.length = ys2.reverse := List.take_of_length_le (by simp)
              rw [ez] at N₁
              refine MidP.intro F₁ N₁ ⟨D, ys2.reverse, _, _, rfl, fun p hp => .tail _ (hsub3 p hp), .head _, (RY3.mono fun p hp => .tail _ (hsub3 p hp)).rev, arcs_rev A3, fun q hq => ?_, hoffD _ (hsub3 _ hca3)⟩
              by_cases e : q.1 = s1.heap.objs.size + 1 + 1 + 1
              · rw [e]; exact hoffD _ (hsub3 _ hcA3)
              · exact hoffD _ (hsub3 _ (hK3 q hq e))
        · rintro vv h4 tk4 nx4 F9 N9 ⟨R, rs, nr, S2, rfl, hs4, hR, RYf, Aok, fR, cR⟩
          have hT4 := hs4 _ hT3
          clear F8 N8
          k_steps
          unfold PStop
          rename Chg TL _ _ _ => CT
          rename ∀ (p : Addr × Obj), p ∈ nx4 → p.1 < _ => lT
          rename List (Addr × Obj) => nx5
          rename Addr => Tp
          obtain ⟨de9, oe9, hen9, hde9⟩ := Ls.lb.end'
          have fT : (∀ q ∈ K0, q.1 ≠ Tp) ∧ ca ≠ Tp := ⟨fun q hq => by
            by_cases e : q.1 = s1.heap.objs.size + 1 + 1 + 1
            · rw [e]; exact Nat.ne_of_lt (lT _ (hs4 _ hcA3))
            · exact Nat.ne_of_lt (lT _ (hs4 _ (hK3 q hq e))), Nat.ne_of_lt (lT _ (hs4 _ hca3))⟩
          have hK5 : ∀ p ∈ K0, p.1 ≠ s1.heap.objs.size + 1 + 1 + 1 → p.1 ≠ TL → p ∈ nx5 := fun p hp h1 h2 => CT.keep _ (.tail _ (hs4 _ (hK3 p hp h1))) h2
          have tup5 := CT.keep _ (.head _) (Ne.symm (Nat.ne_of_lt (lT _ hT4)))
          have R5 := CT.keep _ (.tail _ hR) (Ne.symm (fR _ K0T))
          have RY5 : FRow K0 ca nx5 rs S2 := RYf.keep fun p hp h1 _ => CT.keep _ (.tail _ hp) (Ne.symm (h1 _ K0T))
          have ca5 := CT.keep _ (.tail _ (hs4 _ hca3)) (Nat.ne_of_lt dca)
          have cA5 := CT.keep _ (.tail _ (hs4 _ hcA3)) (Nat.ne_of_lt dAT)
          have T5 := CT.here
          have S5 := hK5 _ K0S (Nat.ne_of_gt dAS) (Nat.ne_of_gt dTS)
          have F5 := hK5 _ K0F (Nat.ne_of_gt a34) (Nat.ne_of_lt dFT)
          have en5 := hK5 _ (inK _ hen9) (Ls.bs.ne hen9 (.tail _ (.tail _ (.tail _ (.head _))))) (Ls.bs.ne hen9 (.tail _ (.head _)))
          have de5 := hK5 _ (inK _ hde9) (Ls.bs.ne hde9 (.tail _ (.tail _ (.tail _ (.head _))))) (Ls.bs.ne hde9 (.tail _ (.head _)))
          clear CT hT4
          k_steps
          unfold PStop
          rename Fr _ _ _ _ => F8
          rename News _ _ _ _ => N8
          refine mid F8 N8 (fun (vv : Value) (nx6 : List (Addr × Obj)) => ∃ (nl x dn : Addr) (on : Obj) (nn : Nat), vv = Value.ref nl ∧ (∀ p ∈ nx5, p ∈ nx6) ∧ (nl, listOf [Value.ref x].toArray nn) ∈ nx6 ∧ (x, instObj 60 dn) ∈ nx6 ∧ (dn, on) ∈ nx6 ∧ decide (x = en) = ((vf : Int) == 1)) ?_ ?_
          · refine IfExp_ ?_
            k_steps
            · unfold PStop
              rename ((vf : Int) = 1) => hvf1
              exact MidP.intro (by assumption) (by assumption) ⟨_, en, de9, oe9, _, rfl, fun p hp => .tail _ hp, .head _, .tail _ en5, .tail _ de5, by rw [hvf1]; simp⟩
            · unfold PStop
              rename ((vf : Int) ≠ 1) => hvf1
              k_dflt (refine' ct_use (nfa_ct _) ?k1 ?k2 ?k3 ?k4 ?k5 ?k6 ?k7 ?k8 ?_)
              (case k1 => k_asm)
              (case k2 => k_asm)
              (case k3 => k_asm)
              (case k4 => k_asm)
              (case k5 => k_asm)
              (case k6 => first | exact rfl | assumption)
              (case k7 => ktr_room)
              (case k8 => ktr_units)
              rintro r7 nx7 h7 tk7 F7 N7 ⟨hs7, x7, d7, o7, rfl, mx7, md7, fr7⟩
              k_steps
              unfold PStop
              exact MidP.intro (by assumption) (by assumption) ⟨_, x7, d7, o7, _, rfl, fun p hp => .tail _ (hs7 p hp), .head _, .tail _ mx7, .tail _ md7, by rw [decide_eq_false (Ne.symm (fr7 _ en5).1)]; simp [hvf1]⟩
          · rintro vv h6 tk6 nx6 F9 N9 ⟨nl, x0, dn0, on0, nn0, rfl, hs6, hnl, hx0, hdn0, hfin⟩
            clear F8 N8
            have en6 := hs6 _ en5
            have de6 := hs6 _ de5
            k_steps
            unfold PStop
            k_dflt (refine' ct_use (mk_ct _ hnl hx0 en6 hdn0 de6) ?k1 ?k2 ?k3 ?k4 ?k5 ?k6 ?k7 ?k8 ?_)
            (case k1 => k_asm)
            (case k2 => k_asm)
            (case k3 => k_asm)
            (case k4 => k_asm)
            (case k5 => k_asm)
            (case k6 => first | exact rfl | assumption)
            (case k7 => ktr_room)
            (case k8 => ktr_units)
            rintro r7 nx7 h7 tk7 F7 N7 ⟨hs7, x7, d7, ar7, o7, rfl, ist7, mar7, hd7, fr7, da7⟩
            have S7 := hs7 _ (hs6 _ S5)
            k_steps
            unfold PStop
            rename Chg SL _ _ _ => CS
            rename List (Addr × Obj) => nx8
            rw [hfin] at ist7
            have k6 : ∀ q ∈ K0, ∃ o, (q.1, o) ∈ nx6 := fun q hq => by
              by_cases e1 : q.1 = s1.heap.objs.size + 1 + 1 + 1
              · rw [e1]; exact ⟨_, hs6 _ cA5⟩
              · by_cases e2 : q.1 = TL
                · rw [e2]; exact ⟨_, hs6 _ T5⟩
                · exact ⟨_, hs6 _ (hK5 q hq e1 e2)⟩
            have fx : (∀ q ∈ K0, q.1 ≠ x7) ∧ ca ≠ x7 := ⟨fun q hq => let ⟨o, h⟩ := k6 q hq; (fr7 _ h).1, (fr7 _ (hs6 _ ca5)).1⟩
            have fd : (∀ q ∈ K0, q.1 ≠ d7) ∧ ca ≠ d7 := ⟨fun q hq => let ⟨o, h⟩ := k6 q hq; (fr7 _ h).2.1, (fr7 _ (hs6 _ ca5)).2.1⟩
            have fa : (∀ q ∈ K0, q.1 ≠ ar7) ∧ ca ≠ ar7 := ⟨fun q hq => let ⟨o, h⟩ := k6 q hq; (fr7 _ h).2.2, (fr7 _ (hs6 _ ca5)).2.2⟩
            have up : ∀ p ∈ nx5, p.1 ≠ SL → p ∈ nx8 := fun p hp h => CS.keep _ (hs7 _ (hs6 _ hp)) h
            have ist8 : IsSt w nx8 x7 d7 ar7 ((vf : Int) == 1) := by
              obtain ⟨t1, t2, t3, t4, t5, t6, t0, nf0, na, tr, hd8⟩ := ist7.dict
              exact ⟨CS.keep _ ist7.inst (Ne.symm (fx.1 _ K0S)), ⟨t1, t2, t3, t4, t5, t6, t0, nf0, na, tr, CS.keep _ hd8 (Ne.symm (fd.1 _ K0S))⟩, ist7.low⟩
            have hl3 : lvs.length ≤ 3 := lbs3 hSA
            obtain ⟨nf, ⟨b', tv', sv', fi', ar', X', DX', AX', Ls'⟩, hn, ho, hof⟩ := turn_end (f := ((vf : Int) == 1)) Ls (by assumption) hoff hK0 (i' := i + 1 + lvs.length) (tk_next hi hl3) dF dA2 (fun p hp h1 h2 h3 => up p (hK5 p hp h1 h2) h3) (up _ ca5 (Nat.ne_of_lt dcS)) (up _ T5 (Nat.ne_of_lt dTS)) CS.here
              (up _ cA5 (Nat.ne_of_lt dAS)) (up _ F5 (Nat.ne_of_lt dFS)) (up _ tup5 (Ne.symm (fT.1 _ K0S))) (up _ R5 (Ne.symm (fR _ K0S))) (RY5.keep fun p hp h1 _ => up p hp (Ne.symm (h1 _ K0S))) Aok ist8 (CS.keep _ mar7 (Ne.symm (fa.1 _ K0S))) hd7 da7 fT ⟨fR, cR⟩ fx fd fa
            k_steps
            unfold PStop
            exact InvEndG.intro (by assumption) (by assumption) ⟨b', tv', sv', fi', ar', X', DX', AX', Ls', .cons rfl (.cons rfl (.cons rfl (.cons rfl .nil)))⟩ hof hn ho
    -->
  case done =>
    rintro m₁ nx h tk ⟨base, tvs, svs, fin, arcs, X, DX, AX, Ls, hm₁⟩ F₁ N₁
    replace F₁ := fr_lit F₁ hm₁
    dsimp only [kstB] at F₁
    obtain ⟨on, tn, hcN, dcN⟩ := Ls.lb.cellN
    obtain ⟨nt, hTL⟩ := Ls.tab
    obtain ⟨nS, hSL⟩ := Ls.sta
    have hcN1 := Ls.bs.keep _ hcN
    k_steps
    unfold PStop
    rename IsRange _ _ _ _ _ _ _ _ => RR2
    rename Fr _ _ _ _ => F13
    rename News _ _ _ _ => N13
    obtain ⟨B2, hB2, M2⟩ := enter2 Ls N13
    refine range_turns (n := 2 + v) (JW2 w (2 + v) fin arcs X AX B2 TL SL) rfl RR2 (rng_small hn3) (rng_size _) F13 N13
      ⟨by simpa using hB2, .cons rfl (.cons rfl .nil)⟩ ?arcs ?done2
    case arcs =>
      --<arcs
      rintro k tk0 m₁ nx1 h tk own hk hoff ⟨Sa, hm₁⟩ F₁ N₁
      replace F₁ := fr_lit F₁ hm₁
      dsimp only [kstB] at F₁
      rw [Int.zero_add]
      obtain ⟨nS2, hS2⟩ := M2.sta
      have hst2 := M2.st
      obtain ⟨tvs', nt', hTL', htl', hrow'⟩ := M2.tab.list
      obtain ⟨ta, tm, ra, rn, rs, hv, hta, hra, hRA⟩ := hrow' k hk
      have g1 := List.mem_append_left own (Sa.keep _ hTL')
      have g2 := List.mem_append_left own (Sa.keep _ hta)
      have g3 := List.mem_append_left own (Sa.keep _ hra)
      have hI1 : LIt tvs' (k : Int) (.ref ta) := ⟨k, rfl, hv, Nat.lt_of_lt_of_le hk hn62⟩
      k_steps
      unfold PStop
      rename Fr _ _ _ _ => F14
      rename News _ _ _ _ => N14
      have Sa1 := Sa.more hoff
      refine list_turns (vs := rs) (nn := rn) (JW3 w (2 + v) fin arcs X AX (own ++ B2) TL SL k tk0) rfl F14 N14 (fun i m nx2 h => h.1.keep _ (List.mem_append_right _ hra)) ⟨?_, .cons rfl (.cons rfl (.cons rfl .nil))⟩ ?_ ?_
      · have e : (fun j => if j < k then (arcs j).length else if j = k then 0 else 0) = (fun j => if j < k then (arcs j).length else 0) := funext fun j => by split <;> simp
        rw [e]
        exact Sa1
      · rintro t vv m₁ nx2 h tk own2 hv hoff2 ⟨Sb, hm₁⟩ F₁ N₁
        replace F₁ := fr_lit F₁ hm₁
        dsimp only [kstB] at F₁
        obtain ⟨a, na, tl, ti, l, to, hSt, rfl, hmem⟩ := hRA.lit hv
        have hto : to < 2 + v := (Ls.bt.ok k hk).lt _ (List.mem_of_getElem? hSt)
        have hm2 : ∀ p ∈ B2, p ∈ nx2 ++ own2 := fun p hp => List.mem_append_left own2 (Sb.keep _ (List.mem_append_right _ hp))
        have m1 := hm2 _ hmem
        have m2 := hm2 _ hS2
        have sk := (hst2 k hk).mono hm2
        have st := (hst2 to hto).mono hm2
        have iK : LIt (lst X (List.range (2 + v))) (k : Int) (.ref (X k)) := lst_at (List.getElem?_range hk) (Nat.lt_of_lt_of_le hk hn62)
        have iT : LIt (lst X (List.range (2 + v))) (to : Int) (.ref (X to)) := lst_at (List.getElem?_range hto) (Nat.lt_of_lt_of_le hto hn62)
        obtain ⟨i1, i2, i3, i4, i5, i6, i0, inf, ina, itr, hsd⟩ := sk.dict
        have hsi := sk.inst
        k_steps
        unfold PStop
        obtain ⟨ok, hok, hdk⟩ := Sb.arcs k hk
        rw [show (if k < k then (arcs k).length else if k = k then t else 0) = t by simp] at hdk
        have hok2 := List.mem_append_left own2 hok
        have htl : t < (arcs k).length := (List.getElem?_eq_some_iff.mp hSt).1
        have hak := Ls.bt.ok k hk
        have hnew : l ∉ (vals X (fun t => t) ((arcs k).take t)).map (·.1) := take_new hak.nd hSt
        have hzl : (vals X (fun t => t) ((arcs k).take t)).length ≤ 1000 := vtake_small hak.len
        k_dflt (refine' ct_use (addarc_ct _ sk hok2 hdk hnew hzl st) ?k1 ?k2 ?k3 ?k4 ?k5 ?k6 ?k7 ?k8 ?_)
        (case k1 => k_asm)
        (case k2 => k_asm)
        (case k3 => k_asm)
        (case k4 => k_asm)
        (case k5 => k_asm)
        (case k6 => first | exact rfl | assumption)
        (case k7 => ktr_room)
        (case k8 => ktr_units)
        rintro r9 nx9 h9 tk9 F9 N9 ⟨rfl, o', C9, hd9⟩
        k_steps
        unfold PStop
        obtain ⟨nx3, C3, hs3, ho3, hof3⟩ := C9.split hok hoff2
        refine InvEndG.intro (by assumption) (by assumption) ⟨Sb.step Ls.bt.ap.ainj hk C3 ?_ ?_, .cons rfl (.cons rfl (.cons rfl .nil))⟩ hof3 hs3 ho3
        · have e : (if k < k then (arcs k).length else if k = k then t + 1 else 0) = t + 1 := by simp
          show o'.IsDictOf _ (vals X (fun t => t) ((arcs k).take (if k < k then (arcs k).length else if k = k then t + 1 else 0)))
          rw [e, List.take_add_one, show (arcs k)[t]? = some (l, to) from hSt]
          have hd9' : o'.IsDictOf (PySem.strKind pg w) (vals X (fun t => t) ((arcs k).take t) ++ [(l, Value.ref (X to))]) := hd9
          have ev : vals X (fun t => t) ((arcs k).take t ++ [(l, to)]) = vals X (fun t => t) ((arcs k).take t) ++ [(l, Value.ref (X to))] := by simp [vals]
          show o'.IsDictOf _ (vals X (fun t => t) ((arcs k).take t ++ [(l, to)]))
          rw [ev]
          exact hd9'
        · intro j hj
          show (if j < k then (arcs j).length else if j = k then t + 1 else 0) = (if j < k then (arcs j).length else if j = k then t else 0)
          rw [if_neg hj, if_neg hj]
      · clear F14 N14 F₁ N₁ g1 g2 g3 hta hI1
        rintro m₁ nx3 h tk ⟨Sb, hm₁⟩ F₁ N₁
        replace F₁ := fr_lit F₁ hm₁
        dsimp only [kstB] at F₁
        obtain ⟨nf, Sf, hnf, hof, hnoff⟩ := Sb.fin (OwnOff.sub hoff Sa.keep)
        k_steps
        unfold PStop
        refine InvEndG.intro (by assumption) (by assumption) ⟨?_, .cons rfl (.cons rfl .nil)⟩ hnoff hnf hof
        have e : (fun j => if j < k then (arcs j).length else if j = k then rs.length else 0) = (fun j => if j < k + 1 then (arcs j).length else 0) := funext fun j => by
          by_cases h1 : j < k
          · rw [if_pos h1, if_pos (Nat.lt_succ_of_lt h1)]
          · by_cases h2 : j = k
            · subst h2
              rw [if_neg h1, if_pos rfl, if_pos (Nat.lt_succ_self _)]
              exact hRA.len
            · rw [if_neg h1, if_neg h2, if_neg fun h => (Nat.lt_or_eq_of_le (Nat.le_of_lt_succ h)).elim h1 h2]
        rw [← e]
        exact Sf
      -->
    case done2 =>
      rintro m₁ nx3 h tk ⟨Sb, hm₁⟩ F₁ N₁
      replace F₁ := fr_lit F₁ hm₁
      dsimp only [kstB] at F₁
      clear F13 N13
      have M3 := M2.mono Sb.keep
      obtain ⟨nS3, hS3⟩ := M3.sta
      k_steps
      unfold PStop
      refine' listcomp_assign F₁ ?k0 ?ka ?kb ?k1 ?k2 ?k3 ?k4 ?_ ?k6
      case k0 => with_unfolding_all rfl
      case ka => rfl
      case kb => rfl
      case k1 => with_unfolding_all rfl
      case k2 => decide
      case k3 => rfl
      case k4 => decide
      case k6 => intro _; rfl
      k_steps
      unfold PStop
      refine comp_list nx3 hS3 rfl F₁ N₁ (lst_small hn3) (fun j vv mC => mC (Str.ofString "state") = some vv) ?_ (fun j ys nx => (∀ p ∈ nx3, p ∈ nx) ∧ ys = (lst X (List.range (2 + v))).take j) (fun j ys nx h => h.1) ⟨fun p hp => hp, rfl⟩ ?_ ?_
      · intro j vv C mC s Q E hv hkeep hn hret
        exact asg_name rfl rfl hn fun h' mC' tk' a b c => hret h' mC' tk' a b c
      · rintro j vj ys nx C mC h tk own' E' hv hys ⟨hsub, rfl⟩ hmv hns hoff' hC F₁ N₁
        refine wpAny_pure ?_
        rw [if_pos rfl]
        k_steps
        unfold PStop
        refine CEnd.intro nx (by assumption) (by assumption) (fun p hp => List.mem_append_left _ hp) (fun p hp => List.mem_append_right _ hp) hoff' ⟨hsub, ?_⟩
        rw [List.take_add_one, hv]
        rfl
      · rintro s₂ D ys nx4 h' tk ⟨_, _, rfl⟩ F₂ N₂ hoffD hys ⟨hsub, rfl⟩ h'' tk'' F₃ N₃
        rw [List.take_length] at N₃
        clear F₂ N₂ F₁ N₁
        have M4 := M3.mono hsub
        have O4 := tab_ok Ls.bt hn7
        have S4 := sl_start O4 Sb hsub M4 D (listOf (lst X (List.range (2 + v))).toArray (lst X (List.range (2 + v))).length)
        k_steps
        unfold PStop
        k_dflt (refine' ct_use (simplify_ct _ O4 Ls.bt.ap (.head _) S4) ?k1 ?k2 ?k3 ?k4 ?k5 ?k6 ?k7 ?k8 ?_)
        (case k1 => k_asm)
        (case k2 => k_asm)
        (case k3 => k_asm)
        (case k4 => k_asm)
        (case k5 => k_asm)
        (case k6 => first | exact rfl | assumption)
        (case k7 => ktr_room)
        (case k8 => ktr_units)
        rintro r9 nx9 h9 tk9 F9 N9 ⟨rfl, R, ep, hR, hRc, hD9, S9⟩
        k_steps
        unfold PStop
        have hO9 : ∀ p ∈ B2, p ∈ nx9 := fun p hp => S9.frame p (.tail _ (hsub _ (Sb.keep _ hp))) (hoffD _ (hsub _ (Sb.keep _ hp))) (Sb.off p hp)
        have M9 := M2.mono hO9
        have hlab : ∀ k, k < 2 + v → ∀ p ∈ arcs k, p.1 ∈ LBS := fun k hk => (Ls.bt.ok k hk).lab
        k_dflt (refine' ct_use (classes_ct _ O4 hlab M9.tab) ?k1 ?k2 ?k3 ?k4 ?k5 ?k6 ?k7 ?k8 ?_)
        (case k1 => k_asm)
        (case k2 => k_asm)
        (case k3 => k_asm)
        (case k4 => k_asm)
        (case k5 => k_asm)
        (case k6 => first | exact rfl | assumption)
        (case k7 => ktr_room)
        (case k8 => ktr_units)
        rintro r10 nx10 h10 tk10 F10 N10 ⟨hs10, R2, fL, fs, nfs, rfl, hfL, hNA, hR2, hR2c⟩
        have hRR : ∀ k, k < 2 + v → R2 k = R k := fun k hk => (reps_unique hR hR2 hRc hR2c hk).symm
        have M10 := M9.mono hs10
        obtain ⟨oF0, vF0, hcF0, dcF0⟩ := M10.cellF
        clear F9 N9 F₃ N₃
        k_steps
        unfold PStop
        rename Fr _ _ _ _ => F11
        rename News _ _ _ _ => N11
        rename Chg _ _ _ _ => CF
        rename (_ = Data.cell (some (Value.ref fL))) => dF11
        rename List (Addr × Obj) => nx11
        have M11 := M10.cell N10 hcF0 dcF0 CF dF11 (Nat.ne_of_lt a24)
        have hcF11 := CF.here
        have hD11 := CF.keep _ (hs10 _ hD9) (data_ne N10 (hs10 _ hD9) hcF0 dcF0)
        have hfL11 := CF.keep _ hfL (data_ne N10 hfL hcF0 dcF0)
        have hA11 : ∀ k, k < 2 + v → R k = k → ∃ o, (AX k, o) ∈ nx11 ∧ o.IsDictOf (PySem.strKind pg w) (vals X R (arcs k)) := fun k hk hRk => by
          obtain ⟨o, a, b⟩ := S9.arcs k hk hRk
          refine ⟨o, CF.keep _ (hs10 _ a) fun e => ?_, b⟩
          have q : o = oF0 := Option.some.inj ((N10 _ (hs10 _ a)).1.symm.trans (by rw [show (AX k, o).1 = _ from e]; exact (N10 _ hcF0).1))
          exact dict_cell b (by rw [q]; exact dcF0)
        obtain ⟨oN, tN, hcN11, dcN11⟩ := M11.cellN
        clear F10 N10 CF
        k_steps
        unfold PStop
        refine' listcomp_assign F11 ?k0 ?ka ?kb ?k1 ?k2 ?k3 ?k4 ?_ ?k6
        case k0 => with_unfolding_all rfl
        case ka => rfl
        case kb => rfl
        case k1 => with_unfolding_all rfl
        case k2 => decide
        case k3 => rfl
        case k4 => decide
        case k6 => intro _; rfl
        k_steps
        unfold PStop
        rename IsRange _ _ _ _ _ _ _ _ => RR5
        rename Fr _ _ _ _ => F12
        rename News _ _ _ _ => N12
        refine comp_range (n := 2 + v) rfl rfl rfl RR5 (rng_small hn3) (rng_size _) F12 N12 hn3
          (fun i zs nx => (∀ p ∈ nx11, p ∈ nx) ∧ IntL zs (alive i R2)) ⟨fun p hp => hp, IntL.nil⟩ ?_ ?_
        · rintro i t zs nx C mC h tk own' E' hi hzs ⟨hsub3, hZ⟩ hmi hns hoff' hC F₁ N₁
          rw [Int.zero_add] at hmi
          have g1 := List.mem_append_left own' (hsub3 _ hcF11)
          have g2 := List.mem_append_left own' (hsub3 _ hfL11)
          obtain ⟨ti, hLi⟩ := hNA.lit hi (Nat.le_trans O4.small (by decide))
          refine tests_one ?_
          k_steps
          · unfold PStop
            rename ((R2 i : Int) = (i : Int)) => hRi
            refine CEnd.intro nx (by assumption) (by assumption) (fun p hp => List.mem_append_left _ hp) (fun p hp => List.mem_append_right _ hp) hoff' ⟨hsub3, ?_⟩
            rw [alive_step, if_pos (Int.ofNat.inj hRi)]
            exact hZ.snoc
          · unfold PStop
            rename (¬ (R2 i : Int) = (i : Int)) => hRi
            refine CEnd.intro nx (by assumption) (by assumption) (fun p hp => List.mem_append_left _ hp) (fun p hp => List.mem_append_right _ hp) hoff' ⟨hsub3, ?_⟩
            rw [alive_step, if_neg fun h => hRi (congrArg Int.ofNat h)]
            exact hZ
        · rintro s₂ lf zs nx12 h' tk ⟨_, _, rfl⟩ F₁ N₁ hofflf hzs ⟨hsub3, hZ⟩ h'' tk'' F₄ N₄
          clear F12 N12 F₁ N₁
          rw [alive_congr hRR] at hZ
          have M12 := M11.mono (B' := (lf, listOf zs.toArray zs.length) :: nx12) fun p hp => .tail _ (hsub3 _ hp)
          obtain ⟨B6, Fi, Bs6⟩ := enter3 M12 N₄ (Nat.ne_of_gt a34) (fun k hk hRk => let ⟨o, a, b⟩ := hA11 k hk hRk; ⟨o, .tail _ (hsub3 _ a), b⟩) ⟨ep, .tail _ (hsub3 _ hD11)⟩ ⟨fs, nfs, .tail _ (hsub3 _ hfL11), hNA.congr hRR⟩ ⟨zs, _, .head _, hZ⟩ ⟨_, .tail _ (hsub3 _ hcF11), dF11⟩
          have hD12 : (D, listOf (lst X (alive (2 + v) R)).toArray ep) ∈ (lf, listOf zs.toArray zs.length) :: nx12 := .tail _ (hsub3 _ hD11)
          have hlf12 : (lf, listOf zs.toArray zs.length) ∈ (lf, listOf zs.toArray zs.length) :: nx12 := .head _
          have hll : (lst X (alive (2 + v) R)).length = zs.length := by rw [hZ.len]; simp [lst]
          have hz1 : zs.length ≤ 1000 := Nat.le_trans hzs hn3
          have hz2 : (lst X (alive (2 + v) R)).length ≤ 1000 := Nat.le_trans (Nat.le_of_eq hll) hz1
          k_steps
          unfold PStop
          rename IsRange _ _ _ _ _ _ _ _ => RR6
          rename Fr _ _ _ _ => F16
          rename News _ _ _ _ => N16
          refine range_turns (n := zs.length) (JW4 s1.heap.objs.size B6 SL lf TL D) rfl RR6 (rng_small hz1) (rng_size _) F16 N16
            ⟨Bs6, M12.cellA, .cons rfl (.cons rfl (.cons rfl (.cons rfl .nil)))⟩ ?place ?done3
          case place =>
            rintro i tk0 m₁ nx1 h tk own hi hoff ⟨Bp, ⟨oA, vA, hA, dA⟩, hm₁⟩ F₁ N₁
            replace F₁ := fr_lit F₁ hm₁
            dsimp only [kstB] at F₁
            rw [Int.zero_add]
            clear F16 N16 hD12 hlf12 hcF11 hD11 hfL11 hcN11 hNA
            have Bo := Bp.own hoff
            obtain ⟨x, hx⟩ : ∃ x, (alive (2 + v) R)[i]? = some x := ⟨_, List.getElem?_eq_getElem (by rw [← hZ.len]; exact hi)⟩
            have hxa := mem_alive.mp (List.mem_of_getElem? hx)
            obtain ⟨ns, hsta⟩ := Fi.sta
            obtain ⟨tvs2, nt2, ht1, ht2, ht3⟩ := Fi.tab.list
            obtain ⟨ta, tm, ra, rn, rs, htv, hta, hra, hRA⟩ := ht3 x hxa.1
            obtain ⟨ls, le, hls, hLS⟩ := Fi.left
            have hi62 := Nat.lt_of_lt_of_le hi (Nat.le_trans hzs hn62)
            have hx62 := Nat.lt_of_lt_of_le hxa.1 hn62
            obtain ⟨tx, hLx⟩ := hLS.lit hx hi62
            obtain ⟨epm, hmd⟩ := Fi.list
            have hB : ∀ p ∈ B6, p ∈ nx1 ++ own := fun p hp => Bo.keep p (List.mem_append_right _ hp)
            have g1 := hB _ hsta
            have g2 := hB _ ht1
            have g3 := hB _ hta
            have g4 := hB _ hls
            have g5 := List.mem_append_left own hA
            have iT : LIt tvs2 (x : Int) (.ref ta) := ⟨x, rfl, htv, hx62⟩
            have iX : LIt (lst X (List.range (2 + v))) (x : Int) (.ref (X x)) := lst_at (List.getElem?_range hxa.1) hx62
            have iM : LIt (lst X (alive (2 + v) R)) (i : Int) (.ref (X x)) := lst_at hx hi62
            k_steps
            unfold PStop
            rename Chg _ _ _ _ => CA
            rename (_ = Data.cell (some (Value.ref ra))) => dA2
            rename List (Addr × Obj) => nx2
            rename Obj => oA2
            have B8 := Bo.chg CA (.head _)
            have hA2 := CA.here
            have hB2 : ∀ p ∈ B6, p ∈ nx2 := fun p hp => B8.keep p (List.mem_append_right _ hp)
            clear N₁ F₁ g1 g2 g3 g4 g5 CA iT iX
            have g1 := hB2 _ hsta
            have g3 := hB2 _ hra
            have g4 := hB2 _ hmd
            have sx := (Fi.st x hxa.1).mono hB2
            obtain ⟨i1, i2, i3, i4, i5, i6, i0, inf, ina, itr, hsd⟩ := sx.dict
            have hsi := sx.inst
            obtain ⟨od, hod, hdd⟩ := Fi.arcs x hxa.1 hxa.2
            have g6 := hB2 _ hod
            k_steps
            unfold PStop
            rename Fr _ _ _ _ => F18
            rename News _ _ _ _ => N18
            have hax := Ls.bt.ok x hxa.1
            have hl3 := hax.len
            have hrs3 : rs.length ≤ 3 := by rw [hRA.len]; exact hl3
            refine sort_dict rfl F18 N18 sx.low g6 hdd (vals_small hl3) ?_
            rintro D1 h1 tk1 vs1 ss1 e1 F19 N19 l19 hS1 hp1 ho1
            rw [vals_keys] at hp1
            clear F18 N18
            k_steps
            unfold PStop
            refine' listcomp_eval F19 ?k1 ?k2 ?k3 ?k4 ?_ ?k6
            case k1 => with_unfolding_all rfl
            case k2 => decide
            case k3 => rfl
            case k4 => decide
            case k6 => intro _; rfl
            have hA3 := List.Mem.tail (D1, listOf vs1.toArray e1) hA2
            k_steps
            unfold PStop
            refine comp_list ((D1, listOf vs1.toArray e1) :: nx2) (.tail _ g3) rfl F19 N19 (Nat.le_trans hrs3 (by decide))
              (fun j v mC => ∃ l tl, ((arcs x).map (·.1))[j]? = some l ∧ mC (Str.ofString "label") = some (.str l tl)) ?_
              (fun j ys nx => (∀ p ∈ (D1, listOf vs1.toArray e1) :: nx2, p ∈ nx) ∧ StrsAre ys (((arcs x).map (·.1)).take j)) (fun j ys nx h => h.1) ⟨fun p hp => hp, .nil⟩ ?_ ?_
            · intro j vj C mC s Q E hv hkeep hn hret
              obtain ⟨a, n, tl, ti, l, t, hSj, rfl, hm⟩ := hRA.lit hv
              refine asg_pair rfl rfl rfl rfl (by decide) ⟨_, hkeep _ (.tail _ (hB2 _ hm)), rfl, n, rfl⟩ hn hn.lt fun h' mC' tk' a b c => hret h' mC' tk' a ⟨l, tl, ?_, b.1⟩ c
              rw [List.getElem?_map, show (arcs x)[j]? = some (l, t) from hSj]
              rfl
            · rintro j vj ys nx C mC h tk own' E' hv hys ⟨hsub7, hY⟩ ⟨l, tl, hlj, hml⟩ hns hoff' hC F₁ N₁
              refine wpAny_pure ?_
              rw [if_pos rfl]
              k_steps
              unfold PStop
              refine CEnd.intro nx (by assumption) (by assumption) (fun p hp => List.mem_append_left _ hp) (fun p hp => List.mem_append_right _ hp) hoff' ⟨hsub7, ?_⟩
              rw [List.take_add_one, hlj]
              exact strs_snoc hY
            · rintro s₂ D2 ys2 nx5 h' tk ⟨_, _, rfl⟩ F₁ N₁ hoffD2 hys2 ⟨hsub7, hY⟩
              have hlr : rs.length = (arcs x).length := hRA.len
              rw [hlr, List.take_of_length_le (by simp)] at hY
              clear F19 N19
              k_steps
              unfold PStop
              refine sorted_N_str F₁ N₁ ⟨_, (N₁ _ (.head _)).1, rfl, _, rfl⟩ hY (Nat.lt_of_le_of_lt (Nat.le_trans hys2 hrs3) (by decide)) ?_
              intro h2 vs2 ss2 e2 F20 N20 hS2 hp2 ho2
              obtain ⟨K7, hK7, m7, s7⟩ := head_of N20
              rw [hK7] at N20
              have hss := sorted_one (fun y hy => let ⟨q, hq, e⟩ := List.mem_map.mp hy; e ▸ hax.lab q hq) hax.nd hp1 hp2 ho1 ho2
              subst hss
              clear F₁ N₁
              k_steps
              unfold PStop
              refine strs_ne N20 (s7 _ (.tail _ (hsub7 _ (.head _)))) m7 hS1 hS2 (fun y hy => let ⟨q, hq, e⟩ := List.mem_map.mp (hp1.mem_iff.mp hy); e ▸ hax.lab q hq) (by ktr_units) ?_
              have hA5 := s7 _ (.tail _ (hsub7 _ hA3))
              k_steps
              unfold PStop
              rename Fr _ _ _ _ => F21
              have k7 : ∀ p ∈ nx2, p ∈ K7 := fun p hp => s7 _ (.tail _ (hsub7 _ (.tail _ hp)))
              refine list_turns (vs := rs) (nn := rn) (JW5 K7 (X x) SL lf TL D) rfl F21 N20 (fun i m nx h => h.1 _ (k7 _ g3)) ⟨fun p hp => hp, .cons rfl (.cons rfl (.cons rfl (.cons rfl (.cons rfl .nil))))⟩ ?_ ?_
              · clear F21 N20
                rintro t vv m₁ nx9 h tk own9 hv hoff9 ⟨hs9, hm₁⟩ F₁ N₁
                replace F₁ := fr_lit F₁ hm₁
                dsimp only [kstB] at F₁
                obtain ⟨a, na, tl, ti, l, to, hSt, rfl, hmem⟩ := hRA.lit hv
                have hto : to < 2 + v := hax.lt _ (List.mem_of_getElem? hSt)
                have hRto : R to < 2 + v := hR.lt hto
                have u9 : ∀ p ∈ B6, p ∈ nx9 ++ own9 := fun p hp => List.mem_append_left own9 (hs9 _ (k7 _ (hB2 _ hp)))
                obtain ⟨fs9, ef9, hff, hNF⟩ := Fi.first
                obtain ⟨oF9, hoF9, dF9⟩ := Fi.cellF
                have m1 := u9 _ hmem
                have m2 := u9 _ hsta
                have m3 := u9 _ hod
                have m4 := u9 _ hff
                have m5 := u9 _ hoF9
                have sx9 := (Fi.st x hxa.1).mono u9
                obtain ⟨j1, j2, j3, j4, j5, j6, j0, jnf, jna, jtr, hsd9⟩ := sx9.dict
                have hsi9 := sx9.inst
                obtain ⟨tF, iF⟩ := hNF.lit hto hn3
                have iS : LIt (lst X (List.range (2 + v))) (R to : Int) (.ref (X (R to))) := lst_at (List.getElem?_range hRto) (Nat.lt_of_lt_of_le hRto hn62)
                have hval := vals_label (X := X) (R := R) hax.nd (List.mem_of_getElem? hSt)
                k_steps
                unfold PStop
                rename Fr _ _ _ _ => F22
                rename News _ _ _ _ => N22
                k_dflt (refine kba_turn (value' := PySem.Expr.Name (PySem.Str.ofString "_") ⟨0, 0, 0, 0⟩) (fun _ => rfl) ?_)
                k_dflt (refine kda_item (knd := PySem.strKind _ _) N22 m3 hdd (strKind_is _ _ _ _) hval ?_)
                k_steps
                unfold PStop
                exact InvEndG.intro (by assumption) (by assumption) ⟨hs9, .cons rfl (.cons rfl (.cons rfl (.cons rfl (.cons rfl .nil))))⟩ hoff9 (fun p hp => List.mem_append_left _ hp) (fun p hp => List.mem_append_right _ hp)
              · clear F21 N20
                rintro m₁ nx9 h tk ⟨hs9, hm₁⟩ F₁ N₁
                replace F₁ := fr_lit F₁ hm₁
                dsimp only [kstB] at F₁
                k_steps
                unfold PStop
                have hcc := hs9 _ hA5
                refine InvEndG.intro (by assumption) (by assumption) (nx := (s1.heap.objs.size + 1 + 1 + 1, oA2) :: B6) ⟨⟨fun p hp => .tail _ hp, Bp.off, fun a ha => ⟨oA2, by rw [List.mem_singleton.mp ha]; exact .head _⟩⟩, ⟨oA2, _, .head _, dA2⟩, .cons rfl (.cons rfl (.cons rfl (.cons rfl .nil)))⟩ ?_ ?_ ?_
                · intro p hp b hb
                  rw [List.map_cons] at hb
                  rcases List.mem_cons.mp hb with rfl | hb
                  · exact hoff p hp _ (List.mem_map.mpr ⟨_, hA, rfl⟩)
                  · exact OwnOff.sub hoff Bp.keep p hp b hb
                · intro p hp
                  rcases List.mem_cons.mp hp with rfl | hp
                  · exact hcc
                  · exact hs9 _ (k7 _ (hB2 _ hp))
                · intro p hp
                  exact hs9 _ (k7 _ (B8.keep p (List.mem_append_left _ hp)))
          case done3 =>
            rintro m₁ nx3 h tk ⟨Bp, hA, hm₁⟩ F₁ N₁
            k_steps
end Mine
theorem PySem.Challenge.cw_iv0022_01_holds : PySem.Challenge.rw_iv0022_01.Holds :=
  Mine.cw
