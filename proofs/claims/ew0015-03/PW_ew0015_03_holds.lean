import PyProof.Rows.All
import Wide.All
import OpenK.AllK
import Wide.FinOn
import PySem.Challenge.RW_ew0015_03
set_option Elab.async false
section
open PySem PySem.W PyProof.Rows
namespace Mine
set_option maxRecDepth 100000 in
set_option maxHeartbeats 8000000 in
open_top hd for PySem.Challenge.rw_ew0015_03
end Mine
end
section
open PySem PySem.W PySem.Calls PyProof.Rows
namespace Mine
set_option maxRecDepth 100000

def Stop (P : Prop) : Prop := P
theorem Stop.on {P : Prop} (h : Stop P) : P := h
theorem Stop.off {P : Prop} (h : P) : Stop P := h

/-! ledgers -/
theorem News.sub {h₀ h : Heap} {L : Addr} {l l' : List (Addr × Obj)} (N : News h₀ L h l) (hs : ∀ p ∈ l', p ∈ l) : News h₀ L h l' := fun p hp => N p (hs p hp)
theorem offLt {l : List (Addr × Obj)} {d : Addr} (h : ∀ p ∈ l, p.1 < d) : ∀ p ∈ l, p.1 ≠ d := fun p hp => Nat.ne_of_lt (h p hp)

theorem offLt2 {l : List (Addr × Obj)} {c d : Addr} (h2 : c < d) (h : ∀ p ∈ l, p.1 < c) : ∀ p ∈ l, p.1 ≠ d := fun p hp => Nat.ne_of_lt (Nat.lt_trans (h p hp) h2)

/-! the end of a loop's turn -/
def TurnEnd (h₀ : Heap) (L I : Addr) (own : List (Addr × Obj)) (Jn : (Str → Option Value) → List (Addr × Obj) → Prop) (s₁ s₂ : Shared) : Prop :=
  ∃ h' tk m' all nx, s₂ = { s₁ with heap := h', toks := tk } ∧ Fr h₀ L h' m' ∧ News h₀ L h' all ∧ (∀ p ∈ own, p ∈ all) ∧ (∀ p ∈ nx, p ∈ all) ∧ (∀ p ∈ nx, p.1 ≠ I) ∧ Jn m' nx
def TurnPost (h₀ : Heap) (L I : Addr) (own : List (Addr × Obj)) (Jn : (Str → Option Value) → List (Addr × Obj) → Prop) (s₁ : Shared) (Q : Flow → Shared → Prop) (f : Flow) (s₂ : Shared) : Prop :=
  match f with
  | .ret v => Q (.ret v) s₂
  | .brk => Q .next s₂
  | _ => TurnEnd h₀ L I own Jn s₁ s₂
theorem TurnEnd.mk {h₀ : Heap} {L I : Addr} {own : List (Addr × Obj)} {Jn : (Str → Option Value) → List (Addr × Obj) → Prop} {s₁ : Shared} {h' : Heap} {tk : Nat} {m' : Str → Option Value} {all : List (Addr × Obj)} (nx : List (Addr × Obj))
    (F : Fr h₀ L h' m') (N : News h₀ L h' all) (ho : ∀ p ∈ own, p ∈ all) (hn : ∀ p ∈ nx, p ∈ all) (hI : ∀ p ∈ nx, p.1 ≠ I) (hj : Jn m' nx) : TurnEnd h₀ L I own Jn s₁ { s₁ with heap := h', toks := tk } :=
  ⟨h', tk, m', all, nx, rfl, F, N, ho, hn, hI, hj⟩

theorem TurnEnd.app {h₀ : Heap} {L I : Addr} {own : List (Addr × Obj)} {Jn : (Str → Option Value) → List (Addr × Obj) → Prop} {s₁ : Shared} {h' : Heap} {tk : Nat} {m' : Str → Option Value} {nx : List (Addr × Obj)}
    (F : Fr h₀ L h' m') (N : News h₀ L h' (nx ++ own)) (hI : ∀ p ∈ nx, p.1 ≠ I) (hj : Jn m' nx) : TurnEnd h₀ L I own Jn s₁ { s₁ with heap := h', toks := tk } :=
  ⟨h', tk, m', _, nx, rfl, F, N, fun _ h => List.mem_append_right _ h, fun _ h => List.mem_append_left _ h, hI, hj⟩
theorem offSame {I : Addr} {l l' : List (Addr × Obj)} (e : l'.map (·.1) = l.map (·.1)) (h : ∀ p ∈ l, p.1 ≠ I) : ∀ p ∈ l', p.1 ≠ I := fun p hp q => by
  have : p.1 ∈ l.map (·.1) := e ▸ List.mem_map.mpr ⟨p, hp, rfl⟩
  obtain ⟨r, hr, e'⟩ := List.mem_map.mp this
  exact h r hr (e'.trans q)

section
variable {prog : Program} {w : World} {A : Around} {E : Value → Shared → Prop} {s : Shared} {env : Env} {h₀ : Heap} {x : Str} {body : List Stmt} {Q : Flow → Shared → Prop}

theorem loopJ {I : Addr} {fp : List Addr} {n : Nat} {P : Nat → Value → Prop} {St : Nat → Heap → Prop} {m₀ : Str → Option Value} {news : List (Addr × Obj)} (J : Nat → (Str → Option Value) → List (Addr × Obj) → Prop)
    (W : Walks prog w A I fp [I] n P St) (hst : St 0 s.heap) (hLf : env.locals ∉ fp) (hI0 : h₀.get? I = none) (hnw : ∀ p ∈ news, p.1 ≠ I)
    (F : Fr h₀ env.locals s.heap m₀) (N : News h₀ env.locals s.heap news) (hj : J 0 m₀ news)
    (turn : ∀ i v m₁ news₁ own h tk, i < n → P i v → J i m₁ news₁ → (∀ p ∈ own, p.1 ∈ fp) → (∀ p ∈ news₁, p.1 ≠ I) → (∀ b ∈ fp, h₀.get? b = none → ∀ o, h.get? b = some o → (b, o) ∈ own) → St (i + 1) h →
      Fr h₀ env.locals h (fun y => if y = x then some v else m₁ y) → News h₀ env.locals h (news₁ ++ own) →
      wpAny (model prog w) A (execs body env) (TurnPost h₀ env.locals I own (J (i + 1)) { s with heap := h, toks := tk } Q) E { s with heap := h, toks := tk })
    (done : ∀ m₁ news₁ h tk, J n m₁ news₁ → (∀ p ∈ news₁, p.1 ≠ I) → Fr h₀ env.locals h m₁ → News h₀ env.locals h news₁ → Q .next { s with heap := h, toks := tk }) :
    LoopAtV prog w A h₀ env x body Q E (.ref I) s := by
  refine ⟨I, fp, [I], n, P, St, m₀, news, J, rfl, W, hLf, ?_, ?_, hst, F, N, hj, ?_, ?_⟩
  · intro b hb; rw [List.mem_singleton.mp hb]; exact hI0
  · intro p hp hI; exact hnw p hp (List.mem_singleton.mp hI)
  · rintro i v m₁ news₁ s₁ own ⟨hh', tk', rfl⟩ hi hP hJ hoff hown _ hall hst₁ F₁ N₁
    have hoff' : ∀ p ∈ news₁, p.1 ≠ I := fun p hp e => hoff p hp (List.mem_singleton.mpr e)
    have N₂ : News h₀ env.locals hh' (news₁ ++ own) := fun p hp => N₁ p ((List.mem_append.mp hp).elim (fun h => List.mem_append.mpr (.inr h)) fun h => List.mem_append.mpr (.inl h))
    refine wpAny_mono (turn i v m₁ news₁ own hh' tk' hi hP hJ hown hoff' hall hst₁ F₁ N₂) (fun f s₂ p => ?_) fun _ _ e => e
    have fin : TurnEnd h₀ env.locals I own (J (i + 1)) { s with heap := hh', toks := tk' } s₂ → LoopStepU h₀ env.locals [I] own (J (i + 1)) { s with heap := hh', toks := tk' } .next s₂ := by
      rintro ⟨h', tk, m', all, nx, e, F', N', ho, hn, hI, hm⟩
      exact ⟨rfl, h', tk, m', nx, e, F', fun p hp => N' p ((List.mem_append.mp hp).elim (ho p) (hn p)), fun p hp hq => hI p hp (List.mem_singleton.mp hq), hm⟩
    cases f with
    | ret v => exact .ret p
    | brk => exact .brk p
    | next => exact .next (fin p)
    | cont => exact .cont (fin p)
  · rintro h' tk m' news' F' N' hoff hJ
    exact done m' news' h' tk hJ (fun p hp e => hoff p hp (List.mem_singleton.mpr e)) F' N'

/-- a loop over a text's signs (ASCII) -/
theorem iter_strJ {y : Str} {t : Tok} {m₀ : Str → Option Value} {news : List (Addr × Obj)} (J : Nat → (Str → Option Value) → List (Addr × Obj) → Prop)
    (hh : A.handled = none) (ha : y.cps.all (· < 128) = true) (F : Fr h₀ env.locals s.heap m₀) (N : News h₀ env.locals s.heap news) (hj : J 0 m₀ news)
    (turn : ∀ i c u m₁ news₁ I own h tk, y.cps[i]? = some c → J i m₁ news₁ → (∀ p ∈ own, p.1 = I) → (∀ p ∈ news₁, p.1 ≠ I) → (∃ o, (I, o) ∈ own) →
      Fr h₀ env.locals h (fun z => if z = x then some (.str ⟨#[c]⟩ u) else m₁ z) → News h₀ env.locals h (news₁ ++ own) →
      wpAny (model prog w) A (execs body env) (TurnPost h₀ env.locals I own (J (i + 1)) { s with heap := h, toks := tk } Q) E { s with heap := h, toks := tk })
    (done : ∀ m₁ news₁ h tk, J y.cps.size m₁ news₁ → Fr h₀ env.locals h m₁ → News h₀ env.locals h news₁ → Q .next { s with heap := h, toks := tk }) :
    wpAny (model prog w) A (pyIter (.str y t)) (fun it s₂ => LoopAtV prog w A h₀ env x body Q E it s₂) E s := by
  refine wpAny_pyIter_ascii ha ?_
  have hn := next_is_new F
  refine loopJ (P := SignAt y) (St := fun i h => h.IsStrIter s.heap.objs.size "str_ascii_iterator" y t i) J (Walks.strAscii hh s.heap.objs.size y t) ⟨_, Heap.get?_push_size _ rfl, rfl, rfl⟩ ?_ hn ?_ (F.push _) (fun p hp => ⟨Heap.get?_push_of_some _ (N p hp).1, (N p hp).2⟩) hj ?_ ?_
  · intro hm; exact absurd F.ns.lt ((List.mem_singleton.mp hm) ▸ Nat.lt_irrefl _)
  · intro p hp hI; exact absurd (Heap.lt_size (N p hp).1) (hI ▸ Nat.lt_irrefl _)
  · rintro i v m₁ news₁ own h tk _ ⟨c, u, hc, rfl⟩ hJ hown hoff hall ⟨o, ho, _⟩ F₁ N₁
    exact turn i c u m₁ news₁ _ own h tk hc hJ (fun p hp => List.mem_singleton.mp (hown p hp)) hoff ⟨o, hall _ (.head _) hn o ho⟩ F₁ N₁
  · intro m₁ news₁ h tk hJ _ F₁ N₁
    exact done m₁ news₁ h tk hJ F₁ N₁

/-- a loop over a list's items, whatever they are; the list stands as it is -/
theorem iter_listJ {l : Addr} {vs : List Value} {m₀ : Str → Option Value} {news : List (Addr × Obj)} (J : Nat → (Str → Option Value) → List (Addr × Obj) → Prop)
    (hh : A.handled = none) (hl : s.heap.IsList l vs.toArray) (hL : l ≠ env.locals) (F : Fr h₀ env.locals s.heap m₀) (N : News h₀ env.locals s.heap news) (hj : J 0 m₀ news)
    (turn : ∀ i v m₁ news₁ I own h tk, vs[i]? = some v → J i m₁ news₁ → (∀ p ∈ own, p.1 = I ∨ p.1 = l) → (∀ p ∈ news₁, p.1 ≠ I) → (∃ o, (I, o) ∈ own) → h.IsList l vs.toArray → l ≠ I →
      Fr h₀ env.locals h (fun z => if z = x then some v else m₁ z) → News h₀ env.locals h (news₁ ++ own) →
      wpAny (model prog w) A (execs body env) (TurnPost h₀ env.locals I own (J (i + 1)) { s with heap := h, toks := tk } Q) E { s with heap := h, toks := tk })
    (done : ∀ m₁ news₁ h tk, J vs.length m₁ news₁ → Fr h₀ env.locals h m₁ → News h₀ env.locals h news₁ → Q .next { s with heap := h, toks := tk }) :
    wpAny (model prog w) A (pyIter (.ref l)) (fun it s₂ => LoopAtV prog w A h₀ env x body Q E it s₂) E s := by
  obtain ⟨ol, hol, _⟩ := id hl
  have hlt : l < s.heap.objs.size := Heap.lt_size hol
  refine wpAny_pyIter_list hl ?_
  have hn := next_is_new F
  have W := Walks.list (prog := prog) (w := w) hh s.heap.objs.size l (Nat.ne_of_lt hlt) vs.toArray
  have hlen : vs.toArray.size = vs.length := by simp
  rw [hlen] at W
  refine loopJ J W ⟨⟨_, Heap.get?_push_size _ rfl, rfl, rfl⟩, hl.at fun o e => Heap.get?_push_of_some _ e⟩ ?_ hn ?_ (F.push _) (fun p hp => ⟨Heap.get?_push_of_some _ (N p hp).1, (N p hp).2⟩) hj ?_ ?_
  · intro hm
    rcases List.mem_cons.mp hm with e | hm
    · exact absurd F.ns.lt (e ▸ Nat.lt_irrefl _)
    · exact hL (List.mem_singleton.mp hm).symm
  · intro p hp hI; exact absurd (Heap.lt_size (N p hp).1) (hI ▸ Nat.lt_irrefl _)
  · rintro i v m₁ news₁ own h tk _ hP hJ hown hoff hall ⟨⟨o, ho, _⟩, hl'⟩ F₁ N₁
    exact turn i v m₁ news₁ _ own h tk (by simpa using hP) hJ (fun p hp => by simpa using hown p hp) hoff ⟨o, hall _ (.head _) hn o ho⟩ hl' (Nat.ne_of_lt hlt) F₁ N₁
  · intro m₁ news₁ h tk hJ _ F₁ N₁
    exact done m₁ news₁ h tk hJ F₁ N₁

/-- a loop over a range by ones -/
theorem iter_rangeJ {r : Addr} {a₀ b₀ : Int} {t₀ u₀ v₀ : Tok} {n : Nat} {m₀ : Str → Option Value} {news : List (Addr × Obj)} (J : Nat → (Str → Option Value) → List (Addr × Obj) → Prop)
    (hh : A.handled = none) (hr : IsRange s.heap r a₀ b₀ 1 t₀ u₀ v₀) (hsmall : Builtin.Range.small a₀ b₀ 1 = true) (hn : Builtin.Range.rangeSize a₀ b₀ 1 = (n : Int)) (F : Fr h₀ env.locals s.heap m₀) (N : News h₀ env.locals s.heap news) (hj : J 0 m₀ news)
    (turn : ∀ i u m₁ news₁ I own h tk, i < n → J i m₁ news₁ → (∀ p ∈ own, p.1 = I) → (∀ p ∈ news₁, p.1 ≠ I) → (∃ o, (I, o) ∈ own) →
      Fr h₀ env.locals h (fun z => if z = x then some (.int (a₀ + (i : Int)) u) else m₁ z) → News h₀ env.locals h (news₁ ++ own) →
      wpAny (model prog w) A (execs body env) (TurnPost h₀ env.locals I own (J (i + 1)) { s with heap := h, toks := tk } Q) E { s with heap := h, toks := tk })
    (done : ∀ m₁ news₁ h tk, J n m₁ news₁ → Fr h₀ env.locals h m₁ → News h₀ env.locals h news₁ → Q .next { s with heap := h, toks := tk }) :
    wpAny (model prog w) A (pyIter (.ref r)) (fun it s₂ => LoopAtV prog w A h₀ env x body Q E it s₂) E s := by
  refine wpAny_pyIter_range hr hsmall ?_
  have hnew := next_is_new F
  have W : Walks prog w A s.heap.objs.size [s.heap.objs.size] [s.heap.objs.size] n (fun i v => i < n ∧ ∃ t, v = .int (a₀ + i * 1) t)
      (fun i h => IsRangeIter h s.heap.objs.size (a₀ + (i : Nat) * 1) ((n : Int) - (i : Nat)) 1) := (Walks.range hh _ a₀ 1 n).bound
  refine loopJ J W (by show IsRangeIter _ _ _ _ _; rw [hn]; simpa using Heap.get?_push_size _ rfl) ?_ hnew ?_ (F.push _) (fun p hp => ⟨Heap.get?_push_of_some _ (N p hp).1, (N p hp).2⟩) hj ?_ ?_
  · intro hm; exact absurd F.ns.lt ((List.mem_singleton.mp hm) ▸ Nat.lt_irrefl _)
  · intro p hp hI; exact absurd (Heap.lt_size (N p hp).1) (hI ▸ Nat.lt_irrefl _)
  · rintro i v m₁ news₁ own h tk hi ⟨_, u, rfl⟩ hJ hown hoff hall hst F₁ N₁
    have e1 : a₀ + (i : Int) * 1 = a₀ + (i : Int) := by rw [Int.mul_one]
    rw [e1] at F₁
    exact turn i u m₁ news₁ _ own h tk hi hJ (fun p hp => List.mem_singleton.mp (hown p hp)) hoff ⟨_, hall _ (.head _) hnew _ hst⟩ F₁ N₁
  · intro m₁ news₁ h tk hJ _ F₁ N₁
    exact done m₁ news₁ h tk hJ F₁ N₁
end

/-! lists of texts -/
theorem strs_len : ∀ {vs : List Value} {ys : List Str}, StrsAre vs ys → vs.length = ys.length
  | _, _, .nil => rfl
  | _, _, .cons _ _ h => congrArg (· + 1) (strs_len h)
theorem strs_app : ∀ {vs us : List Value} {ys zs : List Str}, StrsAre vs ys → StrsAre us zs → StrsAre (vs ++ us) (ys ++ zs)
  | _, _, _, _, .nil, h => h
  | _, _, _, _, .cons y t a, h => .cons y t (strs_app a h)
theorem strs_snoc {vs : List Value} {ys : List Str} (h : StrsAre vs ys) (y : Str) (t : Tok) : StrsAre (vs ++ [.str y t]) (ys ++ [y]) := strs_app h (.cons y t .nil)
theorem strs_dropLast : ∀ {vs : List Value} {ys : List Str}, StrsAre vs ys → StrsAre vs.dropLast ys.dropLast
  | _, _, .nil => .nil
  | _, _, .cons _ _ .nil => .nil
  | _, _, .cons y t (.cons z u h) => .cons y t (strs_dropLast (StrsAre.cons z u h))
theorem strs_last : ∀ {vs : List Value} {ys : List Str}, StrsAre vs ys → ys ≠ [] → ∃ t, vs.getLast? = some (.str (ys.getLastD ⟨#[]⟩) t)
  | _, _, .nil, h => absurd rfl h
  | _, _, .cons y t .nil, _ => ⟨t, rfl⟩
  | _, _, .cons y t (.cons z u h), _ => by
    obtain ⟨t', e⟩ := strs_last (StrsAre.cons z u h) (by simp)
    refine ⟨t', ?_⟩
    rw [List.getLast?_cons_cons, e]
    simp [List.getLastD]
theorem strs_at : ∀ {vs : List Value} {ys : List Str}, StrsAre vs ys → ∀ {i : Nat} {v : Value}, vs[i]? = some v → ∃ y t, ys[i]? = some y ∧ v = .str y t
  | _, _, .nil, _, _, h => by simp at h
  | _, _, .cons y t _, 0, _, h => ⟨y, t, rfl, by simpa using h.symm⟩
  | _, _, .cons _ _ r, i + 1, _, h => by simpa using strs_at r (i := i) (by simpa using h)

section
variable {prog : Program} {w : World} {A : Around} {E : Value → Shared → Prop} {s : Shared} {h₀ : Heap} {L l : Addr} {m : Str → Option Value} {news news' : List (Addr × Obj)} {vs : List Value} {n : Nat} {t : Tok} {v : Value}
theorem neg1_get {value slice : PySem.Expr} {Q : Value → Shared → Prop} (N : News h₀ L s.heap news) (hm : (l, listOf vs.toArray n) ∈ news) (hv : vs.getLast? = some v) (h : Q v s)
    (hs : subscripted slice false (.ref l) (.int (-1) t) = operate [.ref l, .int (-1) t] (getItem (.ref l) (.int (-1) t)) := by with_unfolding_all rfl) :
    wpAny (model prog w) A (subscriptTail value slice (.ref l) (.int (-1) t)) Q E s := by
  have hl : s.heap.IsList l vs.toArray := PySem.IsL.isList (n := n) (N _ hm).1
  have hne : 0 < vs.length := by cases vs with | nil => cases hv | cons _ _ => simp
  refine tail_any hl.typeIs slot_list_getitem.lookup (wpAny_getItem_list_neg hl (by decide) (by simp; omega) (by decide) ?_ h) hs
  rw [List.getLast?_eq_getElem?] at hv
  have e : ((-1 : Int) + (vs.toArray.size : Int)).toNat = vs.length - 1 := by simp; omega
  rw [e]; simpa using hv
theorem neg1_set {Q : Unit → Shared → Prop} (F : Fr h₀ L s.heap m) (N : News h₀ L s.heap news) (U : Upd l (listOf vs.toArray n) (listOf (vs.dropLast ++ [v]).toArray n) news news') (hne : 0 < vs.length)
    (h : ∀ h', Fr h₀ L h' m → News h₀ L h' news' → Q () { s with heap := h' }) : wpAny (model prog w) A (setItem (.ref l) (.int (-1) t) v) Q E s := by
  obtain ⟨pre, post, rfl, rfl, a, b⟩ := U.split
  have z := N (l, listOf vs.toArray n) (List.mem_append.mpr (.inr (.head _)))
  have e : ((-1 : Int) + (vs.toArray.size : Int)).toNat = vs.length - 1 := by simp; omega
  refine ki_setBack z.1 (by decide) (by simp; omega) (by decide) (h _ (F.change (Heap.SameBut.update ..) z.2.1 z.2.2) (ki_turn _ N a b ?_ ?_))
  · rw [e]
    apply Array.toList_inj.mp
    simp only [Array.toList_setIfInBounds]
    obtain ⟨us, u, rfl⟩ : ∃ us u, vs = us ++ [u] := ⟨vs.dropLast, vs.getLast (by intro q; simp [q] at hne), (List.dropLast_concat_getLast _).symm⟩
    simp
  · obtain ⟨us, u, rfl⟩ : ∃ us u, vs = us ++ [u] := ⟨vs.dropLast, vs.getLast (by intro q; simp [q] at hne), (List.dropLast_concat_getLast _).symm⟩
    simp
end

/-- a list's item, the place symbolic -/
theorem list_item {prog : Program} {w : World} {A : Around} {E : Value → Shared → Prop} {s : Shared} {l : Addr} {items : Array Value} {k : Int} {t : Tok} {v : Value} {value slice : PySem.Expr} {Q : Value → Shared → Prop} (hl : s.heap.IsList l items) (h0 : 0 ≤ k) (hk : k < 1000000)
    (hv : items[k.toNat]? = some v) (h : Q v s) (hs : subscripted slice false (.ref l) (.int k t) = operate [.ref l, .int k t] (getItem (.ref l) (.int k t)) := by with_unfolding_all rfl) :
    wpAny (model prog w) A (subscriptTail value slice (.ref l) (.int k t)) Q E s :=
  tail_any hl.typeIs slot_list_getitem.lookup (wpAny_getItem_list hl h0 (by omega) hv h) hs

theorem range_facts {a : Int} {n : Nat} (ha : a = 0 ∨ a = 1) (h : n ≤ 100000) : Builtin.Range.small a (a + (n : Int)) 1 = true ∧ Builtin.Range.rangeSize a (a + (n : Int)) 1 = (n : Int) := by
  have e : Builtin.Range.rangeSize a (a + (n : Int)) 1 = (n : Int) := by
    unfold Builtin.Range.rangeSize
    rw [if_pos (by decide)]
    by_cases hn : n = 0
    · subst hn; rw [if_neg (by simp)]; rfl
    · rw [if_pos (by omega), Int.ediv_one]; omega
  refine ⟨?_, e⟩
  unfold Builtin.Range.small
  rw [e]
  have f : ∀ z : Int, -1000000 ≤ z → z ≤ 1000000 → Builtin.Range.rangeFitsLong z = true := fun z h1 h2 => by
    unfold Builtin.Range.rangeFitsLong
    simp only [Bool.and_eq_true, decide_eq_true_eq]
    omega
  rw [f a (by omega) (by omega), f (a + n) (by omega) (by omega), f 1 (by omega) (by omega), f n (by omega) (by omega), if_pos (by decide), f (a + n + (1 - 1)) (by omega) (by omega)]
  simp

theorem strs_get : ∀ {vs : List Value} {ys : List Str}, StrsAre vs ys → ∀ {i : Nat} {y : Str}, ys[i]? = some y → ∃ t, vs[i]? = some (.str y t)
  | _, _, .nil, _, _, h => by simp at h
  | _, _, .cons z t _, 0, _, h => ⟨t, by simpa using h⟩
  | _, _, .cons _ _ r, i + 1, _, h => by simpa using strs_get r (i := i) (by simpa using h)

/-! comprehensions by an invariant -/
section
open LCg LCt
variable {prog : Program} {w : World} {A : Around} {h₀ : Heap} {L : Addr} {m : Str → Option Value} {env : Env} {s : Shared}
theorem compEnd_mono {s₁ s₂ : Shared} {I C D : Addr} {oI oC oD : Obj} {S : List (Addr × Obj) → Prop} {r r' : Value → List (Addr × Obj) → Prop} {y : Value} (h : CompEnd h₀ L m s₁ I oI C oC D oD S r y s₂) (k : ∀ y n, r y n → r' y n) : CompEnd h₀ L m s₁ I oI C oC D oD S r' y s₂ := by
  obtain ⟨h', tk, nw, e, F, N, o, hS, hr⟩ := h
  exact ⟨h', tk, nw, e, F, N, o, hS, k _ _ hr⟩
theorem rest_ind {elt : Expr} {x : Str} {scope : Scope} {cl : List (Str × Addr)} {S : List (Addr × Obj) → Prop} {P : Nat → Value → Prop} {Fin : List Value → List (Addr × Obj) → Prop} {n : Nat} (J : Nat → List Value → List (Addr × Obj) → Prop)
    (fin : ∀ ys news, J n ys news → Fin ys news)
    (step : ∀ i ys news v I oI C oC D m₂ h tk (E' : Value → Shared → Prop), i < n → J i ys news → P i v → NsObj oC m₂ → m₂ x = some v → Fr h₀ L h m → News h₀ L h ((I, oI) :: (C, oC) :: (D, lst ys) :: news) → Off3 I C D news → ((@Ne Nat I C) ∧ (@Ne Nat I D) ∧ (@Ne Nat C D)) →
      wpAny (model prog w) A (eval elt (compEnvC scope cl C env)) (CompEnd h₀ L m { s with heap := h, toks := tk } I oI C oC D (lst ys) S (fun y news' => J (i + 1) (ys ++ [y]) news')) E' { s with heap := h, toks := tk }) :
    ∀ (k i : Nat) (ys : List Value) (news : List (Addr × Obj)), i + k = n → J i ys news → CompRest prog w A h₀ L m env elt x scope cl s S P Fin k i ys news
  | 0, i, ys, news, e, hj => CompRest.zero (fin ys news (by rw [← show i = n from e]; exact hj))
  | k + 1, i, ys, news, e, hj => CompRest.succ fun v I oI C oC D m₂ h tk E' hP hC hx F N o ne =>
      wpAny_mono (step i ys news v I oI C oC D m₂ h tk E' (by omega) hj hP hC hx F N o ne) (fun y s' z => compEnd_mono z fun y' n' hj' => rest_ind J fin step k (i + 1) _ _ (by omega) hj') fun _ _ z => z
theorem restT_ind {ct elt : Expr} {x : Str} {scope : Scope} {cl : List (Str × Addr)} {S : List (Addr × Obj) → Prop} {P : Nat → Value → Prop} {Fin : List Value → List (Addr × Obj) → Prop} {n : Nat} (J : Nat → List Value → List (Addr × Obj) → Prop)
    (fin : ∀ ys news, J n ys news → Fin ys news)
    (step : ∀ i ys news v I oI C oC D m₂ h tk (E' : Value → Shared → Prop), i < n → J i ys news → P i v → NsObj oC m₂ → m₂ x = some v → Fr h₀ L h m → News h₀ L h ((I, oI) :: (C, oC) :: (D, lst ys) :: news) → Off3 I C D news → ((@Ne Nat I C) ∧ (@Ne Nat I D) ∧ (@Ne Nat C D)) →
      wpAny (model prog w) A (isTrue ct (compEnvC scope cl C env) (eval ct (compEnvC scope cl C env))) (fun ok s' => if ok = true then
        wpAny (model prog w) A (eval elt (compEnvC scope cl C env)) (CompEnd h₀ L m { s with heap := h, toks := tk } I oI C oC D (lst ys) S (fun y news' => J (i + 1) (ys ++ [y]) news')) E' s'
        else CompEnd h₀ L m { s with heap := h, toks := tk } I oI C oC D (lst ys) S (fun _ news' => J (i + 1) ys news') Value.none s') E' { s with heap := h, toks := tk }) :
    ∀ (k i : Nat) (ys : List Value) (news : List (Addr × Obj)), i + k = n → J i ys news → CompRestT prog w A h₀ L m env ct elt x scope cl s S P Fin k i ys news
  | 0, i, ys, news, e, hj => CompRestT.zero (fin ys news (by rw [← show i = n from e]; exact hj))
  | k + 1, i, ys, news, e, hj => CompRestT.succ fun v I oI C oC D m₂ h tk E' hP hC hx F N o ne =>
      wpAny_mono (step i ys news v I oI C oC D m₂ h tk E' (by omega) hj hP hC hx F N o ne) (fun ok s' z => by
        by_cases hok : ok = true
        · rw [if_pos hok] at z ⊢
          exact wpAny_mono z (fun y s'' z' => compEnd_mono z' fun y' n' hj' => restT_ind J fin step k (i + 1) _ _ (by omega) hj') fun _ _ z => z
        · rw [if_neg hok] at z ⊢
          exact compEnd_mono z fun y' n' hj' => restT_ind J fin step k (i + 1) _ _ (by omega) hj') fun _ _ z => z
end
end Mine
end
section
open PySem PySem.W PySem.Calls PyProof.Rows PyProof.V
namespace Mine
set_option maxRecDepth 100000

/-- a ledger less one address -/
def but (d : Addr) (l : List (Addr × Obj)) : List (Addr × Obj) := l.filter fun p => decide (p.1 ≠ d)
theorem mem_but {d : Addr} {l : List (Addr × Obj)} {p : Addr × Obj} : p ∈ but d l ↔ p ∈ l ∧ p.1 ≠ d := by unfold but; rw [List.mem_filter]; simp
theorem but_off {d : Addr} {l : List (Addr × Obj)} : ∀ p ∈ but d l, p.1 ≠ d := fun _ hp => (mem_but.mp hp).2
theorem mem_put {d : Addr} {o' : Obj} {l : List (Addr × Obj)} {p : Addr × Obj} (hp : p ∈ l) (hn : p.1 ≠ d) : p ∈ (d, o') :: but d l := .tail _ (mem_but.mpr ⟨hp, hn⟩)
theorem news_but {h₀ h : Heap} {L d : Addr} {o : Obj} {l : List (Addr × Obj)} (N : News h₀ L h l) (hm : (d, o) ∈ l) : News h₀ L h ((d, o) :: but d l) := fun p hp => by
  rcases List.mem_cons.mp hp with rfl | hp
  · exact N _ hm
  · exact N _ (mem_but.mp hp).1

section
variable {prog : Program} {w : World} {A : Around} {E : Value → Shared → Prop} {s : Shared} {h₀ : Heap} {L d : Addr} {m : Str → Option Value} {news : List (Addr × Obj)}
theorem kda_setB {K : Type} [DecidableEq K] {knd : KeyKind prog w K} {o : Obj} {kvs : List (K × Value)} {k : K} {key v : Value} {Q : Unit → Shared → Prop} (F : Fr h₀ L s.heap m) (N : News h₀ L s.heap news) (hm : (d, o) ∈ news) (hd : o.IsDictOf knd kvs) (hkey : knd.is k key = true) (hsz : kvs.length ≤ sizeLine)
    (h : ∀ h' o', Fr h₀ L h' m → News h₀ L h' ((d, o') :: but d news) → o'.IsDictOf knd (stored kvs k v) → Q () { s with heap := h', toks := s.toks + 1 }) : wpAny (model prog w) A (setItem (.ref d) key v) Q E s :=
  kda_set F (news_but N hm) (UpdF.head but_off) hd hkey hsz h
theorem append_B {vs : List Value} {n : Nat} {x : Value} {Q : Value → Shared → Prop} (F : Fr h₀ L s.heap m) (N : News h₀ L s.heap news) (hm : (d, listOf vs.toArray n) ∈ news) (hsz : vs.length ≤ 16777216)
    (h : ∀ h', Fr h₀ L h' m → News h₀ L h' ((d, listOf (vs ++ [x]).toArray (n + 1)) :: but d news) → Q .none { s with heap := h' }) : wpAny (model prog w) A (call (.builtin "list.append") [.ref d, x]) Q E s :=
  append_K F (news_but N hm) (Upd.head but_off) (fun h' F' N' => h h' F' (by rw [List.push_toArray] at N'; exact N')) (by rw [sizeLine_eq, List.size_toArray]; exact hsz)
theorem set_slotB {K : Frag} {x C p : Addr} {ox ox' od : Obj} {name : Str} {v : Value} {i : Nat} {Q : Unit → Shared → Prop} (F : Fr h₀ L s.heap m) (X₀ : K.In h₀) (N : News h₀ L s.heap news) (I : InstAt s.heap x ox C (some od))
    (hs : findIn K (.ref C) "__setattr__" = some (some (.builtin "object.__setattr__"))) (hp : plainOver K C = true) (ht : takerIn K C name = some (some (.ref p))) (hT : typeIn K (.ref p) = some (.type "member_descriptor")) (hi : slotIn K p C = some i) (hz : i < 1000)
    (e : { ox with slots := (ox.slots ++ Array.replicate (i + 1 - ox.slots.size) none).setIfInBounds i (some v) } = ox') (hf : ox'.isFreed = false) (hm : (x, ox) ∈ news)
    (h : ∀ h', Fr h₀ L h' m → News h₀ L h' ((x, ox') :: but x news) → Q () { s with heap := h', toks := s.toks + 1 }) : wpAny (model prog w) A (setAttr (.ref x) name v) Q E s :=
  set_slot F X₀ (news_but N hm) I hs hp ht hT hi hz e hf (Upd.head but_off) h
/-- a dict's item under a key: there, or a KeyError -/
theorem kda_item2 {K : Type} [DecidableEq K] {knd : KeyKind prog w K} {o : Obj} {kvs : List (K × Value)} {k : K} {key : Value} {value slice : PySem.Expr} {Q : Value → Shared → Prop} (N : News h₀ L s.heap news) (hm : (d, o) ∈ news) (hd : o.IsDictOf knd kvs) (lo : (d == sysModules) = false) (hh : A.handled = none) (hkey : knd.is k key = true)
    (h1 : ∀ v, valueAt kvs k = some v → Q v { s with toks := s.toks + 1 }) (h2 : valueAt kvs k = none → ∀ h' e, Heap.NewExc s.heap h' e "KeyError" → E (.ref e) { s with heap := h', toks := s.toks + 1 })
    (hs : subscripted slice false (.ref d) key = operate [.ref d, key] (getItem (.ref d) key) := by with_unfolding_all rfl) :
    wpAny (model prog w) A (subscriptTail value slice (.ref d) key) Q E s := by
  refine kdt_tail N hm hd ?_ hs
  cases hv : valueAt kvs k with
  | some v => exact kdt_getItem N hm hd hkey hv (h1 v hv)
  | none => exact wpAny_getItem_missing_of hkey lo hh (kda_dict N hm hd).mapOf hv (h2 hv)
end

/-! the trie's nodes -/
structure Nd where
  a : Addr
  dx : Addr
  c : Addr
  oc : Obj
  tok : Value
  out : Value
  fail : Value
def nodeObj (cN : Addr) (n : Nd) : Obj := { cls := .ref cN, dict := some n.dx, data := .plain, slots := #[some (.ref n.c), some n.fail, some n.out, some n.tok] }
def Nd.objs (cN : Addr) (n : Nd) : List (Addr × Obj) := [(n.a, nodeObj cN n), (n.dx, dictOf [] 0), (n.c, n.oc)]
def adOf (nd : List Nd) (j : Nat) : Addr := ((nd[j]?).map Nd.a).getD 0

theorem gl {α : Type} (us : List α) (u d : α) : (us ++ [u]).getLastD d = u := by rw [List.getLastD_eq_getLast?]; simp
/-- the children of a path: word and number, in the order of their making -/
def kidsFrom : Nat → List (List Str) → List Str → List (Str × Nat)
  | _, [], _ => []
  | k, q :: r, p => if q ≠ [] ∧ q.dropLast = p then (q.getLastD ⟨#[]⟩, k) :: kidsFrom (k + 1) r p else kidsFrom (k + 1) r p
def kids (P : List (List Str)) (p : List Str) : List (Str × Nat) := kidsFrom 0 P p
theorem kidsFrom_append : ∀ (P Q : List (List Str)) (k : Nat) (p : List Str), kidsFrom k (P ++ Q) p = kidsFrom k P p ++ kidsFrom (k + P.length) Q p
  | [], Q, k, p => by simp [kidsFrom]
  | q :: P, Q, k, p => by
    rw [List.cons_append, kidsFrom, kidsFrom, kidsFrom_append P Q (k + 1) p, List.length_cons]
    have e : k + 1 + P.length = k + (P.length + 1) := by omega
    rw [e]
    split <;> simp
theorem kids_snoc (P : List (List Str)) (q p : List Str) : kids (P ++ [q]) p = kids P p ++ (if q ≠ [] ∧ q.dropLast = p then [(q.getLastD ⟨#[]⟩, P.length)] else []) := by
  unfold kids
  rw [kidsFrom_append]
  congr 1
  simp only [kidsFrom, Nat.zero_add]
theorem kidsFrom_mem : ∀ {P : List (List Str)} {k : Nat} {p : List Str} {x : Str} {j : Nat}, (x, j) ∈ kidsFrom k P p → ∃ i, j = k + i ∧ P[i]? = some (p ++ [x])
  | [], _, _, _, _, h => by simp [kidsFrom] at h
  | q :: P, k, p, x, j, h => by
    rw [kidsFrom] at h
    split at h
    · rename_i hq
      rcases List.mem_cons.mp h with e | h
      · cases e
        refine ⟨0, rfl, ?_⟩
        obtain ⟨us, u, rfl⟩ : ∃ us u, q = us ++ [u] := ⟨q.dropLast, q.getLast hq.1, (List.dropLast_concat_getLast _).symm⟩
        rw [← hq.2, gl]; simp
      · obtain ⟨i, rfl, hi⟩ := kidsFrom_mem h
        exact ⟨i + 1, by omega, by simpa using hi⟩
    · obtain ⟨i, rfl, hi⟩ := kidsFrom_mem h
      exact ⟨i + 1, by omega, by simpa using hi⟩
theorem kids_mem {P : List (List Str)} {p : List Str} {x : Str} {j : Nat} (h : (x, j) ∈ kids P p) : P[j]? = some (p ++ [x]) := by
  obtain ⟨i, e, hi⟩ := kidsFrom_mem h
  rw [show j = i by omega]; exact hi
theorem kidsFrom_of : ∀ {P : List (List Str)} {k : Nat} {p : List Str} {x : Str} {i : Nat}, P[i]? = some (p ++ [x]) → (x, k + i) ∈ kidsFrom k P p
  | [], _, _, _, _, h => by simp at h
  | q :: P, k, p, x, 0, h => by
    have e : q = p ++ [x] := by simpa using h
    rw [kidsFrom, if_pos (by rw [e]; simp)]
    rw [e, gl]; exact .head _
  | q :: P, k, p, x, i + 1, h => by
    have ih := kidsFrom_of (P := P) (k := k + 1) (p := p) (x := x) (i := i) (by simpa using h)
    rw [show k + (i + 1) = k + 1 + i by omega, kidsFrom]
    split
    · exact .tail _ ih
    · exact ih
theorem kids_of {P : List (List Str)} {p : List Str} {x : Str} {i : Nat} (h : P[i]? = some (p ++ [x])) : (x, i) ∈ kids P p := by
  have := kidsFrom_of (k := 0) h
  rwa [Nat.zero_add] at this
/-- what the dict of a path's node holds -/
def kvsOf (nd : List Nd) (P : List (List Str)) (p : List Str) : List (Str × Value) := (kids P p).map fun (x, j) => (x, .ref (adOf nd j))
theorem valueAt_map (g : Nat → Value) (x : Str) : ∀ (l : List (Str × Nat)), valueAt (l.map fun (y, j) => (y, g j)) x = (l.find? fun y => decide (y.1 = x)).map fun y => g y.2 := by
  intro l
  unfold valueAt
  induction l with
  | nil => rfl
  | cons y l ih =>
    obtain ⟨y, j⟩ := y
    simp only [List.map_cons, List.find?_cons]
    by_cases h : y = x
    · simp [h]
    · simp only [h, decide_false]
      exact ih
theorem value_none {nd : List Nd} {P : List (List Str)} {p : List Str} {x : Str} (h : p ++ [x] ∉ P) : valueAt (kvsOf nd P p) x = none := by
  unfold kvsOf
  rw [valueAt_map (fun j => .ref (adOf nd j))]
  rw [Option.map_eq_none_iff, List.find?_eq_none]
  rintro ⟨y, j⟩ hy hx
  have : y = x := by simpa using hx
  subst this
  exact h (List.mem_of_getElem? (kids_mem hy))
theorem value_some {nd : List Nd} {P : List (List Str)} {p : List Str} {x : Str} {i : Nat} (hn : P.Nodup) (h : P[i]? = some (p ++ [x])) : valueAt (kvsOf nd P p) x = some (.ref (adOf nd i)) := by
  unfold kvsOf
  rw [valueAt_map (fun j => .ref (adOf nd j))]
  have hm := kids_of h
  cases hf : (kids P p).find? fun y => decide (y.1 = x) with
  | none => exact absurd (by simp) (List.find?_eq_none.mp hf _ hm)
  | some y =>
    obtain ⟨y, j⟩ := y
    have e : y = x := by simpa using List.find?_some hf
    subst e
    have hj := kids_mem (List.mem_of_find?_eq_some hf)
    have hlt : i < P.length := (List.getElem?_eq_some_iff.mp h).1
    have : i = j := (List.getElem?_inj hlt hn).mp (h.trans hj.symm)
    rw [this]; rfl

structure NodesOk (prog : Program) (w : World) (nd : List Nd) (P : List (List Str)) : Prop where
  len : nd.length = P.length
  dict : ∀ (i : Nat) (n : Nd) (p : List Str), nd[i]? = some n → P[i]? = some p → n.oc.IsDictOf (strKind prog w) (kvsOf nd P p)
  lo : ∀ n ∈ nd, (n.c == sysModules) = false
  root : P[0]? = some []
  nodup : P.Nodup
  closed : ∀ p ∈ P, p.dropLast ∈ P
  tok : ∀ (i : Nat) (n : Nd) (p : List Str), nd[i]? = some n → P[i]? = some p → ∃ t, n.tok = .str (p.getLastD ⟨#[]⟩) t

def Apart (l : List (Addr × Obj)) : Prop := (l.map (·.1)).Nodup
def objsOf (cN : Addr) (nd : List Nd) : List (Addr × Obj) := nd.flatMap (Nd.objs cN)

structure TrieHd where
  tr : Addr
  dx : Addr
  kd : Addr
  okd : Obj
  t0 : Tok
  t1 : Tok
  t2 : Tok
def hdEnts (P : Params) (conv : Bool) (H : TrieHd) (root : Addr) : List DictEntry :=
  [⟨PyData.keyHash P "root", .str "root" H.t0, .ref root⟩, ⟨PyData.keyHash P "_known_tokens", .str "_known_tokens" H.t1, .ref H.kd⟩, ⟨PyData.keyHash P "_converted", .str "_converted" H.t2, .bool conv⟩]
def hdObjs (P : Params) (cT : Addr) (conv : Bool) (H : TrieHd) (root : Addr) : List (Addr × Obj) :=
  [(H.tr, { cls := .ref cT, dict := some H.dx, data := .plain }), (H.dx, dictOf (hdEnts P conv H root) 3), (H.kd, H.okd)]

/-- the known words -/
def kvKnown (ks : List Str) : List (Str × Value) := ks.map fun x => (x, .bool true)
def addKnown (ks : List Str) (x : Str) : List Str := if x ∈ ks then ks else ks ++ [x]
theorem known_any (ks : List Str) (x : Str) : ((kvKnown ks).any fun kv => decide (kv.1 = x)) = decide (x ∈ ks) := by
  induction ks with
  | nil => rfl
  | cons k ks ih =>
    show (decide (k = x) || (kvKnown ks).any fun kv => decide (kv.1 = x)) = decide (x ∈ k :: ks)
    rw [ih]
    by_cases h : k = x
    · subst h; simp
    · have h' : ¬ x = k := fun e => h e.symm
      simp [h, h']
theorem known_at (ks : List Str) (x : Str) : (valueAt (kvKnown ks) x).isSome = decide (x ∈ ks) := by rw [valueAt_isSome_eq_any, known_any]
theorem stored_known (ks : List Str) (x : Str) : stored (kvKnown ks) x (.bool true) = kvKnown (addKnown ks x) := by
  unfold stored addKnown
  rw [known_any]
  by_cases h : x ∈ ks
  · rw [if_pos h, if_pos (decide_eq_true h)]
    unfold kvKnown
    rw [List.map_map]
    refine List.map_congr_left fun y _ => ?_
    show (if y = x then (y, Value.bool true) else (y, .bool true)) = _
    split <;> rfl
  · rw [if_neg h, if_neg (by simpa using h)]
    simp [kvKnown]

theorem off1_mem {D : Addr} : ∀ {l : List (Addr × Obj)}, LCg.Off1 D l → ∀ p ∈ l, p.1 ≠ D
  | [], _, _, h => nomatch h
  | _ :: _, x, p, h => by
    rcases List.mem_cons.mp h with rfl | h
    · exact x.1
    · exact off1_mem x.2 p h
theorem known_len (ks : List Str) (x : Str) : (addKnown ks x).length ≤ ks.length + 1 := by unfold addKnown; split <;> simp
theorem known_fold_len (l : List Str) : ∀ ks : List Str, (l.foldl addKnown ks).length ≤ ks.length + l.length := by
  induction l with
  | nil => intro ks; exact Nat.le_refl _
  | cons y l ih => intro ks; rw [List.foldl_cons]; have := ih (addKnown ks y); have := known_len ks y; rw [List.length_cons]; omega
theorem kvKnown_len (ks : List Str) : (kvKnown ks).length = ks.length := by simp [kvKnown]

theorem hd_ne {P : Params} {cT : Addr} {cv : Bool} {H : TrieHd} {r : Addr} {l : List (Addr × Obj)} (h : Apart (hdObjs P cT cv H r ++ l)) : H.tr ≠ H.dx ∧ H.tr ≠ H.kd ∧ H.dx ≠ H.kd ∧ (∀ p ∈ l, p.1 ≠ H.tr ∧ p.1 ≠ H.dx ∧ p.1 ≠ H.kd) ∧ Apart l := by
  unfold Apart hdObjs at h
  simp only [List.cons_append, List.nil_append, List.map_cons, List.nodup_cons, List.mem_cons, not_or] at h
  obtain ⟨⟨h1, h2, h3⟩, ⟨h4, h5⟩, h6, h7⟩ := h
  refine ⟨h1, h2, h4, fun p hp => ?_, h7⟩
  have hm : p.1 ∈ l.map (·.1) := List.mem_map.mpr ⟨p, hp, rfl⟩
  exact ⟨fun e => h3 (e ▸ hm), fun e => h5 (e ▸ hm), fun e => h6 (e ▸ hm)⟩

theorem adOf_lt {nd : List Nd} {j : Nat} (h : j < nd.length) : ∃ n, nd[j]? = some n ∧ adOf nd j = n.a := ⟨nd[j], by simp [h], by simp [adOf, h]⟩
theorem adOf_of {nd : List Nd} {j : Nat} {n : Nd} (h : nd[j]? = some n) : adOf nd j = n.a := by simp [adOf, h]
/-- the same places -/
def Same (nd nd' : List Nd) : Prop := nd'.map (fun n => (n.a, n.dx, n.c)) = nd.map (fun n => (n.a, n.dx, n.c))
theorem same_set {nd : List Nd} {j : Nat} {n : Nd} (h : nd[j]? = some n) (n' : Nd) (e : (n'.a, n'.dx, n'.c) = (n.a, n.dx, n.c)) : Same nd (nd.set j n') := by
  unfold Same
  rw [List.map_set, e]
  apply List.ext_getElem?
  intro i
  rw [List.getElem?_set]
  split
  · rename_i q; subst q
    split
    · simp [h]
    · rename_i q2
      exact absurd (List.getElem?_eq_some_iff.mp h).1 (by simpa using q2)
  · rfl
theorem same_len {nd nd' : List Nd} (h : Same nd nd') : nd'.length = nd.length := by have := congrArg List.length h; simpa using this
theorem same_ad {nd nd' : List Nd} (h : Same nd nd') (j : Nat) : adOf nd' j = adOf nd j := by
  unfold adOf
  have := congrArg (fun l => (l[j]?).map (·.1)) h
  simp only [List.getElem?_map, Option.map_map] at this
  have e : ((fun x : Addr × Addr × Addr => x.1) ∘ fun n : Nd => (n.a, n.dx, n.c)) = Nd.a := rfl
  rw [e] at this
  rw [this]
theorem adOf_snoc {nd : List Nd} {n : Nd} {j : Nat} (h : j < nd.length) : adOf (nd ++ [n]) j = adOf nd j := by unfold adOf; rw [List.getElem?_append_left h]
theorem adOf_last {nd : List Nd} {n : Nd} : adOf (nd ++ [n]) nd.length = n.a := by unfold adOf; simp
theorem kids_lt {P : List (List Str)} {p : List Str} {x : Str} {j : Nat} (h : (x, j) ∈ kids P p) : j < P.length := (List.getElem?_eq_some_iff.mp (kids_mem h)).1
theorem kvsOf_congr {nd nd' : List Nd} {P : List (List Str)} {p : List Str} (h : ∀ j, j < P.length → adOf nd' j = adOf nd j) : kvsOf nd' P p = kvsOf nd P p := by
  unfold kvsOf
  refine List.map_congr_left ?_
  rintro ⟨x, j⟩ hm
  show (x, Value.ref (adOf nd' j)) = (x, Value.ref (adOf nd j))
  rw [h j (kids_lt hm)]
theorem nodes_add {prog : Program} {w : World} {nd : List Nd} {P : List (List Str)} {j : Nat} {p : List Str} {n nn : Nd} {x : Str} {t : Tok} {oc' : Obj} (h : NodesOk prog w nd P) (hp : P[j]? = some p) (hn : nd[j]? = some n) (hx : p ++ [x] ∉ P)
    (hnn : nn.oc.IsDictOf (strKind prog w) []) (hlo : (nn.c == sysModules) = false) (htok : nn.tok = .str x t) (hoc : oc'.IsDictOf (strKind prog w) (stored (kvsOf nd P p) x (.ref nn.a))) :
    NodesOk prog w (nd.set j { n with oc := oc' } ++ [nn]) (P ++ [p ++ [x]]) := by
  have hS : Same nd (nd.set j { n with oc := oc' }) := same_set hn _ rfl
  have hL := same_len hS
  have had : ∀ i, i < P.length → adOf (nd.set j { n with oc := oc' } ++ [nn]) i = adOf nd i := fun i hi => by
    rw [adOf_snoc (by rw [hL, h.len]; exact hi), same_ad hS]
  have hlast : adOf (nd.set j { n with oc := oc' } ++ [nn]) P.length = nn.a := by
    have := adOf_last (nd := nd.set j { n with oc := oc' }) (n := nn)
    rwa [hL, h.len] at this
  have hpm : p ∈ P := List.mem_of_getElem? hp
  have key : ∀ q, kvsOf (nd.set j { n with oc := oc' } ++ [nn]) (P ++ [p ++ [x]]) q = kvsOf nd P q ++ (if p = q then [(x, .ref nn.a)] else []) := fun q => by
    unfold kvsOf
    rw [kids_snoc, List.map_append]
    congr 1
    · exact kvsOf_congr had
    · have e : (p ++ [x] ≠ [] ∧ (p ++ [x]).dropLast = q) ↔ p = q := by simp
      by_cases hq : p = q
      · rw [if_pos (e.mpr hq), if_pos hq, gl]
        simp [hlast]
      · rw [if_neg (fun z => hq (e.mp z)), if_neg hq]; rfl
  refine ⟨?_, ?_, ?_, ?_, ?_, ?_, ?_⟩
  · simp [h.len]
  · intro i n' q hi hq
    rw [key]
    by_cases hlt : i < P.length
    · rw [List.getElem?_append_left hlt] at hq
      rw [List.getElem?_append_left (by rw [hL, h.len]; exact hlt)] at hi
      by_cases hij : i = j
      · subst hij
        rw [hp] at hq
        cases hq
        rw [if_pos rfl]
        rw [List.getElem?_set_self (by rw [h.len]; exact hlt)] at hi
        cases hi
        rw [stored_absent (value_none hx)] at hoc
        exact hoc
      · have hne : p ≠ q := fun e => hij ((List.getElem?_inj hlt h.nodup).mp (hq.trans (e ▸ hp.symm)))
        rw [if_neg hne, List.append_nil]
        rw [List.getElem?_set_ne (fun e => hij e.symm)] at hi
        exact h.dict i n' q hi hq
    · have hi' : i = P.length := by
        have := (List.getElem?_eq_some_iff.mp hq).1
        simp at this; omega
      subst hi'
      have e1 : q = p ++ [x] := by simpa using hq.symm
      have e2 : n' = nn := by
        rw [List.getElem?_append_right (by rw [hL, h.len]; exact Nat.le_refl _), hL, h.len] at hi
        simpa using hi.symm
      subst e1 e2
      rw [if_neg (by simp), List.append_nil]
      have hk : kvsOf nd P (p ++ [x]) = [] := by
        unfold kvsOf
        cases hk : kids P (p ++ [x]) with
        | nil => rfl
        | cons y l =>
          exfalso
          obtain ⟨y, k⟩ := y
          have hm : (y, k) ∈ kids P (p ++ [x]) := by rw [hk]; exact .head _
          have := h.closed _ (List.mem_of_getElem? (kids_mem hm))
          simp at this
          exact hx this
      rw [hk]; exact hnn
  · intro n' hn'
    rcases List.mem_append.mp hn' with hm | hm
    · rcases List.mem_or_eq_of_mem_set hm with hm | rfl
      · exact h.lo _ hm
      · exact h.lo n (List.mem_of_getElem? hn)
    · rw [List.mem_singleton.mp hm]; exact hlo
  · have : 0 < P.length := (List.getElem?_eq_some_iff.mp hp).1 |> Nat.lt_of_le_of_lt (Nat.zero_le _)
    rw [List.getElem?_append_left this]; exact h.root
  · rw [List.nodup_append]
    refine ⟨h.nodup, by simp, fun q hq r hr => ?_⟩
    rw [List.mem_singleton.mp hr]
    rintro rfl
    exact hx hq
  · intro q hq
    rcases List.mem_append.mp hq with hq | hq
    · exact List.mem_append_left _ (h.closed q hq)
    · rw [List.mem_singleton.mp hq]
      rw [List.dropLast_concat]; exact List.mem_append_left _ hpm
  · intro i n' q hi hq
    by_cases hlt : i < P.length
    · rw [List.getElem?_append_left hlt] at hq
      rw [List.getElem?_append_left (by rw [hL, h.len]; exact hlt)] at hi
      by_cases hij : i = j
      · subst hij
        rw [List.getElem?_set_self (by rw [h.len]; exact hlt)] at hi
        cases hi
        exact h.tok i n q hn hq
      · rw [List.getElem?_set_ne (fun e => hij e.symm)] at hi
        exact h.tok i n' q hi hq
    · have hi' : i = P.length := by
        have := (List.getElem?_eq_some_iff.mp hq).1
        simp at this; omega
      subst hi'
      have e1 : q = p ++ [x] := by simpa using hq.symm
      have e2 : n' = nn := by
        rw [List.getElem?_append_right (by rw [hL, h.len]; exact Nat.le_refl _), hL, h.len] at hi
        simpa using hi.symm
      subst e1 e2
      rw [gl]; exact ⟨t, htok⟩

/-! where nodes lie in a ledger -/
theorem mem_objs {cN : Addr} {nd : List Nd} {p : Addr × Obj} : p ∈ objsOf cN nd ↔ ∃ (i : Nat) (n : Nd), nd[i]? = some n ∧ p ∈ n.objs cN := by
  unfold objsOf
  rw [List.mem_flatMap]
  constructor
  · rintro ⟨n, hn, hp⟩
    obtain ⟨i, hi⟩ := List.mem_iff_getElem?.mp hn
    exact ⟨i, n, hi, hp⟩
  · rintro ⟨i, n, hi, hp⟩
    exact ⟨n, List.mem_of_getElem? hi, hp⟩
theorem objs_snoc {cN : Addr} {nd : List Nd} {n : Nd} : objsOf cN (nd ++ [n]) = objsOf cN nd ++ n.objs cN := by simp [objsOf]
theorem objs_addr (cN : Addr) (nd : List Nd) : (objsOf cN nd).map (·.1) = (nd.map fun n => (n.a, n.dx, n.c)).flatMap fun t => [t.1, t.2.1, t.2.2] := by
  unfold objsOf
  rw [List.map_flatMap, List.flatMap_map]
  rfl
theorem apart_same {cN : Addr} {nd nd' : List Nd} {r : List (Addr × Obj)} (h : Same nd nd') (ha : Apart (objsOf cN nd ++ r)) : Apart (objsOf cN nd' ++ r) := by
  unfold Apart at *
  rw [List.map_append, objs_addr, h, ← objs_addr, ← List.map_append]
  exact ha
/-- two entries of a ledger that lies apart, at one address, are one -/
theorem apart_eq {l : List (Addr × Obj)} (h : Apart l) {p q : Addr × Obj} (hp : p ∈ l) (hq : q ∈ l) (e : p.1 = q.1) : p = q := by
  induction l with
  | nil => cases hp
  | cons r l ih =>
    unfold Apart at h
    rw [List.map_cons, List.nodup_cons] at h
    rcases List.mem_cons.mp hp with rfl | hp'
    · rcases List.mem_cons.mp hq with rfl | hq'
      · rfl
      · exact absurd (List.mem_map.mpr ⟨q, hq', e.symm⟩) h.1
    · rcases List.mem_cons.mp hq with rfl | hq'
      · exact absurd (List.mem_map.mpr ⟨p, hp', e⟩) h.1
      · exact ih h.2 hp' hq'
theorem apart_app {a b : List (Addr × Obj)} : Apart (a ++ b) ↔ Apart a ∧ Apart b ∧ ∀ p ∈ a, ∀ q ∈ b, p.1 ≠ q.1 := by
  unfold Apart
  rw [List.map_append, List.nodup_append]
  constructor
  · rintro ⟨h1, h2, h3⟩
    exact ⟨h1, h2, fun p hp q hq => h3 _ (List.mem_map.mpr ⟨p, hp, rfl⟩) _ (List.mem_map.mpr ⟨q, hq, rfl⟩)⟩
  · rintro ⟨h1, h2, h3⟩
    refine ⟨h1, h2, fun x hx y hy => ?_⟩
    obtain ⟨p, hp, rfl⟩ := List.mem_map.mp hx
    obtain ⟨q, hq, rfl⟩ := List.mem_map.mp hy
    exact h3 p hp q hq
theorem apart_perm {a b : List (Addr × Obj)} (h : a.Perm b) (ha : Apart a) : Apart b := ((h.map _).nodup_iff).mp ha
theorem apart_snoc {cN : Addr} {nd : List Nd} {nn : Nd} {r : List (Addr × Obj)} (ha : Apart (objsOf cN nd ++ r)) (h1 : ∀ p ∈ objsOf cN nd ++ r, p.1 ≠ nn.a) (h2 : ∀ p ∈ objsOf cN nd ++ r, p.1 ≠ nn.dx) (h3 : ∀ p ∈ objsOf cN nd ++ r, p.1 ≠ nn.c)
    (e1 : nn.a ≠ nn.dx) (e2 : nn.a ≠ nn.c) (e3 : nn.dx ≠ nn.c) : Apart (objsOf cN (nd ++ [nn]) ++ r) := by
  have : Apart (nn.objs cN ++ (objsOf cN nd ++ r)) := by
    rw [apart_app]
    refine ⟨?_, ha, ?_⟩
    · unfold Apart Nd.objs
      simp [e1, e2, e3]
    · intro p hp q hq
      unfold Nd.objs at hp
      simp only [List.mem_cons, List.not_mem_nil, or_false] at hp
      rcases hp with rfl | rfl | rfl
      · exact (h1 q hq).symm
      · exact (h2 q hq).symm
      · exact (h3 q hq).symm
  refine apart_perm ?_ this
  rw [objs_snoc, List.append_assoc]
  exact (List.perm_append_comm_assoc _ _ _)

theorem apart_cons {a : Addr} {o : Obj} {l : List (Addr × Obj)} : Apart ((a, o) :: l) ↔ (∀ p ∈ l, p.1 ≠ a) ∧ Apart l := by
  unfold Apart
  rw [List.map_cons, List.nodup_cons]
  constructor
  · rintro ⟨h1, h2⟩
    exact ⟨fun p hp e => h1 (List.mem_map.mpr ⟨p, hp, e⟩), h2⟩
  · rintro ⟨h1, h2⟩
    refine ⟨fun hm => ?_, h2⟩
    obtain ⟨p, hp, e⟩ := List.mem_map.mp hm
    exact h1 p hp e
/-! words put in, one by one -/
def addStep (st : List (List Str) × List Str) (x : Str) : List (List Str) × List Str :=
  (if st.2 ++ [x] ∈ st.1 then st.1 else st.1 ++ [st.2 ++ [x]], st.2 ++ [x])
def addAll (P : List (List Str)) (ws : List Str) : List (List Str) := (ws.foldl addStep (P, [])).1
theorem addFold_snd (ws : List Str) : ∀ st : List (List Str) × List Str, (ws.foldl addStep st).2 = st.2 ++ ws := by
  induction ws with
  | nil => intro st; simp
  | cons x r ih => intro st; rw [List.foldl_cons, ih]; simp [addStep]
theorem addFold_len (ws : List Str) : ∀ st : List (List Str) × List Str, (ws.foldl addStep st).1.length ≤ st.1.length + ws.length := by
  induction ws with
  | nil => intro st; exact Nat.le_refl _
  | cons x r ih =>
    intro st; rw [List.foldl_cons]; have := ih (addStep st x)
    have h2 : (addStep st x).1.length ≤ st.1.length + 1 := by unfold addStep; dsimp only; split <;> simp
    rw [List.length_cons]; omega
structure Ext (nilA : Addr) (nd nd' : List Nd) : Prop where
  old : ∀ (i : Nat) (n : Nd), nd[i]? = some n → ∃ n' : Nd, nd'[i]? = some n' ∧ n'.a = n.a ∧ n'.tok = n.tok ∧ n'.out = n.out ∧ n'.fail = n.fail
  new : ∀ (i : Nat) (n' : Nd), nd'[i]? = some n' → nd.length ≤ i → n'.out = .ref nilA ∧ n'.fail = .ref nilA
theorem Ext.refl (nilA : Addr) (nd : List Nd) : Ext nilA nd nd := ⟨fun i n h => ⟨n, h, rfl, rfl, rfl, rfl⟩, fun i n' h hl => by have := (List.getElem?_eq_some_iff.mp h).1; omega⟩
theorem Ext.len {nilA : Addr} {nd nd' : List Nd} (h : Ext nilA nd nd') : nd.length ≤ nd'.length := by
  by_cases hz : nd.length = 0
  · omega
  · obtain ⟨n', hn', _⟩ := h.old (nd.length - 1) (nd[nd.length - 1]'(by omega)) (by simp)
    have := (List.getElem?_eq_some_iff.mp hn').1; omega
theorem Ext.add {nilA : Addr} {nd nd' : List Nd} {j : Nat} {n nn : Nd} {oc' : Obj} (h : Ext nilA nd nd') (hn : nd'[j]? = some n) (ho : nn.out = .ref nilA) (hf : nn.fail = .ref nilA) : Ext nilA nd (nd'.set j { n with oc := oc' } ++ [nn]) := by
  have hL : (nd'.set j { n with oc := oc' }).length = nd'.length := List.length_set ..
  have hl := h.len
  refine ⟨fun i m hm => ?_, fun i m hm hi => ?_⟩
  · obtain ⟨m', hm', e⟩ := h.old i m hm
    have hlt := (List.getElem?_eq_some_iff.mp hm').1
    rw [List.getElem?_append_left (by rw [hL]; exact hlt)]
    by_cases hij : j = i
    · subst hij
      rw [hn] at hm'; cases hm'
      exact ⟨{ n with oc := oc' }, by rw [List.getElem?_set_self hlt], e⟩
    · exact ⟨m', by rw [List.getElem?_set_ne hij]; exact hm', e⟩
  · by_cases hlt : i < nd'.length
    · rw [List.getElem?_append_left (by rw [hL]; exact hlt)] at hm
      by_cases hij : j = i
      · subst hij
        rw [List.getElem?_set_self hlt] at hm
        cases hm
        exact h.new j n hn hi
      · rw [List.getElem?_set_ne hij] at hm
        exact h.new i m hm hi
    · rw [List.getElem?_append_right (by rw [hL]; omega), hL] at hm
      have : m ∈ [nn] := List.mem_of_getElem? hm
      rw [List.mem_singleton.mp this]; exact ⟨ho, hf⟩
theorem Ext.ad {nilA : Addr} {nd nd' : List Nd} (h : Ext nilA nd nd') {i : Nat} (hi : i < nd.length) : adOf nd' i = adOf nd i := by
  obtain ⟨n, hn, e⟩ := adOf_lt hi
  obtain ⟨n', hn', e', _⟩ := h.old i n hn
  rw [e, adOf_of hn', e']

theorem of_allLt {d : Addr} : ∀ {l : List (Addr × Obj)}, AllLt d l → ∀ p ∈ l, p.1 < d
  | [], _, _, h => nomatch h
  | _ :: _, x, p, h => by
    rcases List.mem_cons.mp h with rfl | h
    · exact x.1
    · exact of_allLt x.2 p h
theorem kidsFrom_len : ∀ (P : List (List Str)) (k : Nat) (p : List Str), (kidsFrom k P p).length ≤ P.length
  | [], _, _ => by simp [kidsFrom]
  | q :: P, k, p => by
    rw [kidsFrom]
    have := kidsFrom_len P (k + 1) p
    split <;> simp <;> omega
theorem kvsOf_len (nd : List Nd) (P : List (List Str)) (p : List Str) : (kvsOf nd P p).length ≤ P.length := by
  unfold kvsOf kids; rw [List.length_map]; exact kidsFrom_len P 0 p
theorem objs_cons {cN : Addr} {nd : List Nd} {n : Nd} : objsOf cN (n :: nd) = n.objs cN ++ objsOf cN nd := by simp [objsOf]
theorem apart_of {cN : Addr} : ∀ {nd : List Nd} {i : Nat} {n : Nd}, Apart (objsOf cN nd) → nd[i]? = some n → Apart (n.objs cN)
  | [], _, _, _, h => by simp at h
  | m :: nd, 0, n, ha, h => by
    have e : m = n := by simpa using h
    subst e
    rw [objs_cons, apart_app] at ha
    exact ha.1
  | m :: nd, i + 1, n, ha, h => by
    rw [objs_cons, apart_app] at ha
    exact apart_of ha.2.1 (by simpa using h)
theorem apart_ne {cN : Addr} : ∀ {nd : List Nd} {i j : Nat} {a b : Nd} {p q : Addr × Obj}, Apart (objsOf cN nd) → nd[i]? = some a → nd[j]? = some b → i ≠ j → p ∈ a.objs cN → q ∈ b.objs cN → p.1 ≠ q.1
  | [], _, _, _, _, _, _, _, h, _, _, _, _ => by simp at h
  | m :: nd, 0, 0, _, _, _, _, _, _, _, hne, _, _ => absurd rfl hne
  | m :: nd, 0, j + 1, a, b, p, q, ha, h1, h2, _, hp, hq => by
    have e : m = a := by simpa using h1
    subst e
    rw [objs_cons, apart_app] at ha
    exact ha.2.2 p hp q (mem_objs.mpr ⟨j, b, by simpa using h2, hq⟩)
  | m :: nd, i + 1, 0, a, b, p, q, ha, h1, h2, _, hp, hq => by
    have e : m = b := by simpa using h2
    subst e
    rw [objs_cons, apart_app] at ha
    exact (ha.2.2 q hq p (mem_objs.mpr ⟨i, a, by simpa using h1, hp⟩)).symm
  | m :: nd, i + 1, j + 1, a, b, p, q, ha, h1, h2, hne, hp, hq => by
    rw [objs_cons, apart_app] at ha
    exact apart_ne ha.2.1 (by simpa using h1) (by simpa using h2) (by omega) hp hq
/-- one node's entries when only its dict has changed, or only the node itself -/
theorem objs_set {cN : Addr} {nd : List Nd} {j : Nat} {n n' : Nd} (ha : Apart (objsOf cN nd)) (hn : nd[j]? = some n) {p : Addr × Obj} (hp : p ∈ objsOf cN (nd.set j n')) :
    p ∈ n'.objs cN ∨ (p ∈ objsOf cN nd ∧ ∀ q ∈ n.objs cN, p.1 ≠ q.1) := by
  obtain ⟨i, m, hi, hp⟩ := mem_objs.mp hp
  by_cases hij : j = i
  · subst hij
    rw [List.getElem?_set_self (List.getElem?_eq_some_iff.mp hn).1] at hi
    cases hi
    exact .inl hp
  · rw [List.getElem?_set_ne hij] at hi
    exact .inr ⟨mem_objs.mpr ⟨i, m, hi, hp⟩, fun q hq => apart_ne ha hi hn (fun e => hij e.symm) hp hq⟩
theorem nd_ne {cN : Addr} {n : Nd} (h : Apart (n.objs cN)) : n.a ≠ n.dx ∧ n.a ≠ n.c ∧ n.dx ≠ n.c := by
  unfold Apart Nd.objs at h
  simp only [List.map_cons, List.map_nil, List.nodup_cons, List.mem_cons, List.not_mem_nil, or_false, not_or] at h
  exact ⟨h.1.1, h.1.2, h.2.1⟩
theorem objs_put {cN : Addr} {nd : List Nd} {j : Nat} {n nn : Nd} {oc' : Obj} {r l : List (Addr × Obj)} (hap : Apart (objsOf cN nd ++ r)) (hn : nd[j]? = some n) (hl : ∀ p ∈ objsOf cN nd ++ r, p ∈ l)
    (hnn : ∀ p ∈ nn.objs cN, p ∈ l) (hx : ∀ p ∈ nn.objs cN, p.1 ≠ n.c) : ∀ p ∈ objsOf cN (nd.set j { n with oc := oc' } ++ [nn]) ++ r, p ∈ (n.c, oc') :: but n.c l := by
  obtain ⟨h1, h2, h3⟩ := apart_app.mp hap
  obtain ⟨e1, e2, e3⟩ := nd_ne (apart_of h1 hn)
  intro p hp
  have hmem : ∀ q ∈ n.objs cN, q ∈ objsOf cN nd := fun q hq => mem_objs.mpr ⟨j, n, hn, hq⟩
  rcases List.mem_append.mp hp with hp | hp
  · rw [objs_snoc] at hp
    rcases List.mem_append.mp hp with hp | hp
    · rcases objs_set h1 hn hp with hp | ⟨hp, hq⟩
      · unfold Nd.objs at hp
        simp only [List.mem_cons, List.not_mem_nil, or_false] at hp
        rcases hp with rfl | rfl | rfl
        · exact mem_put (hl _ (List.mem_append_left _ (hmem (n.a, nodeObj cN n) (.head _)))) e2
        · exact mem_put (hl _ (List.mem_append_left _ (hmem _ (.tail _ (.head _))))) e3
        · exact .head _
      · exact mem_put (hl _ (List.mem_append_left _ hp)) (hq (n.c, n.oc) (.tail _ (.tail _ (.head _))))
    · exact mem_put (hnn p hp) (hx p hp)
  · exact mem_put (hl _ (List.mem_append_right _ hp)) (h3 (n.c, n.oc) (hmem _ (.tail _ (.tail _ (.head _)))) p hp).symm
/-- one node turned (its own object alone) -/
theorem objs_turn {cN : Addr} {nd : List Nd} {j : Nat} {n n' : Nd} {r l : List (Addr × Obj)} (hap : Apart (objsOf cN nd ++ r)) (hn : nd[j]? = some n) (hl : ∀ p ∈ objsOf cN nd ++ r, p ∈ l)
    (e : (n'.a, n'.dx, n'.c, n'.oc) = (n.a, n.dx, n.c, n.oc)) : ∀ p ∈ objsOf cN (nd.set j n') ++ r, p ∈ (n.a, nodeObj cN n') :: but n.a l := by
  obtain ⟨h1, h2, h3⟩ := apart_app.mp hap
  obtain ⟨e1, e2, e3⟩ := nd_ne (apart_of h1 hn)
  simp only [Prod.mk.injEq] at e
  obtain ⟨q1, q2, q3, q4⟩ := e
  intro p hp
  have hmem : ∀ q ∈ n.objs cN, q ∈ objsOf cN nd := fun q hq => mem_objs.mpr ⟨j, n, hn, hq⟩
  rcases List.mem_append.mp hp with hp | hp
  · rcases objs_set h1 hn hp with hp | ⟨hp, hq⟩
    · unfold Nd.objs at hp
      simp only [List.mem_cons, List.not_mem_nil, or_false] at hp
      rw [q1, q2, q3, q4] at hp
      rcases hp with rfl | rfl | rfl
      · exact .head _
      · exact mem_put (hl _ (List.mem_append_left _ (hmem _ (.tail _ (.head _))))) e1.symm
      · exact mem_put (hl _ (List.mem_append_left _ (hmem _ (.tail _ (.tail _ (.head _)))))) e2.symm
    · exact mem_put (hl _ (List.mem_append_left _ hp)) (hq (n.a, nodeObj cN n) (.head _))
  · exact mem_put (hl _ (List.mem_append_right _ hp)) (h3 (n.a, nodeObj cN n) (hmem _ (.head _)) p hp).symm
theorem same_addr {cN : Addr} {nd nd' : List Nd} {r : List (Addr × Obj)} (h : Same nd nd') {p : Addr × Obj} (hp : p ∈ objsOf cN nd' ++ r) : ∃ q ∈ objsOf cN nd ++ r, q.1 = p.1 := by
  have e : (objsOf cN nd' ++ r).map (·.1) = (objsOf cN nd ++ r).map (·.1) := by rw [List.map_append, List.map_append, objs_addr, objs_addr, h]
  have : p.1 ∈ (objsOf cN nd ++ r).map (·.1) := e ▸ List.mem_map.mpr ⟨p, hp, rfl⟩
  exact List.mem_map.mp this

/-! a whole trie: its nodes' paths, what is told at each node, the known words -/
abbrev tupO (vs : List Value) : Obj := { cls := .type "tuple", data := .seq vs.toArray }
def pairObj (x : Str) (t : Tok) (y : Str) (u : Tok) : Obj := tupO [.str x t, .str y u]
structure Outs (nilA : Addr) (nd : List Nd) (O : List (Option (Str × Str))) (rest : List (Addr × Obj)) : Prop where
  len : O.length = nd.length
  none_ : ∀ (i : Nat) (n : Nd), nd[i]? = some n → O[i]? = some none → n.out = .ref nilA
  some_ : ∀ (i : Nat) (n : Nd) (x y : Str), nd[i]? = some n → O[i]? = some (some (x, y)) → ∃ ta t u, n.out = .ref ta ∧ (ta, pairObj x t y u) ∈ rest
structure TrieS (prog : Program) (w : World) (nilA cT cN : Addr) (H : TrieHd) (nd : List Nd) (P : List (List Str)) (O : List (Option (Str × Str))) (ks : List Str) (rest : List (Addr × Obj)) : Prop where
  ok : NodesOk prog w nd P
  known : H.okd.IsDictOf (strKind prog w) (kvKnown ks)
  outs : Outs nilA nd O rest
  fails : ∀ (i : Nat) (n : Nd), nd[i]? = some n → n.fail = .ref nilA
  apart : Apart (hdObjs w.params cT false H (adOf nd 0) ++ (objsOf cN nd ++ rest))
/-- what stands told behind one more word row -/
def addOut (O : List (Option (Str × Str))) (k j : Nat) (xy : Str × Str) : List (Option (Str × Str)) := (O ++ List.replicate k none).set j (some xy)
theorem Outs.add {nilA : Addr} {nd nd' : List Nd} {O : List (Option (Str × Str))} {rest : List (Addr × Obj)} {j : Nat} {n : Nd} {x y : Str} {t u : Tok} {ta : Addr} (h : Outs nilA nd O rest) (e : Ext nilA nd nd') (hj : nd'[j]? = some n) :
    Outs nilA (nd'.set j { n with out := .ref ta }) (addOut O (nd'.length - nd.length) j (x, y)) ((ta, pairObj x t y u) :: rest) := by
  have hl := e.len
  have hjl := (List.getElem?_eq_some_iff.mp hj).1
  have hO := h.len
  refine ⟨?_, fun i m hm hi => ?_, fun i m x' y' hm hi => ?_⟩
  · simp [addOut, hO]; omega
  · unfold addOut at hi
    rw [List.getElem?_set] at hi
    split at hi
    · split at hi <;> simp at hi
    · rename_i hne
      rw [List.getElem?_set_ne hne] at hm
      by_cases hlt : i < nd.length
      · rw [List.getElem?_append_left (by omega)] at hi
        obtain ⟨m₀, hm₀⟩ : ∃ m₀, nd[i]? = some m₀ := ⟨nd[i], by simp [hlt]⟩
        obtain ⟨m', hm', -, -, e3, -⟩ := e.old i m₀ hm₀
        rw [hm] at hm'; cases hm'
        rw [e3]; exact h.none_ i m₀ hm₀ hi
      · exact (e.new i m hm (by omega)).1
  · unfold addOut at hi
    rw [List.getElem?_set] at hi
    split at hi
    · rename_i heq
      subst heq
      rw [List.getElem?_set_self hjl] at hm
      cases hm
      split at hi
      · cases hi
        exact ⟨ta, t, u, rfl, .head _⟩
      · cases hi
    · rename_i hne
      rw [List.getElem?_set_ne hne] at hm
      by_cases hlt : i < nd.length
      · rw [List.getElem?_append_left (by omega)] at hi
        obtain ⟨m₀, hm₀⟩ : ∃ m₀, nd[i]? = some m₀ := ⟨nd[i], by simp [hlt]⟩
        obtain ⟨m', hm', -, -, e3, -⟩ := e.old i m₀ hm₀
        rw [hm] at hm'; cases hm'
        obtain ⟨ta', t', u', h1, h2⟩ := h.some_ i m₀ x' y' hm₀ hi
        exact ⟨ta', t', u', by rw [e3, h1], .tail _ h2⟩
      · rw [List.getElem?_append_right (by omega)] at hi
        have := List.mem_of_getElem? hi
        simp at this
theorem nodes_out {prog : Program} {w : World} {nd : List Nd} {P : List (List Str)} {j : Nat} {n : Nd} (h : NodesOk prog w nd P) (hj : nd[j]? = some n) (v f : Value) : NodesOk prog w (nd.set j { n with out := v, fail := f }) P := by
  have hS : Same nd (nd.set j { n with out := v, fail := f }) := same_set hj _ rfl
  have hjl := (List.getElem?_eq_some_iff.mp hj).1
  have hk : ∀ p, kvsOf (nd.set j { n with out := v, fail := f }) P p = kvsOf nd P p := fun p => kvsOf_congr fun i _ => same_ad hS i
  refine ⟨by rw [List.length_set]; exact h.len, fun i m p hm hp => ?_, fun m hm => ?_, h.root, h.nodup, h.closed, fun i m p hm hp => ?_⟩
  · rw [hk]
    by_cases hij : j = i
    · subst hij
      rw [List.getElem?_set_self hjl] at hm; cases hm
      exact h.dict j n p hj hp
    · rw [List.getElem?_set_ne hij] at hm
      exact h.dict i m p hm hp
  · rcases List.mem_or_eq_of_mem_set hm with hm | rfl
    · exact h.lo m hm
    · exact h.lo n (List.mem_of_getElem? hj)
  · by_cases hij : j = i
    · subst hij
      rw [List.getElem?_set_self hjl] at hm; cases hm
      exact h.tok j n p hj hp
    · rw [List.getElem?_set_ne hij] at hm
      exact h.tok i m p hm hp
end Mine
end
section
open PySem PySem.W PySem.Calls PyProof.Rows PyProof.V PySem.Spec
namespace Mine
set_option maxRecDepth 100000

abbrev frs (l : List Env) : List Addr := l.filterMap (·.frame)

/-- what a call stands on: the written part and the top in the base; the frames below; the frame at hand; the ledger -/
structure Cx (K : Frag) (cs : Scope) (outer : List Env) (base h₀ : Heap) (L : Addr) (h : Heap) (m : Str → Option Value) (news : List (Addr × Obj)) : Prop where
  B : ∃ A₀, Below A₀ base outer h₀
  F : Fr h₀ L h m
  XB : K.In base
  N : News h₀ L h news
  TB : ∃ p loose mean mg mb, Top p loose mean mg mb base
  D : KtsDicts (frs outer) h₀
  k : cs.kind = .function

/-- the way back out of a call: all as it was, or the frames below have been noted -/
def LeaveC (K : Frag) (cs : Scope) (env : Env) (outer : List Env) (base h₀ g : Heap) (L : Addr) (m : Str → Option Value) (R : Result → Shared → Prop) (v : Value) (s' : Shared) : Prop :=
  (∃ L' m' news', Fr g L' s'.heap m' ∧ News g L' s'.heap news' ∧ (Cx K cs outer base h₀ L s'.heap m news' → R (.ok (.ret v)) s')) ∨
  ∃ g' L' m' news', KtsTurn (frs (env :: outer)) g g' ∧ Fr g' L' s'.heap m' ∧ News g' L' s'.heap news' ∧ (∀ h₀', KtsTurn (frs outer) h₀ h₀' → Cx K cs outer base h₀' L s'.heap m news' → R (.ok (.ret v)) s')
theorem leaveC {K : Frag} {cs : Scope} {env : Env} {outer : List Env} {base h₀ g g' : Heap} {L L' : Addr} {m m' : Str → Option Value} {R : Result → Shared → Prop} {v : Value} {s' : Shared} {news' : List (Addr × Obj)}
    (T : KtsTurn (frs (env :: outer)) g g') (F : Fr g' L' s'.heap m') (N : News g' L' s'.heap news') (k : ∀ h₀', KtsTurn (frs outer) h₀ h₀' → Cx K cs outer base h₀' L s'.heap m news' → R (.ok (.ret v)) s') : LeaveC K cs env outer base h₀ g L m R v s' := .inr ⟨g', L', m', news', T, F, N, k⟩
theorem leaveC0 {K : Frag} {cs : Scope} {env : Env} {outer : List Env} {base h₀ g : Heap} {L L' : Addr} {m m' : Str → Option Value} {R : Result → Shared → Prop} {v : Value} {s' : Shared} {news' : List (Addr × Obj)}
    (F : Fr g L' s'.heap m') (N : News g L' s'.heap news') (k : Cx K cs outer base h₀ L s'.heap m news' → R (.ok (.ret v)) s') : LeaveC K cs env outer base h₀ g L m R v s' := .inl ⟨L', m', news', F, N, k⟩

theorem mem_frs {env : Env} {outer : List Env} {L b : Addr} (hf : env.frame = some L) (hm : b ∈ frs (env :: outer)) : b = L ∨ b ∈ frs outer := by
  unfold frs at *
  rw [List.filterMap_cons_some hf] at hm
  exact List.mem_cons.mp hm

theorem mark_depth (A : Around) (x : Option Value) : (A.mark x).depth = A.depth := rfl
section
variable {prog : Program} {w : World} {A : Around} {s : Shared} {base h₀ : Heap} {outer : List Env} {env : Env} {L : Addr} {m : Str → Option Value} {cs : Scope} {news : List (Addr × Obj)} {K : Frag}
    {R : Result → Shared → Prop} {name qual : Str} {params : Arguments} {body : List Stmt} {scope : Scope} {dV kV doc pm cdv ct oc : Value} {an od : Option Addr} {osl : Array (Option Value)} {f : Addr} {args : Args} {binds : List (Str × Value)}
/-- the heap a callee is based on: all but the ledger -/
theorem ground (C : Cx K cs outer base h₀ L s.heap m news) (hA : A.frames = some (env :: outer)) (hf : env.frame = some L) (hke : env.scope.kind = .function) :
    let g := hideAll s.heap (news.map (·.1))
    h₀.StaysIn g ∧ Fr h₀ L g m ∧ Below A base (env :: outer) g ∧ KtsDicts (frs (env :: outer)) g := by
  obtain ⟨⟨A₀, B⟩, F, XB, N, TB, D, k⟩ := C
  intro g
  have nm : ∀ b o, h₀.get? b = some o → b ∉ news.map (·.1) := fun b o e q => by
    obtain ⟨p, hp, rfl⟩ := List.mem_map.mp q
    rw [(N p hp).2.2] at e; cases e
  have st : h₀.StaysIn g := fun b o e => hideAll_get _ (F.keep b o e) (nm b o e)
  obtain ⟨oL, es, ep, hL, hLd, hLk, hLf⟩ := F.ns
  have nL : L ∉ news.map (·.1) := fun q => by
    obtain ⟨p, hp, e⟩ := List.mem_map.mp q
    exact (N p hp).2.1 e
  have hLg : g.get? L = some oL := hideAll_get (news.map (·.1)) hL nL
  have hb0 : base.get? L = none := by
    cases q : base.get? L with
    | none => rfl
    | some o => have := B.stays L o q; rw [kts_self F] at this; cases this
  refine ⟨st, ⟨⟨oL, es, ep, hLg, hLd, hLk, hLf⟩, st, F.above⟩, ⟨hA, fun b o e => st b o (B.stays b o e), ⟨by rw [hke]; decide, ⟨L, oL, hf, hb0, hLg, fun vs q => by rw [hLd] at q; cases q⟩, B.frames.of_keeps fun b o e _ => ⟨o, st b o e, rfl⟩⟩⟩, fun b hb => ?_⟩
  rcases mem_frs hf hb with rfl | hb
  · exact ⟨oL, es, ep, hLg, hLd⟩
  · obtain ⟨o, es', n', ho', hd'⟩ := D b hb
    exact ⟨o, es', n', st b o ho', hd'⟩

/-- behind a call that has turned the frames' notes alone -/
theorem unground (C : Cx K cs outer base h₀ L s.heap m news) (hf : env.frame = some L) {g' : Heap} {L' : Addr} {m' : Str → Option Value} {s' : Shared} {news' : List (Addr × Obj)}
    (T' : KtsTurn (frs (env :: outer)) (hideAll s.heap (news.map (·.1))) g') (F' : Fr g' L' s'.heap m') (N' : News g' L' s'.heap news') :
    ∃ h₀', KtsTurn (frs outer) h₀ h₀' ∧ Cx K cs outer base h₀' L s'.heap m news' := by
  obtain ⟨⟨A₀, B⟩, F, XB, N, TB, D, k⟩ := C
  have nm : ∀ b o, h₀.get? b = some o → b ∉ news.map (·.1) := fun b o e q => by
    obtain ⟨p, hp, rfl⟩ := List.mem_map.mp q
    rw [(N p hp).2.2] at e; cases e
  have st : h₀.StaysIn (hideAll s.heap (news.map (·.1))) := fun b o e => hideAll_get _ (F.keep b o e) (nm b o e)
  obtain ⟨oL, es, ep, hL, hLd, hLk, hLf⟩ := F.ns
  have nL : L ∉ news.map (·.1) := fun q => by
    obtain ⟨p, hp, e⟩ := List.mem_map.mp q
    exact (N p hp).2.1 e
  have hLg := hideAll_get (news.map (·.1)) hL nL
  have nL₀ : h₀.get? L = none := kts_self F
  obtain ⟨sl, hs⟩ := T'.up hLg
  obtain ⟨T₁, S₁⟩ := kts_turn_at (h := s'.heap) (fs := frs outer) (g := h₀)
    (fun b hb => by
      obtain ⟨_, o, ho', _⟩ := B.frames.mem hb
      exact ⟨o, ho'⟩)
    (fun b o e nmem => F'.keep b o (T'.other b o (st b o e) (fun q => by
      rcases mem_frs hf q with z | z
      · rw [z, nL₀] at e; cases e
      · exact nmem z)))
    (fun b o e hm => by
      obtain ⟨sl', hs'⟩ := T'.up (st b o e)
      exact ⟨sl', F'.keep _ _ hs'⟩)
  have B₃ : Below A₀ base outer (ktsHeap s'.heap (frs outer) h₀) := ⟨B.stack, fun b o e => T₁.other b o (B.stays b o e) (fun hm => by
    rw [(B.frames.mem hm).1] at e; cases e), B.frames.of_keeps fun b o e _ => by
    obtain ⟨sl', hs'⟩ := T₁.up e
    exact ⟨_, hs', rfl⟩⟩
  refine ⟨_, T₁, ⟨_, B₃⟩, ⟨⟨_, es, ep, F'.keep _ _ hs, hLd, hLk, hLf⟩, S₁, by rw [T₁.size]; exact F.above⟩, XB, fun p hp => ⟨(N' p hp).1, fun q => ?_, ?_⟩, TB, D.turn T₁, k⟩
  · have := (N' p hp).2.2; rw [q, hs] at this; cases this
  · refine T₁.none_ _ ?_
    cases q : h₀.get? p.1 with
    | none => rfl
    | some o =>
      obtain ⟨sl', hs'⟩ := T'.up (st _ _ q)
      have := (N' p hp).2.2
      rw [hs'] at this; cases this

/-- behind a call that has turned nothing -/
theorem unground0 (C : Cx K cs outer base h₀ L s.heap m news) {L' : Addr} {m' : Str → Option Value} {s' : Shared} {news' : List (Addr × Obj)}
    (F' : Fr (hideAll s.heap (news.map (·.1))) L' s'.heap m') (N' : News (hideAll s.heap (news.map (·.1))) L' s'.heap news') : Cx K cs outer base h₀ L s'.heap m news' := by
  obtain ⟨⟨A₀, B⟩, F, XB, N, TB, D, k⟩ := C
  have nm : ∀ b o, h₀.get? b = some o → b ∉ news.map (·.1) := fun b o e q => by
    obtain ⟨p, hp, rfl⟩ := List.mem_map.mp q
    rw [(N p hp).2.2] at e; cases e
  have st : h₀.StaysIn (hideAll s.heap (news.map (·.1))) := fun b o e => hideAll_get _ (F.keep b o e) (nm b o e)
  obtain ⟨oL, es, ep, hL, hLd, hLk, hLf⟩ := F.ns
  have nL : L ∉ news.map (·.1) := fun q => by
    obtain ⟨p, hp, e⟩ := List.mem_map.mp q
    exact (N p hp).2.1 e
  have hLg := hideAll_get (news.map (·.1)) hL nL
  refine ⟨⟨_, B⟩, ⟨⟨oL, es, ep, F'.keep _ _ hLg, hLd, hLk, hLf⟩, fun b o e => F'.keep b o (st b o e), F.above⟩, XB, fun p hp => ⟨(N' p hp).1, fun q => ?_, ?_⟩, TB, D, k⟩
  · have := (N' p hp).2.2; rw [q, hLg] at this; cases this
  · cases q : h₀.get? p.1 with
    | none => rfl
    | some o => have := (N' p hp).2.2; rw [st _ _ q] at this; cases this

theorem enterC (C : Cx K cs outer base h₀ L s.heap m news) (hA : A.frames = some (env :: outer)) (hf : env.frame = some L) (hke : env.scope.kind = .function)
    (ho : K.lookup f = some ⟨oc, od, .func (fnOf name qual params body scope dV kV doc pm an cdv ct), osl⟩) (hcd : codeIn K cdv qual = true) (hroom : A.depth < recursionLimit)
    (hbind : BindsTo s (fnOf name qual params body scope dV kV doc pm an cdv ct) args binds) (hloc : ∀ y ∈ binds, scope.names.lookup y.1 = some .local)
    (h : ∀ g L' h₁, Cx K scope (env :: outer) base g L' h₁ (fun y => binds.reverse.lookup y) news → (∀ p ∈ news, p.1 < L') →
      wpAny (model prog w) (A.deeper (envOf qual scope L' f cdv)) (execs body (envOf qual scope L' f cdv))
        (fun fl s' => LeaveC K cs env outer base h₀ g L m R (match fl with | .ret v => v | _ => .none) s')
        (fun e s' => wpAny (model prog w) (A.deeper (envOf qual scope L' f cdv)) (leaving (envOf qual scope L' f cdv) e) (fun _ s'' => R (.error e) s'') (fun e' s'' => R (.error e') s'') s')
        { s with heap := h₁, toks := s.toks + binds.length })
    (hco : scope.isCoroutine = false) (hgen : scope.isGenerator = false) (hk : scope.kind = .function)
    (hcell : ∀ x ∈ scope.names, x.2 ≠ .cell) : codeAny (model prog w) A (.call (.ref f) args) R s := by
  have C' := C
  obtain ⟨⟨A₀, B⟩, F, XB, N, ⟨p, loose, mean, mg, mb, TB⟩, D, k⟩ := C
  have X₀ : K.In h₀ := XB.keeps B.stays
  have X := X₀.keeps F.keep
  refine codeAny_call_def (fd := fnOf name qual params body scope dV kV doc pm an cdv ct) (body := body) (binds := binds) hroom (X _ _ ho) rfl ((TB.nolimit.keeps B.stays).keeps F.keep) (codeRec_of X hcd) rfl hbind hcell hloc (fun h₁ hns hk₁ => ?_) hco hgen hk
  obtain ⟨st, FG, BG, DG⟩ := ground C' hA hf hke
  refine wpAny_mono (h _ s.heap.objs.size h₁ ⟨⟨A, BG⟩, ⟨hns, fun b o e => hk₁ b o (of_hideAll _ e), Nat.le_of_eq (hideAll_size _ _)⟩, XB,
    (fun p hp => ⟨hk₁ _ _ (N p hp).1, Nat.ne_of_lt (Heap.lt_size (N p hp).1), hideAll_none _ (List.mem_map_of_mem hp)⟩), ⟨p, loose, mean, mg, mb, TB⟩, DG, hk⟩ (fun p hp => Heap.lt_size (N p hp).1)) (fun fl s' hl => ?_) fun _ _ y => y
  rcases hl with ⟨L', m', news', F', N', kk⟩ | ⟨g', L', m', news', T', F', N', kk⟩
  · exact kk (unground0 C' F' N')
  obtain ⟨h₀', T₁, C₁⟩ := unground C' hf T' F' N'
  exact kk h₀' T₁ C₁
theorem enterCC (C : Cx K cs outer base h₀ L s.heap m news) (hA : A.frames = some (env :: outer)) (hf : env.frame = some L) (hke : env.scope.kind = .function)
    (ho : K.lookup f = some ⟨oc, od, .func (fnOf name qual params body scope dV kV doc pm an cdv ct), osl⟩) (hcd : codeIn K cdv qual = true) (hroom : A.depth < recursionLimit)
    (hbind : BindsTo s (fnOf name qual params body scope dV kV doc pm an cdv ct) args binds) (hkind : (binds.all fun y => scope.names.lookup y.1 == some .local || scope.names.lookup y.1 == some .cell) = true)
    (hnd : ((cellsFrom 0 scope.names []).map (·.1)).Nodup)
    (h : ∀ g L' h₁ tk cells, Cx K scope (env :: outer) base g L' h₁ (bindL (envOfC qual scope L' f cdv).kindOf binds fun _ => none) (cells ++ news) →
      CellsAre (bindC (envOfC qual scope L' f cdv).kindOf binds fun _ => none) (cellsFrom (L' + 1) scope.names []) cells → (∀ p ∈ news, p.1 < L') →
      wpAny (model prog w) (A.deeper (envOfC qual scope L' f cdv)) (execs body (envOfC qual scope L' f cdv))
        (fun fl s' => LeaveC K cs env outer base h₀ g L m R (match fl with | .ret v => v | _ => .none) s')
        (fun e s' => wpAny (model prog w) (A.deeper (envOfC qual scope L' f cdv)) (leaving (envOfC qual scope L' f cdv) e) (fun _ s'' => R (.error e) s'') (fun e' s'' => R (.error e') s'') s')
        { s with heap := h₁, toks := tk })
    (hco : scope.isCoroutine = false) (hgen : scope.isGenerator = false) (hk : scope.kind = .function) : codeAny (model prog w) A (.call (.ref f) args) R s := by
  have C' := C
  obtain ⟨⟨A₀, B⟩, F, XB, N, ⟨p, loose, mean, mg, mb, TB⟩, D, k⟩ := C
  have X₀ : K.In h₀ := XB.keeps B.stays
  have X := X₀.keeps F.keep
  obtain ⟨st, FG, BG, DG⟩ := ground C' hA hf hke
  refine codeAny_call_function hroom (X _ _ ho) rfl hco hgen rfl (codeRec_of X hcd) (hbind _ _ _ _ ?_)
  refine wpAny_newFunctionEnv_cells hk (kindsX hkind _) fun env' he s' x => ?_
  subst he
  have hlim : h₀.NoLimit := TB.nolimit.keeps B.stays
  refine ⟨(hlim.keeps F.keep).keeps x.toInCall.keep, codeAny_func ?_⟩
  obtain ⟨h₁, tk, rfl, _⟩ := x.done
  have hk₁ := x.toInCall.keep
  obtain ⟨cells, NC, Y⟩ := Cl.news (h₀ := s.heap) (Nat.le_refl _) fun n c hm => ⟨x.cell n c (lookup_of_mem_nodup (cellsFrom_names scope.names 0 (s.heap.objs.size + 1) [] [] rfl ▸ hnd) hm), x.above n c hm⟩
  refine wpAny_mono (h _ s.heap.objs.size h₁ tk cells ⟨⟨A, BG⟩, ⟨x.toInCall.ns, fun b o e => hk₁ b o (of_hideAll _ e), Nat.le_of_eq (hideAll_size _ _)⟩, XB, (fun p hp => ?_), ⟨p, loose, mean, mg, mb, TB⟩, DG, hk⟩ Y (fun p hp => Heap.lt_size (N p hp).1)) (fun fl s' hl => ?_) fun _ _ y => y
  · rcases List.mem_append.mp hp with hp | hp
    · refine ⟨(NC p hp).1, (NC p hp).2.1, ?_⟩
      cases q : (hideAll s.heap (news.map (·.1))).get? p.1 with
      | none => rfl
      | some o => have := of_hideAll _ q; rw [(NC p hp).2.2] at this; cases this
    · exact ⟨hk₁ _ _ (N p hp).1, Nat.ne_of_lt (Heap.lt_size (N p hp).1), hideAll_none _ (List.mem_map_of_mem hp)⟩
  rcases hl with ⟨L', m', news', F', N', kk⟩ | ⟨g', L', m', news', T', F', N', kk⟩
  · exact kk (unground0 C' F' N')
  obtain ⟨h₀', T₁, C₁⟩ := unground C' hf T' F' N'
  exact kk h₀' T₁ C₁
end

theorem noteFrame_first {M : Model} {A : Around} {E : Value → Shared → Prop} {s : Shared} {base : Heap} {env : Env} {outer : List Env} {L e : Addr} {oe : Obj} {vs : Array Value} {a0 : Value} {Q : Unit → Shared → Prop}
    (hfr : A.frames = some (env :: outer)) (hl : s.heap.FunFrames base (env :: outer)) (hf : env.frame = some L)
    (he : s.heap.get? e = some oe) (hkb : base.StaysIn s.heap) (hen : base.get? e = none) (hd : oe.data = .fields vs) (h1 : vs[1]? = some .none) (h0 : vs[0]? = some a0)
    (h : ∀ h', Heap.NotedW base (env :: outer) e oe.cls a0 (rawInt L) s.heap h' → Q () { s with heap := h' }) : wpAny M A (noteFrame (.ref e) env) Q E s := by
  unfold noteFrame
  simp only [hf]
  refine wpAny_bind (wpAny_field he hd h1 ?_)
  rw [if_neg (by decide)]
  exact wpAny_entryW hfr hl hf he hkb hen hd (Array.getElem?_eq_some_iff.mp h1).1 h0 h

section
variable {prog : Program} {w : World} {A₀ : Around} {E : Value → Shared → Prop} {s' : Shared} {base g h : Heap} {outer : List Env} {L a e : Addr} {m : Str → Option Value} {name : Str} {scope : Scope} {cd : Value}
  {b₀ : Stmt} {suite : List Stmt} {pos np : Pos} {rest : List ExceptHandler} {Q : Flow → Shared → Prop} {news : List (Addr × Obj)} {KF : Frag} {x : Str} {X T' : String}
/-- an exception of the interpreter's, new, caught by the frame's own try -/
theorem caught_own (C : Cx KF scope outer base g L h m news) (hA : A₀.frames = some outer) (hx0 : Heap.NewExc h s'.heap e X)
    (ex : nsIn KF mainGlobals x = some none) (hv : bootBuiltins x = some (.type T')) (hn' : x ≠ "__name__")
    (hexc : isSubtype (.type T') (.type "BaseException") = pure true) (hnt : isSubtype (.type ((Manifest.find? T').elim "type" fun y => y.metatype)) (.type "tuple") = pure false) (hsub : isSubtype (.type X) (.type T') = pure true)
    (k : ∀ h' g', KtsTurn (frs outer) g g' → Cx KF scope outer base g' L h' m news →
      wpAny (model prog w) ((A₀.deeper (envOf name scope L a cd)).mark (some (.ref e))) (execs (b₀ :: suite) (envOf name scope L a cd)) Q E { s' with heap := h' })
    (hx : (envOf name scope L a cd).kindOf x = some .globalImplicit := by rfl) (hd : (x == ("__debug__" : Str)) = false := by decide)
    (hE : PassesOwnAt (model prog w) ((A₀.deeper (envOf name scope L a cd)).mark (some (.ref e))) (A₀.deeper (envOf name scope L a cd)) (envOf name scope L a cd) E := by passes_own) :
    wpAny (model prog w) (A₀.deeper (envOf name scope L a cd)) (noteFrame (.ref e) (envOf name scope L a cd))
      (fun _ s₂ => wpAny (model prog w) (A₀.deeper (envOf name scope L a cd)) (setFlight (.ref e) none) (fun _ s₃ =>
        wpAny (model prog w) (A₀.deeper (envOf name scope L a cd)) (handleBy (.ref e) (envOf name scope L a cd) (.ExceptHandler (some (.Name x np)) none (b₀ :: suite) pos :: rest)) Q E s₃) E s₂) E s' := by
  obtain ⟨⟨A₁, K⟩, F, XB, N, ⟨p, loose, mean, mg, mb, TB⟩, D, hk⟩ := C
  have K : Below A₀ base outer g := ⟨hA, K.stays, K.frames⟩
  obtain ⟨oL, es, ep, hLo, hLd, hLk, hLf⟩ := F.ns
  let B := hideAll h (frs (envOf name scope L a cd :: outer))
  have hfL : (envOf name scope L a cd).frame = some L := rfl
  have hb0 : base.get? L = none := by
    cases q : base.get? L with
    | none => rfl
    | some o => have := K.stays L o q; rw [kts_self F] at this; cases this
  have hBG : ∀ b o, h.get? b = some o → b ∉ frs (envOf name scope L a cd :: outer) → B.get? b = some o := fun b o hb hm => hideAll_get _ hb hm
  have st : base.StaysIn B := fun b o q => hBG b o (F.keep b o (K.stays b o q)) fun hm => by
    rcases mem_frs hfL hm with rfl | hm
    · rw [hb0] at q; cases q
    · rw [(K.frames.mem hm).1] at q; cases q
  have hl : ∀ q ∈ news, B.get? q.1 = some q.2 := fun q hq => hBG _ _ (N q hq).1 fun hm => by
    rcases mem_frs hfL hm with e' | hm
    · exact (N q hq).2.1 e'
    · obtain ⟨o, ho, _⟩ := (K.frames.mem hm).2
      rw [(N q hq).2.2] at ho; cases ho
  have hBL : B.get? L = none := hideAll_none _ (List.mem_filterMap.mpr ⟨_, .head _, hfL⟩)
  have hBh : B.StaysIn s'.heap := fun b o hb => hx0.keeps b o (of_hideAll _ hb)
  obtain ⟨ob, tp, he, hcls, hdd⟩ := hx0.there
  have hen : B.get? e = none := by
    cases q : B.get? e with
    | none => rfl
    | some o => have := of_hideAll _ q; rw [hx0.new] at this; cases this
  have hff : s'.heap.FunFrames B (envOf name scope L a cd :: outer) := by
    refine ⟨by show scope.kind ≠ .module; rw [hk]; decide, ⟨L, oL, rfl, hBL, hx0.keeps _ _ hLo, fun vs q => by rw [hLd] at q; cases q⟩, ?_⟩
    have hsub : ∀ env ∈ outer, ∀ b, env.frame = some b → B.get? b = none := fun env he b hb => hideAll_none _ (List.mem_filterMap.mpr ⟨env, .tail _ he, hb⟩)
    have hfr := K.frames
    have hstep : ∀ (l : List Env), (∀ env ∈ l, ∀ b, env.frame = some b → B.get? b = none) → g.FunFrames base l → s'.heap.FunFrames B l := by
      intro l
      induction l with
      | nil => intro _ _; trivial
      | cons env r ih =>
        rintro hs ⟨h1, ⟨L₁, o₁, hf₁, _, ho₁, hd₁⟩, hr⟩
        exact ⟨h1, ⟨L₁, o₁, hf₁, hs env (.head _) L₁ hf₁, hx0.keeps _ _ (F.keep _ _ ho₁), hd₁⟩, ih (fun env' he' => hs env' (.tail _ he')) hr⟩
    exact hstep outer hsub hfr
  refine noteFrame_first (base := B) (a0 := tp) (L := L) (by show A₀.frames.map _ = _; rw [hA]; rfl) hff rfl he hBh hen hdd rfl rfl fun h₄ hN => ?_
  obtain ⟨k1, k2, k3, hsm₄⟩ := hN
  rw [hcls] at k3
  have hheld₄ : Heap.HeldW B (envOf name scope L a cd :: outer) e (.type X) tp L h₄ := ⟨k1, hen, k2, k3⟩
  have hsm₀ : h.UpToSlots s'.heap := Heap.UpToSlots.of_keeps hx0.keeps
  refine wpAny_landsW hheld₄ fun h₅ hheld hsm₅' => ?_
  have hsm₅ : s'.heap.UpToSlots h₅ := Heap.UpToSlots.trans hsm₄ hsm₅'
  obtain ⟨g₅, T₅, F₅, K₅⟩ := kts_ground K F hBG hheld.1 (hsm₀.trans hsm₅)
  have X₅ : KF.In g₅ := XB.keeps K₅.stays
  have P₅ : TopRead p loose mg mb g₅ := topRead_of (TB.keeps K₅.stays)
  obtain ⟨ob', hob, hobc⟩ := hheld.there
  refine wpAny_handleBy_builtin (X := X) (T := T') (b := true) hexc hnt hsub (name_B F₅ X₅ P₅ ex hv hn' ⟨rfl, ⟨ob', hob, hobc⟩, ?_⟩ hk hx hd)
  refine lands_againW hheld fun h₆ hfl₆ hsm₆ => ?_
  obtain ⟨g₆, T₆, F₆, K₆⟩ := kts_ground K F hBG hfl₆.1 ((hsm₀.trans hsm₅).trans hsm₆)
  exact wpAny_passesOwnAt hE (k h₆ g₆ T₆ ⟨⟨_, K₆⟩, F₆, XB, fun q hq => ⟨hfl₆.1 _ _ (hl q hq), (N q hq).2.1, T₆.none_ _ (N q hq).2.2⟩, ⟨p, loose, mean, mg, mb, TB⟩, D.turn T₆, hk⟩)
end

/-! loops in whose turns an exception may be caught: the frames below are kept in the ledger -/
def frEnts (fs : List Addr) (g : Heap) : List (Addr × Obj) := fs.filterMap fun b => (g.get? b).map fun o => (b, o)
theorem mem_frEnts {fs : List Addr} {g : Heap} {p : Addr × Obj} : p ∈ frEnts fs g ↔ p.1 ∈ fs ∧ g.get? p.1 = some p.2 := by
  unfold frEnts
  rw [List.mem_filterMap]
  constructor
  · rintro ⟨b, hb, e⟩
    cases q : g.get? b with
    | none => rw [q] at e; cases e
    | some o => rw [q] at e; cases e; exact ⟨hb, q⟩
  · rintro ⟨h1, h2⟩
    exact ⟨p.1, h1, by rw [h2]; rfl⟩
theorem frEnts_addr {fs : List Addr} {g : Heap} (h : ∀ b ∈ fs, ∃ o, g.get? b = some o) {b : Addr} (hb : b ∈ fs) : ∃ o, (b, o) ∈ frEnts fs g := by
  obtain ⟨o, ho⟩ := h b hb
  exact ⟨o, mem_frEnts.mpr ⟨hb, ho⟩⟩
section
variable {K : Frag} {cs : Scope} {outer : List Env} {base g g₁ h h' : Heap} {L : Addr} {m m' : Str → Option Value} {news news' all : List (Addr × Obj)}
theorem cx_some (C : Cx K cs outer base g L h m news) : ∀ b ∈ frs outer, ∃ o, g.get? b = some o := fun b hb => by
  obtain ⟨o, es, n, ho, _⟩ := C.D b hb
  exact ⟨o, ho⟩
theorem cx_off (C : Cx K cs outer base g L h m news) : ∀ p ∈ news, p.1 ∉ frs outer := fun p hp q => by
  obtain ⟨o, ho⟩ := cx_some C _ q
  rw [(C.N p hp).2.2] at ho; cases ho
theorem hide_fr (F : Fr g L h m) (k : ∀ b o, (hideAll g₁ (frs outer)).get? b = some o → g.get? b = some o) (hz : g₁.objs.size = g.objs.size) : Fr (hideAll g₁ (frs outer)) L h m :=
  ⟨F.ns, fun b o e => F.keep b o (k b o e), by rw [hideAll_size, hz]; exact F.above⟩
theorem turn_hide (T : KtsTurn (frs outer) g g₁) (F : Fr g₁ L h' m') (N : News g₁ L h' all) : Fr (hideAll g (frs outer)) L h' m' ∧ News (hideAll g (frs outer)) L h' (frEnts (frs outer) g₁ ++ all) := by
  have hk : ∀ b o, (hideAll g (frs outer)).get? b = some o → g₁.get? b = some o := fun b o e => by
    refine T.other b o (of_hideAll _ e) fun q => ?_
    rw [hideAll_none _ q] at e; cases e
  refine ⟨hide_fr F hk T.size.symm, fun p hp => ?_⟩
  rcases List.mem_append.mp hp with hp | hp
  · obtain ⟨h1, h2⟩ := mem_frEnts.mp hp
    refine ⟨F.keep _ _ h2, fun q => ?_, hideAll_none _ h1⟩
    rw [q, kts_self F] at h2; cases h2
  · obtain ⟨h1, h2, h3⟩ := N p hp
    refine ⟨h1, h2, ?_⟩
    cases q : (hideAll g (frs outer)).get? p.1 with
    | none => rfl
    | some o => rw [hk _ _ q] at h3; cases h3
theorem cx_show (C : Cx K cs outer base g L h m news) (T : KtsTurn (frs outer) g g₁) (F : Fr (hideAll g (frs outer)) L h' m') (N : News (hideAll g (frs outer)) L h' all) (hf : ∀ p ∈ frEnts (frs outer) g₁, p ∈ all) (hn : ∀ p ∈ news', p ∈ all ∧ p.1 ∉ frs outer) : Cx K cs outer base g₁ L h' m' news' := by
  obtain ⟨⟨A₀, B⟩, F₀, XB, N₀, TB, D, k⟩ := C
  have hk : ∀ b o, g₁.get? b = some o → h'.get? b = some o := fun b o e => by
    by_cases hb : b ∈ frs outer
    · exact (N (b, o) (hf _ (mem_frEnts.mpr ⟨hb, e⟩))).1
    · have : g.get? b = some o := by
        cases q : g.get? b with
        | none => rw [T.none_ _ q] at e; cases e
        | some o' => rw [T.other _ _ q hb] at e; cases e; rfl
      exact F.keep b o (hideAll_get _ this hb)
  refine ⟨⟨A₀, B.stack, fun b o e => T.other b o (B.stays b o e) fun hm => ?_, B.frames.of_keeps fun b o e _ => ?_⟩, ⟨F.ns, hk, by have := F.above; rw [hideAll_size] at this; rw [T.size]; exact this⟩, XB, fun p hp => ?_, TB, D.turn T, k⟩
  · rw [(B.frames.mem hm).1] at e; cases e
  · obtain ⟨sl, hs⟩ := T.up e
    exact ⟨_, hs, rfl⟩
  · obtain ⟨h1, h2⟩ := hn p hp
    obtain ⟨h3, h4, h5⟩ := N p h1
    refine ⟨h3, h4, T.none_ _ ?_⟩
    cases q : g.get? p.1 with
    | none => rfl
    | some o => rw [hideAll_get _ q h2] at h5; cases h5
/-- no frame below: nothing has turned -/
theorem cx_home (T : KtsTurn (frs []) g g₁) (C : Cx K cs [] base g L h m news) (C₁ : Cx K cs [] base g₁ L h' m' news') : Cx K cs [] base g L h' m' news' :=
  ⟨C.B, ⟨C₁.F.ns, (fun b o e => C₁.F.keep b o (T.other b o e (by simp))), (by rw [← T.size]; exact C₁.F.above)⟩, C.XB, (fun p hp => by
    obtain ⟨h1, h2, h3⟩ := C₁.N p hp
    refine ⟨h1, h2, ?_⟩
    cases q : g.get? p.1 with
    | none => rfl
    | some o => rw [T.other _ _ q (by simp)] at h3; cases h3), C.TB, C.D, C.k⟩

def TurnEndC (outer : List Env) (g : Heap) (L I : Addr) (own : List (Addr × Obj)) (Jn : (Str → Option Value) → List (Addr × Obj) → Prop) (s₁ s₂ : Shared) : Prop :=
  ∃ g' h' tk m' all nx, s₂ = { s₁ with heap := h', toks := tk } ∧ KtsTurn (frs outer) g g' ∧ Fr g' L h' m' ∧ News g' L h' all ∧ (∀ p ∈ own, p ∈ all) ∧ (∀ p ∈ nx, p ∈ all) ∧ (∀ p ∈ nx, p.1 ≠ I) ∧ Jn m' nx
def TurnPostC (outer : List Env) (g : Heap) (L I : Addr) (own : List (Addr × Obj)) (Jn : (Str → Option Value) → List (Addr × Obj) → Prop) (s₁ : Shared) (Q : Flow → Shared → Prop) (f : Flow) (s₂ : Shared) : Prop :=
  match f with
  | .ret v => Q (.ret v) s₂
  | .brk => Q .next s₂
  | _ => TurnEndC outer g L I own Jn s₁ s₂
theorem TurnEndC.mk {I : Addr} {own : List (Addr × Obj)} {Jn : (Str → Option Value) → List (Addr × Obj) → Prop} {s₁ : Shared} {tk : Nat} (nx : List (Addr × Obj))
    (T : KtsTurn (frs outer) g g₁) (F : Fr g₁ L h' m') (N : News g₁ L h' all) (ho : ∀ p ∈ own, p ∈ all) (hn : ∀ p ∈ nx, p ∈ all) (hI : ∀ p ∈ nx, p.1 ≠ I) (hj : Jn m' nx) : TurnEndC outer g L I own Jn s₁ { s₁ with heap := h', toks := tk } :=
  ⟨g₁, h', tk, m', all, nx, rfl, T, F, N, ho, hn, hI, hj⟩
theorem TurnEndC.app {I : Addr} {own : List (Addr × Obj)} {Jn : (Str → Option Value) → List (Addr × Obj) → Prop} {s₁ : Shared} {tk : Nat} {nx : List (Addr × Obj)}
    (T : KtsTurn (frs outer) g g₁) (F : Fr g₁ L h' m') (N : News g₁ L h' (nx ++ own)) (hI : ∀ p ∈ nx, p.1 ≠ I) (hj : Jn m' nx) : TurnEndC outer g L I own Jn s₁ { s₁ with heap := h', toks := tk } :=
  ⟨g₁, h', tk, m', _, nx, rfl, T, F, N, fun _ h => List.mem_append_right _ h, fun _ h => List.mem_append_left _ h, hI, hj⟩
end
section
variable {prog : Program} {w : World} {A : Around} {E : Value → Shared → Prop} {s : Shared} {env : Env} {g base : Heap} {x : Str} {body : List Stmt} {Q : Flow → Shared → Prop} {K : Frag} {cs : Scope} {outer : List Env}
theorem iter_listC {L l : Addr} {vs : List Value} {n : Nat} {m₀ : Str → Option Value} {news : List (Addr × Obj)} (hLe : env.locals = L) (C : Cx K cs outer base g L s.heap m₀ news) (J : Nat → (Str → Option Value) → List (Addr × Obj) → Prop)
    (hh : A.handled = none) (hlm : (l, listOf vs.toArray n) ∈ news) (hj : J 0 m₀ news)
    (turn : ∀ i v m₁ news₁ I own h tk g₁, KtsTurn (frs outer) g g₁ → vs[i]? = some v → J i m₁ news₁ → (∀ p ∈ own, p.1 = I ∨ p.1 = l) → (∀ p ∈ news₁, p.1 ≠ I) → (∃ o, (I, o) ∈ own) → h.IsList l vs.toArray → l ≠ I →
      Cx K cs outer base g₁ L h (fun z => if z = x then some v else m₁ z) (news₁ ++ own) →
      wpAny (model prog w) A (execs body env) (TurnPostC outer g₁ L I own (J (i + 1)) { s with heap := h, toks := tk } Q) E { s with heap := h, toks := tk })
    (done : ∀ m₁ news₁ h tk g₁, KtsTurn (frs outer) g g₁ → J vs.length m₁ news₁ → Cx K cs outer base g₁ L h m₁ news₁ → Q .next { s with heap := h, toks := tk }) :
    wpAny (model prog w) A (pyIter (.ref l)) (fun it s₂ => LoopAtV prog w A (hideAll g (frs outer)) env x body Q E it s₂) E s := by
  subst hLe
  obtain ⟨F₀, N₀⟩ := turn_hide KtsTurn.refl C.F C.N
  have hl : s.heap.IsList l vs.toArray := PySem.IsL.isList (n := n) (C.N _ hlm).1
  have hoffs := cx_off C
  refine iter_listJ (l := l) (vs := vs) (news := frEnts (frs outer) g ++ news) (fun i m' nx => ∃ g₁ nx₀, nx = frEnts (frs outer) g₁ ++ nx₀ ∧ KtsTurn (frs outer) g g₁ ∧ (∀ p ∈ nx₀, p.1 ∉ frs outer) ∧ J i m' nx₀) hh hl (C.N _ hlm).2.1 F₀ N₀ ⟨g, news, rfl, .refl, hoffs, hj⟩ ?_ ?_
  · rintro i v m₁ news₁ I own h tk hv ⟨g₁, nx₀, rfl, T, hno, hJ⟩ hown hoff hIo hlst hlI F₁ N₁
    have hsome : ∀ b ∈ frs outer, ∃ o, g₁.get? b = some o := fun b hb => by
      obtain ⟨o, ho⟩ := cx_some C b hb
      obtain ⟨sl, hs⟩ := T.up ho
      exact ⟨_, hs⟩
    have hIf : I ∉ frs outer := fun q => by
      obtain ⟨o, ho⟩ := frEnts_addr hsome q
      exact hoff _ (List.mem_append_left _ ho) rfl
    have hown' : ∀ p ∈ own, p.1 ∉ frs outer := fun p hp => by
      rcases hown p hp with e | e
      · rw [e]; exact hIf
      · rw [e]; exact hoffs _ hlm
    have C₁ : Cx K cs outer base g₁ env.locals h (fun z => if z = x then some v else m₁ z) (nx₀ ++ own) := cx_show C T F₁ N₁ (fun p hp => List.mem_append_left _ (List.mem_append_left _ hp)) fun p hp => by
      rcases List.mem_append.mp hp with hp | hp
      · exact ⟨List.mem_append_left _ (List.mem_append_right _ hp), hno p hp⟩
      · exact ⟨List.mem_append_right _ hp, hown' p hp⟩
    refine wpAny_mono (turn i v m₁ nx₀ I own h tk g₁ T hv hJ hown (fun p hp => hoff p (List.mem_append_right _ hp)) hIo hlst hlI C₁) (fun f s₂ p => ?_) fun _ _ e => e
    have fin : TurnEndC outer g₁ env.locals I own (J (i + 1)) { s with heap := h, toks := tk } s₂ → TurnEnd (hideAll g (frs outer)) env.locals I own (fun m' nx => ∃ g₁ nx₀, nx = frEnts (frs outer) g₁ ++ nx₀ ∧ KtsTurn (frs outer) g g₁ ∧ (∀ p ∈ nx₀, p.1 ∉ frs outer) ∧ J (i + 1) m' nx₀) { s with heap := h, toks := tk } s₂ := by
      rintro ⟨g', h', tk', m', all, nx, e, T', F', N', ho, hn, hI, hm⟩
      obtain ⟨F₂, N₂⟩ := turn_hide (T.trans T') F' N'
      have hsome' : ∀ b ∈ frs outer, ∃ o, g'.get? b = some o := fun b hb => by
        obtain ⟨o, ho⟩ := hsome b hb
        obtain ⟨sl, hs⟩ := T'.up ho
        exact ⟨_, hs⟩
      refine ⟨h', tk', m', _, frEnts (frs outer) g' ++ nx, e, F₂, N₂, fun p hp => List.mem_append_right _ (ho p hp), fun p hp => ?_, fun p hp => ?_, g', nx, rfl, T.trans T', fun p hp q => ?_, hm⟩
      · rcases List.mem_append.mp hp with hp | hp
        · exact List.mem_append_left _ hp
        · exact List.mem_append_right _ (hn p hp)
      · rcases List.mem_append.mp hp with hp | hp
        · rintro q; exact hIf (q ▸ (mem_frEnts.mp hp).1)
        · exact hI p hp
      · obtain ⟨o, ho⟩ := hsome' _ q
        rw [(N' p (hn p hp)).2.2] at ho; cases ho
    cases f with
    | ret v => exact p
    | brk => exact p
    | next => exact fin p
    | cont => exact fin p
  · rintro m₁ nx h tk ⟨g₁, nx₀, rfl, T, hno, hJ⟩ F₁ N₁
    exact done m₁ nx₀ h tk g₁ T hJ (cx_show C T F₁ N₁ (fun p hp => List.mem_append_left _ hp) fun p hp => ⟨List.mem_append_right _ hp, hno p hp⟩)
end
end Mine
end
section
open PySem PySem.W PySem.Calls PyProof.Rows PySem.Builtin
namespace Mine
set_option maxRecDepth 100000

/-! an object that compares by what it is (no __eq__ of its own), out of the written part -/
structure PlainIn (K : Frag) (x C : Addr) : Prop where
  ty : typeIn K (.ref x) = some (.ref C)
  obj : ∃ o, K.lookup x = some o ∧ o.cls = .ref C
  eq : findIn K (.ref C) "__eq__" = some (some (.builtin "object.__eq__"))
  ne : findIn K (.ref C) "__ne__" = some (some (.builtin "object.__ne__"))
  ob : subIn K (.ref C) (.type "object") = some true
  nt : subIn K (.ref C) (.type "tuple") = some false
section
variable {prog : Program} {w : World} {A : Around} {E : Value → Shared → Prop} {s : Shared} {x C : Addr} {K : Frag}
theorem plain_special {name : Str} {id : String} {args : List Value} {Q : Option Value → Shared → Prop} (X : K.In s.heap) (P : PlainIn K x C) (S : Slot "object" name id) (hf : findIn K (.ref C) name = some (some (.builtin id)))
    (hc : wpAny (model prog w) A (call (.builtin id) (.ref x :: args)) (fun v => Q (some v)) E s) : wpAny (model prog w) A (callSpecialIfBound? (.ref x) name args) Q E s := by
  simp only [callSpecialIfBound?, bindSpecialIfBound?, specialOf]
  refine wpAny_holding (wpAny_bind (wpAny_bind (wpAny_bind ((looks_typeIn X P.ty).here ((looks_findIn X hf).here ?_)))))
  simp only [S.bind]
  refine wpAny_bind (wpAny_askSetting (wpAny_ite ?_))
  have fin : wpAny (model prog w) A (call (.builtin id) ([.ref x] ++ args) >>= fun v => pure (some v)) Q E s :=
    wpAny_bind (wpAny_mono hc (fun v s' h' => wpAny_pure h') fun _ _ h' => h')
  split
  · exact wpAny_bind (wpAny_pure (wpAny_pure fin))
  · exact wpAny_tryCatch (wpAny_bind (wpAny_pure (wpAny_pure fin)))
theorem plain_isob (X : K.In s.heap) (P : PlainIn K x C) : Looks (model prog w) s.heap (isInstance (.ref x) (.type "object")) true := (looks_typeIn X P.ty).andThen (looks_subIn X P.ob)
theorem plain_istup {M : Model} (X : K.In s.heap) (P : PlainIn K x C) : Looks M s.heap (isInstance (.ref x) (.type "tuple")) false := (looks_typeIn X P.ty).andThen (looks_subIn X P.nt)
theorem plain_eq_same {Q : Option Value → Shared → Prop} (X : K.In s.heap) (P : PlainIn K x C) (hq : Q (some (.bool true)) s) : wpAny (model prog w) A (callSpecialIfBound? (.ref x) "__eq__" [.ref x]) Q E s :=
  plain_special X P F.cmp_object.eq P.eq (wpAny_call (codeAny_call_builtin F.cmp_object.eq.plain F.cmpEntry_eq (check_slot F.cmpKind_eq F.cmpSplit_eq (plain_isob X P) (F.cmpArgs_eq _ _) (objEq_entry_same hq))))
theorem plain_eq_other {y : Addr} {oy : Obj} {Q : Option Value → Shared → Prop} (X : K.In s.heap) (P : PlainIn K x C) (hy : s.heap.get? y = some oy) (hxy : x ≠ y) (hq : Q (some .notImplemented) s) : wpAny (model prog w) A (callSpecialIfBound? (.ref x) "__eq__" [.ref y]) Q E s := by
  obtain ⟨o, ho, hc⟩ := P.obj
  exact plain_special X P F.cmp_object.eq P.eq (wpAny_call (codeAny_call_builtin F.cmp_object.eq.plain F.cmpEntry_eq (check_slot F.cmpKind_eq F.cmpSplit_eq (plain_isob X P) (F.cmpArgs_eq _ _) (objEq_entry_other hxy (X _ _ ho) hy (by rw [hc]; intro e; cases e) hq))))
theorem plain_ne_same {Q : Option Value → Shared → Prop} (X : K.In s.heap) (P : PlainIn K x C) (hu : A.units + 1 < cLine) (hq : Q (some (.bool false)) s) : wpAny (model prog w) A (tryCompare (.ref x) "__ne__" (.ref x)) Q E s := by
  simp only [tryCompare]
  refine wpAny_bind (plain_special X P F.cmp_object.ne P.ne (wpAny_call (codeAny_call_builtin F.cmp_object.ne.plain F.cmpEntry_ne (check_slot F.cmpKind_ne F.cmpSplit_ne (plain_isob X P) (F.cmpArgs_ne _ _) ?_))))
  unfold Builtin.«object.__ne__»
  repeat (first | with_reducible refine wpAny_cRoomFor (A := A.in1) hu ?_ | with_reducible refine plain_eq_same X P ?_ | wp_step)
  exact hq
theorem plain_ne_other {y : Addr} {oy : Obj} {Q : Option Value → Shared → Prop} (X : K.In s.heap) (P : PlainIn K x C) (hy : s.heap.get? y = some oy) (hxy : x ≠ y) (hu : A.units + 1 < cLine) (hq : Q none s) : wpAny (model prog w) A (tryCompare (.ref x) "__ne__" (.ref y)) Q E s := by
  simp only [tryCompare]
  refine wpAny_bind (plain_special X P F.cmp_object.ne P.ne (wpAny_call (codeAny_call_builtin F.cmp_object.ne.plain F.cmpEntry_ne (check_slot F.cmpKind_ne F.cmpSplit_ne (plain_isob X P) (F.cmpArgs_ne _ _) ?_))))
  unfold Builtin.«object.__ne__»
  repeat (first | with_reducible refine wpAny_cRoomFor (A := A.in1) hu ?_ | with_reducible refine plain_eq_other X P hy hxy ?_ | wp_step)
  exact hq
/-- x != x -/
theorem plain_ne (X : K.In s.heap) (P : PlainIn K x C) (hu : A.units + 1 < cLine) {Q : Value → Shared → Prop} (hq : Q (.bool false) s) : wpAny (model prog w) A (compareOp .NotEq (.ref x) (.ref x)) Q E s := by
  have hu0 : A.units < cLine := Nat.lt_of_succ_lt hu
  show wpAny _ _ (richCompare .NotEq _ _) _ _ _
  simp only [richCompare, cmpInfo_NotEq, oneThing_ref]
  repeat (first | with_reducible refine wpAny_cRoomFor hu0 ?_ | with_reducible refine (looks_typeIn X P.ty).here ?_ | with_reducible refine plain_ne_same X P hu ?_ | wp_step)
  exact hq
theorem tup_ne_plain_entry {ta : Addr} {vs : List Value} {Q : Fin → Shared → Prop} (X : K.In s.heap) (P : PlainIn K x C) (ht : s.heap.get? ta = some { cls := .type "tuple", data := .seq vs.toArray }) (hq : Q (.done (.ret .notImplemented)) s) :
    wpAny (model prog w) A (Builtin.«tuple.__ne__» ⟨[.ref ta, .ref x], []⟩) Q E s := by
  have H : Looks (model prog w) s.heap (isInstance (.ref x) (.type "tuple")) false := plain_istup X P
  obtain ⟨hp, g, d, tk, os⟩ := s
  wp_walk using wpAny_loadPart' ht, H.here
  exact hq
theorem tup_typeIs {ta : Addr} {vs : List Value} (ht : s.heap.get? ta = some { cls := .type "tuple", data := .seq vs.toArray }) : s.TypeIs (.ref ta) "tuple" := ⟨_, ht, rfl⟩
theorem is_ref_off {M : Model} {a b : Addr} {oa ob : Obj} {Q : Value → Shared → Prop} (hab : a ≠ b) (ha : s.heap.get? a = some oa) (hb : s.heap.get? b = some ob) (hnt : ob.cls ≠ .type "tuple") (h : Q (.bool false) s) : wpAny M A (compareOp .Is (.ref a) (.ref b)) Q E s := by
  show wpAny M A (do return .bool (← isSame (.ref a) (.ref b))) Q E s
  exact wpAny_bind (PySem.SeqAt.wpAny_isSame_ref_other' hab ha hb hnt (wpAny_pure h))
theorem isnot_ref_off {M : Model} {a b : Addr} {oa ob : Obj} {Q : Value → Shared → Prop} (hab : a ≠ b) (ha : s.heap.get? a = some oa) (hb : s.heap.get? b = some ob) (hnt : ob.cls ≠ .type "tuple") (h : Q (.bool true) s) : wpAny M A (compareOp .IsNot (.ref a) (.ref b)) Q E s := by
  show wpAny M A (do return .bool (!(← isSame (.ref a) (.ref b)))) Q E s
  exact wpAny_bind (PySem.SeqAt.wpAny_isSame_ref_other' hab ha hb hnt (wpAny_pure h))
/-- a tuple != an object that compares by what it is -/
theorem tup_ne_plain {ta : Addr} {vs : List Value} (X : K.In s.heap) (P : PlainIn K x C) (ht : s.heap.get? ta = some { cls := .type "tuple", data := .seq vs.toArray }) (hxt : x ≠ ta) (hu : A.units + 1 < cLine) {Q : Value → Shared → Prop} (hq : Q (.bool true) s) :
    wpAny (model prog w) A (compareOp .NotEq (.ref ta) (.ref x)) Q E s := by
  have hu0 : A.units < cLine := Nat.lt_of_succ_lt hu
  obtain ⟨o, ho, hc⟩ := P.obj
  show wpAny _ _ (richCompare .NotEq _ _) _ _ _
  simp only [richCompare, cmpInfo_NotEq, oneThing_ref]
  refine wpAny_holding (wpAny_bind (wpAny_cRoomFor hu0 ?_))
  refine wpAny_bind (wpAny_typeOf (tup_typeIs ht) (wpAny_bind ((looks_typeIn X P.ty).here ?_)))
  rw [if_pos (by rfl)]
  refine wpAny_bind ((looks_subIn X P.nt).here ?_)
  simp only [Bool.false_eq_true, if_false, Bool.not_false, if_true]
  refine wpAny_bind (m := tryCompare (.ref ta) "__ne__" (.ref x)) (wpAny_tryCompare_declines (tup_typeIs ht) F.slot_tuple_ne (wpAny_call (codeAny_call_builtin F.slot_tuple_ne.plain F.entry_tuple_ne (F.slot_tuple_ne.check _ _ _ _ _ _ _ _ (tup_typeIs ht) (F.args_tuple_ne_2 _ _) (tup_ne_plain_entry X P ht ⟨rfl, ?_⟩)))))
  refine wpAny_bind (m := tryCompare (.ref x) "__ne__" (.ref ta)) (plain_ne_other X P ht hxt hu ?_)
  refine wpAny_bind (wpAny_rule (wpAny_bind (PySem.SeqAt.wpAny_isSame_ref_other' (fun e => hxt e.symm) ht (X _ _ ho) (by rw [hc]; intro e; cases e) (wpAny_pure hq))))
end
end Mine
end
section
open Lean Elab Tactic Meta PySem PySem.W PySem.Calls PyProof.Rows PyProof.V PySem.Builtin
namespace Mine
set_option maxRecDepth 100000

/-! texts and rows of texts as data -/
theorem strs_carried : ∀ {vs : List Value} {ws : List Str}, StrsAre vs ws → CarriedAll vs (ws.map PyData.str)
  | _, _, .nil => .nil
  | _, _, .cons _ t r => .cons (.str _ t) (strs_carried r)
def StrsOk (ws : List Str) : Prop := ∀ x ∈ ws, PyData.strOk x = true
theorem strs_canLay : ∀ ws : List Str, StrsOk ws → PyData.canLayAll0 (ws.map PyData.str) = true
  | [], _ => rfl
  | x :: r, h => by simp [PyData.canLayAll0, PyData.canLay0, strs_canLay r (fun y hy => h y (.tail _ hy)), h x (.head _)]
theorem strs_depth : ∀ ws : List Str, PyData.depthAll (ws.map PyData.str) = 0
  | [] => rfl
  | _ :: r => by simp [PyData.depthAll, PyData.depth, strs_depth r]
theorem strs_shapedL (ws : List Str) (h : StrsOk ws) : SeqAt.shaped (.list (ws.map PyData.str)) = true := by
  simp [SeqAt.shaped, PyData.canLay0, PyData.depth, strs_canLay ws h, strs_depth]
theorem strs_shapedT (ws : List Str) (h : StrsOk ws) : SeqAt.shaped (.tuple (ws.map PyData.str)) = true := by
  simp [SeqAt.shaped, PyData.canLay0, PyData.depth, strs_canLay ws h, strs_depth]
theorem strs_sameAll : ∀ ws us : List Str, PySem.Spec.sameAll (ws.map PyData.str) (us.map PyData.str) = decide (ws = us)
  | [], [] => by simp [PySem.Spec.sameAll]
  | [], _ :: _ => by simp [PySem.Spec.sameAll]
  | _ :: _, [] => by simp [PySem.Spec.sameAll]
  | a :: r, b :: t => by
    simp only [List.map_cons, PySem.Spec.sameAll, PySem.Spec.same, strs_sameAll r t]
    by_cases h : a = b <;> by_cases h' : r = t <;> simp [h, h']
theorem strs_sameL (ws us : List Str) : PySem.Spec.same (.list (ws.map PyData.str)) (.list (us.map PyData.str)) = decide (ws = us) := by
  simp only [PySem.Spec.same]; exact strs_sameAll ws us
theorem strs_sameT (ws us : List Str) : PySem.Spec.same (.tuple (ws.map PyData.str)) (.tuple (us.map PyData.str)) = decide (ws = us) := by
  simp only [PySem.Spec.same]; exact strs_sameAll ws us
theorem strs_noMixAll : ∀ ws us : List Str, SeqAt.noMixAll (ws.map PyData.str) (us.map PyData.str) = true
  | [], [] => by simp [SeqAt.noMixAll]
  | [], _ :: _ => by simp [SeqAt.noMixAll]
  | _ :: _, [] => by simp [SeqAt.noMixAll]
  | a :: r, b :: t => by simp [SeqAt.noMixAll, SeqAt.noMix, strs_noMixAll r t]
section
variable {prog : Program} {w : World} {A : Around} {E : Value → Shared → Prop} {s : Shared} {h₀ : Heap} {L a b : Addr} {m : Str → Option Value} {news : List (Addr × Obj)} {vs us : List Value} {n n2 : Nat} {ws ys : List Str} {Q : Value → Shared → Prop}
theorem eq_strsL (N : News h₀ L s.heap news) (ha : (a, listOf vs.toArray n) ∈ news) (hb : (b, listOf us.toArray n2) ∈ news) (hv : StrsAre vs ws) (hu' : StrsAre us ys) (ho : StrsOk ws) (ho2 : StrsOk ys) (hu : A.units + 64 < cLine) (h : Q (.bool (decide (ws = ys))) s) :
    wpAny (model prog w) A (compareOp .Eq (.ref a) (.ref b)) Q E s :=
  eq_dataH_same (reads_newData (PySem.IsL.isList (n := n) (N _ ha).1) (strs_carried hv)) (reads_newData (PySem.IsL.isList (n := n2) (N _ hb).1) (strs_carried hu')) (strs_shapedL _ ho) (strs_shapedL _ ho2) hu
    (by show SeqAt.noMix _ _ = true; simp only [SeqAt.noMix]; exact strs_noMixAll _ _) (by rw [strs_sameL]; exact h)
theorem ne_strsT (N : News h₀ L s.heap news) (ha : (a, tupO vs) ∈ news) (hb : (b, tupO us) ∈ news) (hv : StrsAre vs ws) (hu' : StrsAre us ys) (ho : StrsOk ws) (ho2 : StrsOk ys) (hu : A.units + 64 < cLine) (h : Q (.bool (!decide (ws = ys))) s) :
    wpAny (model prog w) A (compareOp .NotEq (.ref a) (.ref b)) Q E s :=
  ne_dataH_same (reads_newDataT (N.isTup ha) (strs_carried hv)) (reads_newDataT (N.isTup hb) (strs_carried hu')) (strs_shapedT _ ho) (strs_shapedT _ ho2) hu
    (by show SeqAt.noMix _ _ = true; simp only [SeqAt.noMix]; exact strs_noMixAll _ _) (by rw [strs_sameT]; exact h)
theorem len_L (N : News h₀ L s.heap news) (hm : (a, listOf vs.toArray n) ∈ news) (hz : vs.length ≤ 16384) (h : Q (.int (vs.length : Int) (s.toks + 1)) { s with toks := s.toks + 1 + 1 }) :
    wpAny (model prog w) A (call (.builtin "len") [.ref a]) Q E s :=
  kun_lenL (PySem.IsL.isList (n := n) (N _ hm).1) (by rw [List.size_toArray]) (by omega) h
theorem len_T (N : News h₀ L s.heap news) (hm : (a, tupO vs) ∈ news) (hz : vs.length ≤ 16384) (h : Q (.int (vs.length : Int) (s.toks + 1)) { s with toks := s.toks + 1 + 1 }) :
    wpAny (model prog w) A (call (.builtin "len") [.ref a]) Q E s :=
  kun_lenT (N.isTup hm) (by rw [List.size_toArray]) (by omega) h
end
theorem strs_take : ∀ {vs : List Value} {ws : List Str}, StrsAre vs ws → ∀ k : Nat, StrsAre (vs.take k) (ws.take k)
  | _, _, _, 0 => .nil
  | _, _, .nil, _ + 1 => .nil
  | _, _, .cons y t h, k + 1 => .cons y t (strs_take h k)

/-! a tuple's slice up to a place -/
theorem adjust_upto (b n : Nat) : Builtin.Slice.sliceAdjust none (some (b : Int)) 1 (n : Int) = (0, ((min b n : Nat) : Int)) := by
  unfold Builtin.Slice.sliceAdjust
  have h1 : ¬ ((1 : Int) < 0) := by omega
  have h2 : ¬ ((b : Int) < 0) := by omega
  simp only [h1, h2, if_false]
  congr 1
  omega
theorem places_upto (k : Nat) : Builtin.Slice.slicePlaces 0 (k : Int) 1 = k := by
  unfold Builtin.Slice.slicePlaces
  have h1 : (1 : Int) > 0 := by omega
  simp only [h1, if_true, Int.ediv_one]
  split <;> omega
section
variable {prog : Program} {w : World} {A : Around} {E : Value → Shared → Prop} {s : Shared} {h₀ : Heap} {L : Addr} {m : Str → Option Value} {news : List (Addr × Obj)}
theorem sliceApplied_upto {sl : Addr} {b n : Nat} {u : Tok} {Q : Int × Int × Nat → Shared → Prop} (hs : s.heap.IsSliceOf sl .none (.int b u) .none) (h : Q ((0 : Int), 1, min b n) s) :
    wpAny (model prog w) A (Builtin.Slice.sliceApplied (.ref sl) (pure (n : Int))) Q E s := by
  obtain ⟨os, hos, hcs, hds⟩ := id hs
  unfold Builtin.Slice.sliceApplied Builtin.Slice.sliceFields
  refine wpAny_bind (wpAny_bind (wpAny_field hos hds (x := .none) rfl (wpAny_bind (wpAny_field hos hds (x := .int b u) rfl (wpAny_bind (wpAny_field hos hds (x := .none) rfl (wpAny_pure ?_)))))))
  refine wpAny_bind (slicePart_none ?_)
  show wpAny _ _ (if ((1 : Int) == 0) = true then _ else _) _ _ s
  rw [if_neg (by decide)]
  refine wpAny_bind (slicePart_none (wpAny_bind (slicePart_int (wpAny_bind (wpAny_pure ?_)))))
  show wpAny _ _ (match Builtin.Slice.sliceAdjust none (some (b : Int)) 1 (n : Int) with | (lo, hi) => pure (lo, (1 : Int), Builtin.Slice.slicePlaces lo hi 1)) _ _ s
  rw [adjust_upto b n]
  show wpAny _ _ (pure ((0 : Int), (1 : Int), Builtin.Slice.slicePlaces 0 ((min b n : Nat) : Int) 1)) _ _ s
  rw [places_upto]
  exact wpAny_pure h
theorem pick_upto (xs : Array Value) (b : Nat) : ((List.range b).filterMap fun (k : Nat) => xs[((0 : Int) + (k : Int) * 1).toNat]?).toArray = (xs.toList.take b).toArray := by
  have e : (fun (k : Nat) => xs[((0 : Int) + (k : Int) * 1).toNat]?) = fun k => xs[0 + k]? := by
    funext k
    have : ((0 : Int) + (k : Int) * 1).toNat = 0 + k := by omega
    rw [this]
  rw [e]
  have := pick_run xs 0 b
  rw [List.filterMap_map] at this
  have e2 : ((fun x => xs[x]?) ∘ fun x => 0 + x) = fun k => xs[0 + k]? := rfl
  rw [e2] at this
  rw [this, List.drop_zero]
theorem getItem_tuple_upto {t sl : Addr} {vs : List Value} {b : Nat} {u : Tok} {Q : Value → Shared → Prop} (ht : IsTup s.heap t vs.toArray) (hs : s.heap.IsSliceOf sl .none (.int b u) .none) (hsz : vs.length ≤ 1000000)
    (h1 : b < vs.length → Q (.ref s.heap.objs.size) { s with heap := s.heap.push (tupO (vs.take b)) }) (h2 : vs.length ≤ b → Q (.ref t) s) : wpAny (model prog w) A (getItem (.ref t) (.ref sl)) Q E s := by
  have htake : sizeOk (.seq (vs.take b).toArray) := by
    show (vs.take b).toArray.size ≤ sizeLine
    rw [List.size_toArray, List.length_take, sizeLine_eq]
    omega
  obtain ⟨os, hos, hcs, hds⟩ := id hs
  have hTs : s.TypeIs (.ref sl) "slice" := ⟨os, hos, hcs⟩
  unfold getItem
  try with_reducible refine wpAny_holding ?_
  first | refine wpAny_bind (wpAny_pure ?_) | skip
  refine wpAny_bind (wpAny_sequenceKey ht.typeIs (by decide) ?_)
  refine wpAny_bind (wpAny_callSpecial?_slot (name := Str.ofString "__getitem__") ht.typeIs slot_tuple_getitem
    (wpAny_call_entry slot_tuple_getitem ht.typeIs entry_tuple_getitem ?_ (args_tuple_getitem _ _)))
  show wpAny _ _ (Builtin.Tuple.tupleItemsOf (.ref t) >>= _) _ _ s
  refine wpAny_bind (tupleItemsOf_ ht ?_)
  refine wpAny_bind (wpAny_typeOf hTs ?_)
  rw [if_pos (by decide)]
  refine wpAny_bind (sliceApplied_upto hs ?_)
  rw [List.size_toArray]
  show wpAny _ _ (if ((0 : Int) == 0 && (1 : Int) == 1 && (min b vs.length) == vs.length) = true then _ else _) _ _ s
  by_cases hb : b < vs.length
  · have hno : ¬ (((0 : Int) == 0 && (1 : Int) == 1 && (min b vs.length) == vs.length) = true) := by
      have : (min b vs.length == vs.length) = false := by rw [beq_eq_false_iff_ne]; omega
      rw [this]; simp
    rw [if_neg hno, Nat.min_eq_left (Nat.le_of_lt hb), pick_upto]
    have h := h1 hb
    first
      | exact wpAny_bind (m := Builtin.Tuple.tupleExact _) (wpAny_newObj_type (wpAny_pure ⟨_, rfl, wpAny_pure h⟩) htake)
      | exact wpAny_bind (m := Builtin.Tuple.tupleExact _) (wpAny_newObj_type (wpAny_bind (wpAny_pure (wpAny_pure ⟨_, rfl, wpAny_pure h⟩))) htake)
      | exact wpAny_bind (wpAny_bind (m := Builtin.Tuple.tupleExact _) (wpAny_newObj_type (wpAny_pure (wpAny_pure ⟨_, rfl, wpAny_pure h⟩)) htake))
      | exact wpAny_bind (wpAny_bind (m := Builtin.Tuple.tupleExact _) (wpAny_newObj_type (wpAny_pure ⟨_, rfl, wpAny_pure h⟩) htake))
  · have hyes : (((0 : Int) == 0 && (1 : Int) == 1 && (min b vs.length) == vs.length) = true) := by
      have : (min b vs.length == vs.length) = true := by rw [beq_iff_eq]; omega
      rw [this]; simp
    rw [if_pos hyes]
    have h := h2 (by omega)
    have hx : wpAny (model prog w) A.in1 (Builtin.Tuple.tupleIsExact (.ref t)) (fun b s' => b = true ∧ Q (.ref t) s') E s :=
      wpAny_bind (wpAny_typeOf ht.typeIs (wpAny_pure ⟨by rfl, h⟩))
    refine wpAny_bind (wpAny_mono hx (fun b s' hb => ?_) fun _ _ e => e)
    obtain ⟨rfl, hq⟩ := hb
    rw [if_pos rfl]
    first
      | exact wpAny_bind (wpAny_rule (wpAny_bind (wpAny_pure (wpAny_pure ⟨_, rfl, wpAny_pure hq⟩))))
      | exact wpAny_bind (wpAny_rule (wpAny_pure ⟨_, rfl, wpAny_pure hq⟩))
      | exact wpAny_rule (wpAny_pure ⟨_, rfl, wpAny_pure hq⟩)
      | exact wpAny_rule (wpAny_bind (wpAny_pure ⟨_, rfl, wpAny_pure hq⟩))
      | exact wpAny_rule (wpAny_bind (wpAny_pure ⟨_, rfl, hq⟩))
      | exact wpAny_rule (wpAny_pure ⟨_, rfl, hq⟩)
      | exact wpAny_bind (wpAny_rule (wpAny_pure ⟨_, rfl, hq⟩))
      | exact wpAny_bind (wpAny_rule (wpAny_bind (wpAny_pure ⟨_, rfl, hq⟩)))
end
section
variable {prog : Program} {w : World} {A : Around} {E : Value → Shared → Prop} {s : Shared} {h₀ : Heap} {L : Addr} {m : Str → Option Value} {news : List (Addr × Obj)}
/-- t[:b] of a tuple: a new one, or itself -/
theorem slice_tuple_upto {value slice : PySem.Expr} {t : Addr} {vs : List Value} {b : Nat} {u : Tok} {Q : Value → Shared → Prop}
    (F : Fr h₀ L s.heap m) (N : News h₀ L s.heap news) (hm : (t, tupO vs) ∈ news) (hsz : vs.length ≤ 1000000)
    (h : ∀ D h' nx, Fr h₀ L h' m → News h₀ L h' nx → (∀ p ∈ news, p ∈ nx) → (D, tupO (vs.take b)) ∈ nx → (nx = news ∨ ∃ o, nx = (D, o) :: news ∧ ∀ p ∈ news, p.1 < D) → Q (.ref D) { s with heap := h' })
    (hs : subscripted slice false (.ref t) (.ref s.heap.objs.size) = operate [.ref s.heap.objs.size, .ref t] (getItem (.ref t) (.ref s.heap.objs.size)) := by with_unfolding_all rfl)
    :
    wpAny (model prog w) A (subscriptTail value slice (.ref t) (.ref s.heap.objs.size)) Q E { s with heap := s.heap.push { cls := .type "slice", data := .fields #[.none, .int b u, .none] } } := by
  refine kba_turn (value' := PySem.Expr.Name "x" ⟨0, 0, 0, 0⟩) (fun _ => rfl) ?_
  have ht : IsTup s.heap t vs.toArray := N.isTup hm
  have ht' : IsTup (s.heap.push { cls := .type "slice", data := .fields #[.none, .int b u, .none] }) t vs.toArray := ht.keeps fun _ _ e => Heap.get?_push_of_some _ e
  have Np := N.grown (h' := s.heap.push { cls := .type "slice", data := .fields #[.none, .int b u, .none] }) fun _ _ e => Heap.get?_push_of_some _ e
  refine subscriptTail_ops (s := { s with heap := s.heap.push { cls := .type "slice", data := .fields #[.none, .int b u, .none] } }) ht'.typeIs slot_tuple_getitem.lookup
    (getItem_tuple_upto ht' (Heap.IsSliceOf.new ..) hsz (fun hb => ?_) (fun hb => ?_)) hs (fun _ => rfl)
  · have N1 := News.push (F.push { cls := .type "slice", data := .fields #[.none, .int b u, .none] }) Np (tupO (vs.take b))
    rw [Heap.size_push] at N1
    show Q (.ref (s.heap.push _).objs.size) _
    rw [Heap.size_push]
    exact h _ _ _ ((F.push _).push _) N1 (fun p hp => .tail _ hp) (.head _) (.inr ⟨_, rfl, fun p hp => Nat.lt_succ_of_lt (Heap.lt_size (N p hp).1)⟩)
  · refine h _ _ _ (F.push _) Np (fun p hp => hp) ?_ (.inl rfl)
    rw [List.take_of_length_le hb]; exact hm
end
section
variable {prog : Program} {w : World} {A : Around} {E : Value → Shared → Prop} {s : Shared} {h₀ : Heap} {L l : Addr} {m : Str → Option Value} {news : List (Addr × Obj)} {vs us : List Value} {n n2 : Nat} {Q : Value → Shared → Prop}
theorem pick_list_upto (vs : List Value) (b : Nat) : slicePick vs.toArray none (some (b : Int)) none = (vs.take b).toArray := by
  have e : sliceBounds none (some (b : Int)) none vs.toArray.size = (((0 : Nat) : Int), ((min b vs.toArray.size : Nat) : Int), 1) := by
    simp only [sliceBounds, Option.getD_none, show (1 : Int) > 0 by decide, if_true, if_neg (show ¬ ((b : Int) < 0) by omega)]
    congr 1
    congr 1
    omega
  rw [kmk_pick_nat _ e]
  show ((vs.drop 0).take (min b vs.toArray.size - 0)).toArray = _
  rw [List.drop_zero, Nat.sub_zero, List.size_toArray, kmk_take_min]
theorem slice_list_upto {value slice : PySem.Expr} {b : Nat} {u : Tok} (F : Fr h₀ L s.heap m) (N : News h₀ L s.heap news) (hm : (l, listOf vs.toArray n) ∈ news) (hz : vs.length ≤ 1000000)
    (h : ∀ D h', Fr h₀ L h' m → News h₀ L h' ((D, listOf (vs.take b).toArray 0) :: news) → (∀ p ∈ news, p.1 < D) → Q (.ref D) { s with heap := h' })
    (hs : subscripted slice false (.ref l) (.ref s.heap.objs.size) = operate [.ref s.heap.objs.size, .ref l] (getItem (.ref l) (.ref s.heap.objs.size)) := by with_unfolding_all rfl) :
    wpAny (model prog w) A (subscriptTail value slice (.ref l) (.ref s.heap.objs.size)) Q E { s with heap := s.heap.push { cls := .type "slice", data := .fields #[.none, .int b u, .none] } } := by
  refine kba_turn (value' := PySem.Expr.Name "x" ⟨0, 0, 0, 0⟩) (fun _ => rfl) ?_
  refine kmk_slice F N (PySem.IsL.isList (n := n) (N _ hm).1) (lo := none) (hi := some (b : Int)) ?_ ?_ (fun D h' F' N' l1 => h D h' F' ?_ l1) hs (fun _ => rfl) (by rw [sizeLine_eq, List.size_toArray]; omega)
  · first | exact .none | exact rfl | constructor
  · first | exact .int _ _ | exact rfl | constructor
  · rw [pick_list_upto] at N'; exact N'
theorem list_of_tuple (F : Fr h₀ L s.heap m) (N : News h₀ L s.heap news) (hm : (l, tupO vs) ∈ news) (hz : vs.length ≤ 1000000)
    (h : ∀ D c h', Fr h₀ L h' m → News h₀ L h' ((D, listOf vs.toArray c) :: news) → (∀ q ∈ news, q.1 < D) → Q (.ref D) { s with heap := h' }) : wpAny (model prog w) A (call (.type "list") [.ref l]) Q E s :=
  kup_listOfT (n2 := 0) F N hm rfl h (by rw [sizeLine_eq]; simpa using by omega)
theorem add_L {a b : Addr} (F : Fr h₀ L s.heap m) (N : News h₀ L s.heap news) (ha : (a, listOf vs.toArray n) ∈ news) (hb : (b, listOf us.toArray n2) ∈ news) (hz : vs.length + us.length ≤ 1000000)
    (h : ∀ D h', Fr h₀ L h' m → News h₀ L h' ((D, listOf (vs ++ us).toArray 0) :: news) → (∀ p ∈ news, p.1 < D) → Q (.ref D) { s with heap := h' }) : wpAny (model prog w) A (binaryOp .Add (.ref a) (.ref b)) Q E s :=
  kmk_add_lit F N (PySem.IsL.isList (n := n) (N _ ha).1) (PySem.IsL.isList (n := n2) (N _ hb).1) (by simp) h (by rw [sizeLine_eq]; simpa using by omega)
end
end Mine
end
section
open Lean Elab Tactic Meta PySem PySem.W PySem.Calls PyProof.Rows PyProof.V PySem.Builtin
namespace Mine
set_option maxRecDepth 100000
section
variable {prog : Program} {w : World} {A : Around} {E : Value → Shared → Prop} {s : Shared} {env : Env} {h₀ : Heap} {x : Str} {body : List Stmt} {Q : Flow → Shared → Prop} {K : Type} [DecidableEq K] {knd : KeyKind prog w K}
/-- a loop over a dict's values; the dict stands as it is -/
theorem iter_valuesJ {v d : Addr} {kvs : List (K × Value)} {m₀ : Str → Option Value} {news : List (Addr × Obj)} (J : Nat → (Str → Option Value) → List (Addr × Obj) → Prop)
    (hh : A.handled = none) (hv : s.heap.IsValuesView v d) (hd : ∃ ep, s.heap.DictAt knd d kvs ep) (hL : d ≠ env.locals) (F : Fr h₀ env.locals s.heap m₀) (N : News h₀ env.locals s.heap news) (hj : J 0 m₀ news)
    (turn : ∀ i k y m₁ news₁ I own h tk, kvs[i]? = some (k, y) → J i m₁ news₁ → (∀ p ∈ own, p.1 = I ∨ p.1 = d) → (∀ p ∈ news₁, p.1 ≠ I) → (∃ o, (I, o) ∈ own ∧ o.cls = .type "dict_valueiterator") → d ≠ I →
      Fr h₀ env.locals h (fun z => if z = x then some y else m₁ z) → News h₀ env.locals h (news₁ ++ own) →
      wpAny (model prog w) A (execs body env) (TurnPost h₀ env.locals I own (J (i + 1)) { s with heap := h, toks := tk } Q) E { s with heap := h, toks := tk })
    (done : ∀ m₁ news₁ h tk, J kvs.length m₁ news₁ → Fr h₀ env.locals h m₁ → News h₀ env.locals h news₁ → Q .next { s with heap := h, toks := tk }) :
    wpAny (model prog w) A (pyIter (.ref v)) (fun it s₂ => LoopAtV prog w A h₀ env x body Q E it s₂) E s := by
  obtain ⟨ep, hd⟩ := hd
  obtain ⟨od, es, hod, hrest⟩ := id hd
  have hlt : d < s.heap.objs.size := Heap.lt_size hod
  refine wpAny_pyIter_values hv hd ?_
  have hn := next_is_new F
  have W := Walks.dictValues (knd := knd) hh s.heap.objs.size d (Nat.ne_of_lt hlt) kvs ep
  refine loopJ J W ⟨⟨_, Heap.get?_push_size _ rfl, rfl, rfl⟩, hd.at' fun o e => Heap.get?_push_of_some _ e⟩ ?_ hn ?_ (F.push _) (fun p hp => ⟨Heap.get?_push_of_some _ (N p hp).1, (N p hp).2⟩) hj ?_ ?_
  · intro hm
    rcases List.mem_cons.mp hm with e | hm
    · exact absurd F.ns.lt (e ▸ Nat.lt_irrefl _)
    · exact hL (List.mem_singleton.mp hm).symm
  · intro p hp hI; exact absurd (Heap.lt_size (N p hp).1) (hI ▸ Nat.lt_irrefl _)
  · rintro i y m₁ news₁ own h tk _ ⟨k, hP⟩ hJ hown hoff hall ⟨⟨o, ho, hoc, _⟩, hl'⟩ F₁ N₁
    exact turn i k y m₁ news₁ _ own h tk hP hJ (fun p hp => by simpa using hown p hp) hoff ⟨o, hall _ (.head _) hn o ho, hoc⟩ (Nat.ne_of_lt hlt) F₁ N₁
  · intro m₁ news₁ h tk hJ _ F₁ N₁
    exact done m₁ news₁ h tk hJ F₁ N₁
/-- a loop over a dict's keys; the dict stands as it is -/
theorem iter_keysJ {d : Addr} {kvs : List (K × Value)} {m₀ : Str → Option Value} {news : List (Addr × Obj)} (J : Nat → (Str → Option Value) → List (Addr × Obj) → Prop)
    (hh : A.handled = none) (lo : (d == sysModules) = false) (hd : ∃ ep, s.heap.DictAt knd d kvs ep) (hL : d ≠ env.locals) (F : Fr h₀ env.locals s.heap m₀) (N : News h₀ env.locals s.heap news) (hj : J 0 m₀ news)
    (turn : ∀ i k y v m₁ news₁ I own h tk, kvs[i]? = some (k, y) → knd.is k v = true → J i m₁ news₁ → (∀ p ∈ own, p.1 = I ∨ p.1 = d) → (∀ p ∈ news₁, p.1 ≠ I) → (∃ o, (I, o) ∈ own) → d ≠ I →
      Fr h₀ env.locals h (fun z => if z = x then some v else m₁ z) → News h₀ env.locals h (news₁ ++ own) →
      wpAny (model prog w) A (execs body env) (TurnPost h₀ env.locals I own (J (i + 1)) { s with heap := h, toks := tk } Q) E { s with heap := h, toks := tk })
    (done : ∀ m₁ news₁ h tk, J kvs.length m₁ news₁ → Fr h₀ env.locals h m₁ → News h₀ env.locals h news₁ → Q .next { s with heap := h, toks := tk }) :
    wpAny (model prog w) A (pyIter (.ref d)) (fun it s₂ => LoopAtV prog w A h₀ env x body Q E it s₂) E s := by
  obtain ⟨ep, hd⟩ := hd
  obtain ⟨od, es, hod, hrest⟩ := id hd
  have hlt : d < s.heap.objs.size := Heap.lt_size hod
  refine wpAny_pyIter_dict lo hd ?_
  have hn := next_is_new F
  have W := Walks.dictKeys (knd := knd) hh s.heap.objs.size d (Nat.ne_of_lt hlt) kvs ep
  refine loopJ J W ⟨⟨_, Heap.get?_push_size _ rfl, rfl, rfl⟩, hd.at' fun o e => Heap.get?_push_of_some _ e⟩ ?_ hn ?_ (F.push _) (fun p hp => ⟨Heap.get?_push_of_some _ (N p hp).1, (N p hp).2⟩) hj ?_ ?_
  · intro hm
    rcases List.mem_cons.mp hm with e | hm
    · exact absurd F.ns.lt (e ▸ Nat.lt_irrefl _)
    · exact hL (List.mem_singleton.mp hm).symm
  · intro p hp hI; exact absurd (Heap.lt_size (N p hp).1) (hI ▸ Nat.lt_irrefl _)
  · rintro i v m₁ news₁ own h tk _ ⟨k, y, hP, hk⟩ hJ hown hoff hall ⟨⟨o, ho, _⟩, hl'⟩ F₁ N₁
    exact turn i k y v m₁ news₁ _ own h tk hP hk hJ (fun p hp => by simpa using hown p hp) hoff ⟨o, hall _ (.head _) hn o ho⟩ (Nat.ne_of_lt hlt) F₁ N₁
  · intro m₁ news₁ h tk hJ _ F₁ N₁
    exact done m₁ news₁ h tk hJ F₁ N₁
end

/-! a def within a def: made anew, its code laid in the table at the first time -/
def TabSt (P : Addr) (pos : Pos) (qual : Str) (led : List (Addr × Obj)) : Prop :=
  (P, tabObj #[]) ∈ led ∨ ∃ c' oc vs t, (P, tabObj #[rawInt pos.line, rawInt pos.col, .ref c']) ∈ led ∧ (c', oc) ∈ led ∧ oc.data = .fields vs ∧ vs[1]? = some (.str qual t)
theorem tabSt_mono {P : Addr} {pos : Pos} {qual : Str} {a b : List (Addr × Obj)} (h : TabSt P pos qual a) (k : ∀ p ∈ a, p ∈ b) : TabSt P pos qual b := by
  rcases h with h | ⟨c', oc, vs, t, h1, h2, h3, h4⟩
  · exact .inl (k _ h)
  · exact .inr ⟨c', oc, vs, t, k _ h1, k _ h2, h3, h4⟩
theorem tabSt_move {P : Addr} {pos : Pos} {qual : Str} {a b : List (Addr × Obj)} (h : TabSt P pos qual a) (k : ∀ p ∈ a, (p.1 = P ∨ ∃ vs, p.2.data = .fields vs) → p ∈ b) : TabSt P pos qual b := by
  rcases h with h | ⟨c', oc, vs, t, h1, h2, h3, h4⟩
  · exact .inl (k _ h (.inl rfl))
  · exact .inr ⟨c', oc, vs, t, k _ h1 (.inl rfl), k _ h2 (.inr ⟨vs, h3⟩), h3, h4⟩
section
variable {M : Model} {A : Around} {E : Value → Shared → Prop} {s : Shared} {h₀ : Heap} {L a c P : Addr} {m mg mb : Str → Option Value} {cn : Str} {cs : Scope} {ccd : Value} {cl : List (Str × Addr)} {news : List (Addr × Obj)}
  {p : Program} {loose : List Str} {mean : ExcName → Option Value} {name qual : Str} {params : Arguments} {body : List Stmt} {scope : Scope} {pos : Pos} {firstLine : Nat} {clos : List (Str × Addr)}
theorem make_nest {Q : Value → Shared → Prop} (F : Fr h₀ L s.heap m) (N : News h₀ L s.heap news) (T : Top p loose mean mg mb h₀) (C : CodeHd h₀ c P) (hcd : ccd = .ref c) (S : TabSt P pos qual news)
    (hcl : closureFor scope (envX cn cs L a ccd cl) = pure clos)
    (h : ∀ f c' oc vs t ctv doc h' tk led, Fr h₀ L h' m → News h₀ L h' led → (f, fnMade name qual params body scope clos doc ((mg "__name__").getD .none) c' ctv) ∈ led → (c', oc) ∈ led → oc.data = .fields vs → vs[1]? = some (.str qual t) → TabSt P pos qual led →
      (∀ q ∈ news, q.1 ≠ P → q ∈ led) → (∀ q ∈ news, q.1 < f) → (∀ q ∈ led, q.1 = P ∨ q ∈ news ∨ ∀ r ∈ news, r.1 < q.1) → Q (.ref f) { s with heap := h', toks := tk }) :
    wpAny M A (makeFunction name qual params (.stmts body) scope (envX cn cs L a ccd cl) [] [] [] pos firstLine) Q E s := by
  rcases S with hP | ⟨c₁, oc₁, vs₁, t₁, hP, hc₁, hd₁, hv₁⟩
  · refine nest_K F (news_but N hP) T C hcd (UpdF.head but_off) (by first | trivial | exact .nil | decide) (by rfl) hcl fun f c' oc vs t ctv doc h' tk F' N' hd hv l1 l2 => ?_
    have l3 : ∀ q ∈ news, q.1 < c' := fun q hq => by
      by_cases e : q.1 = P
      · rw [e]; exact l1 _ (.head _)
      · exact l1 q (.tail _ (mem_but.mpr ⟨hq, e⟩))
    refine h f c' oc vs t ctv doc h' tk _ F' N' (.head _) (.tail _ (.head _)) hd hv (.inr ⟨c', oc, vs, t, .tail _ (.tail _ (.head _)), .tail _ (.head _), hd, hv⟩) (fun q hq hn => .tail _ (.tail _ (mem_put hq hn))) (fun q hq => Nat.lt_trans (l3 q hq) l2) (fun q hq => ?_)
    rcases List.mem_cons.mp hq with rfl | hq
    · exact .inr (.inr fun r hr => Nat.lt_trans (l3 r hr) l2)
    rcases List.mem_cons.mp hq with rfl | hq
    · exact .inr (.inr l3)
    rcases List.mem_cons.mp hq with rfl | hq
    · exact .inl rfl
    · exact .inr (.inl (mem_but.mp hq).1)
  · refine nestHit_K F N T C hcd hP (by first | trivial | exact ⟨rfl, rfl⟩ | simp [TriplesOk, rawInt]) (c' := c₁) (by simp [codeAmong, rawInt]) hcl fun f ctv doc h' tk F' N' l1 => ?_
    refine h f c₁ oc₁ vs₁ t₁ ctv doc h' tk _ F' N' (.head _) (.tail _ hc₁) hd₁ hv₁ (.inr ⟨c₁, oc₁, vs₁, t₁, .tail _ hP, .tail _ hc₁, hd₁, hv₁⟩) (fun q hq _ => .tail _ hq) l1 (fun q hq => ?_)
    rcases List.mem_cons.mp hq with rfl | hq
    · exact .inr (.inr l1)
    · exact .inr (.inl hq)
end

section
variable {prog : Program} {w : World} {A : Around} {s : Shared} {base h₀ : Heap} {outer : List Env} {env : Env} {L : Addr} {m : Str → Option Value} {cs : Scope} {news : List (Addr × Obj)} {K : Frag}
    {R : Result → Shared → Prop} {name qual : Str} {params : Arguments} {body : List Stmt} {scope : Scope} {cl : List (Str × Addr)} {doc pm ctv : Value} {c' f : Addr} {args : Args} {binds : List (Str × Value)} {oc : Obj} {vs : Array Value} {t : Tok}
/-- a call of a def made within a def -/
theorem enterN (C : Cx K cs outer base h₀ L s.heap m news) (hA : A.frames = some (env :: outer)) (hf : env.frame = some L) (hke : env.scope.kind = .function)
    (ho : (f, fnMade name qual params body scope cl doc pm c' ctv) ∈ news) (hoc : (c', oc) ∈ news) (hd : oc.data = .fields vs) (hv : vs[1]? = some (.str qual t)) (hroom : A.depth < recursionLimit)
    (hbind : BindsTo s (fnX name qual params body scope cl .none .none doc pm none (.ref c') ctv) args binds) (hloc : ∀ y ∈ binds, scope.names.lookup y.1 = some .local)
    (h : ∀ g L' h₁, Cx K scope (env :: outer) base g L' h₁ (fun y => binds.reverse.lookup y) news → (∀ p ∈ news, p.1 < L') →
      wpAny (model prog w) (A.deeper (envX qual scope L' f (.ref c') cl)) (execs body (envX qual scope L' f (.ref c') cl))
        (fun fl s' => LeaveC K cs env outer base h₀ g L m R (match fl with | .ret v => v | _ => .none) s')
        (fun e s' => wpAny (model prog w) (A.deeper (envX qual scope L' f (.ref c') cl)) (leaving (envX qual scope L' f (.ref c') cl) e) (fun _ s'' => R (.error e) s'') (fun e' s'' => R (.error e') s'') s')
        { s with heap := h₁, toks := s.toks + binds.length })
    (hco : scope.isCoroutine = false) (hgen : scope.isGenerator = false) (hk : scope.kind = .function)
    (hcell : ∀ x ∈ scope.names, x.2 ≠ .cell) : codeAny (model prog w) A (.call (.ref f) args) R s := by
  have C' := C
  obtain ⟨⟨A₀, B⟩, F, XB, N, ⟨p, loose, mean, mg, mb, TB⟩, D, k⟩ := C
  obtain ⟨st, FG, BG, DG⟩ := ground C' hA hf hke
  have hlim : h₀.NoLimit := TB.nolimit.keeps B.stays
  refine codeAny_call_def (fd := fnX name qual params body scope cl .none .none doc pm none (.ref c') ctv) (body := body) (binds := binds) hroom (N _ ho).1 rfl (hlim.keeps F.keep) (codeRec_news N hoc hd hv) rfl hbind hcell hloc (fun h₁ hns hk₁ => ?_) hco hgen hk
  refine wpAny_mono (h _ s.heap.objs.size h₁ ⟨⟨A, BG⟩, ⟨hns, fun b o e => hk₁ b o (of_hideAll _ e), Nat.le_of_eq (hideAll_size _ _)⟩, XB,
    (fun p hp => ⟨hk₁ _ _ (N p hp).1, Nat.ne_of_lt (Heap.lt_size (N p hp).1), hideAll_none _ (List.mem_map_of_mem hp)⟩), ⟨p, loose, mean, mg, mb, TB⟩, DG, hk⟩ (fun p hp => Heap.lt_size (N p hp).1)) (fun fl s' hl => ?_) fun _ _ y => y
  rcases hl with ⟨L', m', news', F', N', kk⟩ | ⟨g', L', m', news', T', F', N', kk⟩
  · exact kk (unground0 C' F' N')
  obtain ⟨h₀', T₁, C₁⟩ := unground C' hf T' F' N'
  exact kk h₀' T₁ C₁
end

theorem callWith_FKW {M : Model} {A : Around} {E : Value → Shared → Prop} {s : Shared} {env : Env} {pos : Pos} {q : Addr} {first : List Value} {Q : Value → Shared → Prop} {e : PySem.Expr} {rest : List PySem.Expr} {kws : List Keyword} (_X : FnAt q s.heap) (hall : (backToKw pos (keywordEach kws env)).all (·.1.isSome) = true)
    (h : wpAny M A (spliced (backTo pos (starEach (e :: rest) env))) (fun vs s₁ => wpAny M A (evalAll ((backToKw pos (keywordEach kws env)).map (·.2)))
      (fun ks s₂ => FnAt q s₂.heap ∧ wpAny M A (call (.ref q) (first ++ vs) (((backToKw pos (keywordEach kws env)).filterMap (·.1)).zip ks)) Q E s₂) E s₁) E s)
    (hplain : ((backTo pos (starEach (e :: rest) env)).any (·.1) || (backToKw pos (keywordEach kws env)).any (·.1.isNone)) = false := by rfl) (he : starEach (e :: rest) env = (false, eval e env) :: starEach rest env := by rfl) :
    wpAny M A (callWith pos (.ref q) first (backTo pos (starEach (e :: rest) env)) (backToKw pos (keywordEach kws env))) Q E s :=
  callWith_of hplain keeps_F (evalArgs_kw2 hall h he)

section
variable {prog : Program} {w : World} {A : Around} {E : Value → Shared → Prop} {s : Shared} {h₀ : Heap} {L d : Addr} {m : Str → Option Value} {news : List (Addr × Obj)} {o : Obj} {K : Type} [DecidableEq K] {knd : KeyKind prog w K} {kvs : List (K × Value)}
theorem values_method {pl : Sem Bool} {Q : Value × List Value → Shared → Prop} (N : News h₀ L s.heap news) (hp : (d, o) ∈ news) (hd : o.IsDictOf knd kvs) (h : Q (.builtin "dict.values", [.ref d]) s) : wpAny (model prog w) A (getMethod (.ref d) "values" pl) Q E s := by
  have hD := kda_dict N hp hd
  exact getMethod_builtin hD.typeIs PySem.F.plainAttrs_dict PySem.F.slot_dict_values PySem.F.type_dict_values hD.mapOf.noDict h
theorem values_call {Q : Value → Shared → Prop} (F : Fr h₀ L s.heap m) (N : News h₀ L s.heap news) (hp : (d, o) ∈ news) (hd : o.IsDictOf knd kvs) (lo : (d == sysModules) = false)
    (h : ∀ v h', Fr h₀ L h' m → News h₀ L h' ((v, { cls := .type "dict_values", data := .fields #[.ref d] }) :: news) → (∀ p ∈ news, p.1 < v) → Q (.ref v) { s with heap := h' }) : wpAny (model prog w) A (call (.builtin "dict.values") [.ref d]) Q E s := by
  have hD := kda_dict N hp hd
  refine call_meetsIn PySem.F.slot_dict_values hD.typeIs PySem.F.entry_dict_values (PySem.F.args_dict_values_1 _) (meets_dict_values knd d lo) ⟨⟨kvs, hD⟩, ?_⟩
  exact h _ _ (F.push _) (News.push F N _) fun p hp => Heap.lt_size (N p hp).1
end
abbrev itObj (l : Addr) : Obj := { cls := .type "list_iterator", data := .fields #[.ref l, .int 0 0] }
section
variable {prog : Program} {w : World} {A : Around} {E : Value → Shared → Prop} {s : Shared} {h₀ : Heap} {L l : Addr} {m : Str → Option Value} {news : List (Addr × Obj)} {vs : List Value} {n : Nat} {Q : Value → Shared → Prop}
theorem iter_L (F : Fr h₀ L s.heap m) (N : News h₀ L s.heap news) (hm : (l, listOf vs.toArray n) ∈ news)
    (h : ∀ I h', Fr h₀ L h' m → News h₀ L h' ((I, itObj l) :: news) → (∀ p ∈ news, p.1 < I) → Q (.ref I) { s with heap := h' }) : wpAny (model prog w) A (call (.builtin "iter") [.ref l]) Q E s := by
  refine call_function_entry (by decide +kernel) (by decide +kernel) kdk_entry_iter (kdk_args_iter _) ?_
  unfold Builtin.«iter»
  refine wpAny_bind (m := someArgs "iter" 1 2 _) (wpAny_of_eq (a := [Value.ref l]) (by first | rfl | kernel_rfl!) ?_)
  show wpAny _ _ (pyIter (.ref l) >>= _) _ _ _
  refine wpAny_bind (wpAny_pyIter_list (PySem.IsL.isList (n := n) (N _ hm).1) ?_)
  exact wpAny_pure ⟨_, rfl, h _ _ (F.push _) (News.push F N _ rfl) (fun q hq => Heap.lt_size (N q hq).1)⟩
end
end Mine
end
section
open Lean Elab Tactic Meta PySem PySem.W PySem.Calls PyProof.Rows PyProof.V PySem.Builtin
namespace Mine
set_option maxRecDepth 100000

/-! pairs: what a walk tells -/
def PairIn (news : List (Addr × Obj)) (v : Value) (xy : Str × Str) : Prop := ∃ a t u, v = .ref a ∧ (a, pairObj xy.1 t xy.2 u) ∈ news
inductive PairsIn (news : List (Addr × Obj)) : List Value → List (Str × Str) → Prop
  | nil : PairsIn news [] []
  | cons {v : Value} {r : Str × Str} {vs : List Value} {rs : List (Str × Str)} : PairIn news v r → PairsIn news vs rs → PairsIn news (v :: vs) (r :: rs)
theorem pairs_mono {a b : List (Addr × Obj)} (k : ∀ p ∈ a, p ∈ b) : ∀ {vs : List Value} {rows : List (Str × Str)}, PairsIn a vs rows → PairsIn b vs rows
  | _, _, .nil => .nil
  | _, _, .cons ⟨x, t, u, e, h⟩ r => .cons ⟨x, t, u, e, k _ h⟩ (pairs_mono k r)
theorem pairs_len {a : List (Addr × Obj)} : ∀ {vs : List Value} {rows : List (Str × Str)}, PairsIn a vs rows → vs.length = rows.length
  | _, _, .nil => rfl
  | _, _, .cons _ r => congrArg (· + 1) (pairs_len r)
theorem pairs_app {a : List (Addr × Obj)} : ∀ {vs us : List Value} {rows rs : List (Str × Str)}, PairsIn a vs rows → PairsIn a us rs → PairsIn a (vs ++ us) (rows ++ rs)
  | _, _, _, _, .nil, h => h
  | _, _, _, _, .cons h r, k => .cons h (pairs_app r k)
theorem pairs_at {a : List (Addr × Obj)} : ∀ {vs : List Value} {rows : List (Str × Str)}, PairsIn a vs rows → ∀ {i : Nat} {r : Str × Str}, rows[i]? = some r → ∃ v, vs[i]? = some v ∧ PairIn a v r
  | _, _, .nil, _, _, h => by simp at h
  | _, _, .cons (v := v) h _, 0, _, e => ⟨v, rfl, by have e' := Option.some.inj e; rw [← e']; exact h⟩
  | _, _, .cons _ h, i + 1, _, e => by simpa using pairs_at h (i := i) (by simpa using e)
theorem pairs_but {h₀ h : Heap} {L I : Addr} {o : Obj} {led all : List (Addr × Obj)} (N : News h₀ L h all) (hs : ∀ p ∈ led, p ∈ all) (hI : (I, o) ∈ all) (hc : o.cls ≠ .type "tuple") : ∀ {vs : List Value} {rows : List (Str × Str)}, PairsIn led vs rows → PairsIn (but I led) vs rows
  | _, _, .nil => .nil
  | _, _, .cons ⟨x, t, u, e, h⟩ r => .cons ⟨x, t, u, e, mem_but.mpr ⟨h, fun (q : x = I) => by
      have h1 := (N _ (hs _ h)).1
      have h2 := (N _ hI).1
      dsimp only at h1 h2
      rw [q, h2] at h1
      cases h1
      exact hc rfl⟩⟩ (pairs_but N hs hI hc r)

/-! the end of the law: generators may be left, but bare ones -/
theorem oldK_ghost {h₁ h' : Heap} {tabs : List (Addr × Addr)} (hT : TabsAt tabs h₁) (k : ∀ b o, (ghostOf h₁ tabs).get? b = some o → h'.get? b = some o) (g : GrownAll tabs h') : OldK h₁ h' := by
  have keep : ∀ b o, b ∉ tabs.map (·.2) → h₁.get? b = some o → h'.get? b = some o := fun b o hb e => k b o (ghost_ne e hb)
  have grown : ∀ b o, b ∈ tabs.map (·.2) → h₁.get? b = some o → isCodeTable h₁ b ∧ o = tabObj #[] ∧ ∃ ps, h'.get? b = some (tabObj ps) := fun b o hb e => by
    obtain ⟨q, hq, rfl⟩ := List.mem_map.mp hb
    have e2 := (hT q hq).2
    rw [e] at e2
    exact ⟨((hT q hq).1.tab (hT q hq).2).isCodeTable, Option.some.inj e2, g.get q hq⟩
  refine ⟨fun b o e => ?_, fun b o e => ?_⟩
  · by_cases hb : b ∈ tabs.map (·.2)
    · obtain ⟨ht, rfl, ps, hP⟩ := grown b o hb e
      exact .inr (.inl ⟨ht, rfl, #[], ps, rfl, by rw [Array.empty_append]; exact hP⟩)
    · exact .inl (keep b o hb e)
  · by_cases hb : b ∈ tabs.map (·.2)
    · obtain ⟨_, _, ps, hP⟩ := grown b o hb e
      exact ⟨_, hP⟩
    · exact ⟨o, keep b o hb e⟩
/-- the law gives True back, all older stands, generators are bare -/
def EndB (s₁ : Shared) (r : Result) (s' : Shared) : Prop :=
  (∃ b, r = .ok (.ret (.bool b)) ∧ b = true) ∧ (∀ b o, s₁.heap.get? b = some o → s'.heap.get? b = some o) ∧ s'.os = s₁.os ∧ AllBare s'.gens
theorem kn_postG {M : Model} {A : Around} {cd : Code} {s s₁ : Shared} {cw : ClaimW} {cl : Str → Option Addr} {mean : ExcName → Option Value} {args : List WData} {tabs : List (Addr × Addr)} (hT : TabsAt tabs s₁.heap) (hr : ∀ a x, cw.raises a x = false) (hp : cw.post args (.bool true) args = true)
    (h : codeAny M A cd (fun r s' => EndB { s₁ with heap := ghostOf s₁.heap tabs } r s' ∧ GrownAll tabs s'.heap) s) : codeAny M A cd (GoodWG cw cl mean args s₁) s :=
  codeAny_mono h fun r s' ⟨⟨⟨b, hb, hbt⟩, hk, hos, hg⟩, hgr⟩ => by
    subst hb hbt
    refine ⟨.inl ⟨.bool true, .bool true, [], rfl, fun cls => hr _ _, .bool _, hp, fun _ => ⟨List.nodup_nil, fun a ha => nomatch ha⟩⟩, oldK_ghost hT hk hgr, hos, hg⟩

/-! a generator over the pairs of a list -/
structure GenStrs (prog : Program) (w : World) (A : Around) (a C it : Addr) (g : Nat) (xs : List Str) (s : Shared) : Prop where
  walks : ∃ n St P, n = xs.length ∧ (∀ j y, P j y → ∃ x t, xs[j]? = some x ∧ y = .str x t) ∧ WalksS prog w A a (a :: C :: List.range C) (C :: [it]) (GenOnlyQ g) n P St ∧ St 0 s ∧ (∀ i s', St i s' → s'.TypeIs (.ref a) "generator")
  lt : C < a
  top : a < s.heap.objs.size
theorem passing_all (n : Nat) : passing (fun _ => true) n 0 = List.range n := by unfold passing; simp
section
variable {prog : Program} {w : World} {A : Around} {E : Value → Shared → Prop} {s : Shared} {h₀ : Heap} {L c P it l : Addr} {m mg mb : Str → Option Value} {led : List (Addr × Obj)} {vs : List Value} {n : Nat} {env : Env}
  {p : Program} {loose : List Str} {mean : ExcName → Option Value} {pos : Pos} {qual : Str} {scope : Scope} {xa xb xe : Str} {pa pb pt pe : Pos} {kt : Nat} {iter : PySem.Expr} {rows : List (Str × Str)} {Q : Value → Shared → Prop}
theorem gen_pairs (A₁ : Around) (hA₁ : A₁.handled = none) (hd₁ : A₁.depth < recursionLimit) (sel : Str × Str → Str) (hsel : (xe = xa ∧ sel = Prod.fst) ∨ (xe = xb ∧ sel = Prod.snd)) (_hA : A.handled = none)
    (F : Fr h₀ L s.heap m) (N : News h₀ L s.heap led) (T : Top p loose mean mg mb h₀) (CH : CodeHd h₀ c P) (hcode : env.code = .ref c) (hgl : env.globals = mainGlobals) (hP : (P, tabObj #[]) ∈ led) (hit : (it, itObj l) ∈ led) (hl : (l, listOf vs.toArray n) ∈ led) (hp : PairsIn led vs rows)
    (hxa : scope.names.lookup xa = some .local) (hxb : scope.names.lookup xb = some .local) (hab : xa ≠ xb) (hde : (xe == ("__debug__" : Str)) = false) (hkind : scope.kind = .function) (hco : scope.isCoroutine = false)
    (hQ : ∀ a C g h' tk gs ps', gs.bare = true → Fr h₀ L h' m → News h₀ L h' ((P, tabObj ps') :: but P led) → L < C → (∀ q ∈ led, q.1 < C) → GenStrs prog w A₁ a C it g (rows.map sel) { s with gens := s.gens.push gs, heap := h', toks := tk } → Q (.ref a) { s with gens := s.gens.push gs, heap := h', toks := tk }) :
    wpAny (model prog w) A (pyIter (.ref it)) (fun it' s₂ => s₂.heap.NoLimit ∧ wpAny (model prog w) A (genexprCode env pos qual scope) (fun code s₃ => wpAny (model prog w) A (builtinsFor env.globals env.builtins) (fun bi s₄ =>
      ∀ h', h'.Ns s₄.heap.objs.size (fun y => if y = ".0" then some it' else none) → Heap.SameBut s₄.heap.objs.size (s₄.heap.push { cls := .type "frame", data := .dict #[] }) h' →
        Q (.ref h'.objs.size) { s₄ with
            gens := s₄.gens.push (.fresh (.compStart (.GeneratorExp (.Name xe pe) [⟨.Tuple [.Name xa pa, .Name xb pb] kt pt, iter, [], 0⟩] scope pos) 0 it' .none (genEnv scope [] s₄.heap.objs.size code bi env))),
            toks := s₄.toks + 1 + 1 + 1,
            heap := h'.push { cls := .type "generator", data := .fields #[.int s₄.gens.size 0, .str "<genexpr>" (s₄.toks + 1), .str (env.qual ++ "<genexpr>") (s₄.toks + 1 + 1)] } }) E s₃) E s₂) E s := by
  have hItS : s.heap.IsListIter it l 0 := ⟨_, (N _ hit).1, rfl, rfl⟩
  have hPs := (N _ hP).1
  have hPn := (N _ hP).2.2
  dsimp only at hPs hPn
  refine wpAny_pyIter_listiter hItS ⟨T.nolimit.keeps F.keep, ?_⟩
  have CHs := CH.keeps F.keep
  refine wpAny_genexprCodeX hcode (CHs.code hPs trivial) (CHs.tab hPs) rfl fun c' h₃ tk₃ hx₃ hge hlt hcode₃ _ htab₃ _ => ?_
  have keep₃ : ∀ b o, h₀.get? b = some o → h₃.get? b = some o := fun b o e => hx₃ b o (fun q => by rw [q, hPn] at e; cases e) (F.keep b o e)
  have hsz : s.heap.objs.size ≤ h₃.objs.size := Nat.le_trans hge (Nat.le_of_lt hlt)
  have F₃ : Fr h₀ L h₃ m := ⟨F.ns.at' fun o e => hx₃ L o (fun q => (N _ hP).2.1 q.symm) e, keep₃, F.above⟩
  have N₃ : News h₀ L h₃ ((P, tabObj (#[] ++ #[rawInt pos.line, rawInt pos.col, .ref c'])) :: but P led) := fun q hq => by
    rcases List.mem_cons.mp hq with rfl | hq
    · exact ⟨htab₃.2, (N _ hP).2⟩
    · obtain ⟨h1, h2⟩ := mem_but.mp hq
      exact ⟨hx₃ _ _ h2 (N _ h1).1, (N _ h1).2⟩
  obtain ⟨bm, ob, M⟩ := bmod_of_top (T.keeps keep₃)
  refine wpAny_builtinsFor (hgl ▸ M.ns) M.name M.ne M.obj M.cls M.dict M.data ?_
  intro h' hn' hs'
  dsimp only at *
  have hsz' : h'.objs.size = h₃.objs.size + 1 := by rw [hs'.1, Heap.size_push]
  have keep' : ∀ b o, h₃.get? b = some o → h'.get? b = some o := fun b o e => hs'.extBut b o (Nat.ne_of_lt (Heap.lt_size e)) (Heap.get?_push_of_some _ e)
  generalize hgo : ({ cls := .type "generator", data := .fields #[.int s.gens.size 0, .str "<genexpr>" (tk₃ + 1), .str (env.qual ++ "<genexpr>") (tk₃ + 1 + 1)] } : Obj) = go
  have keep₅ : ∀ b o, h₃.get? b = some o → (h'.push go).get? b = some o := fun b o e => Heap.get?_push_of_some _ (keep' b o e)
  have F₅ : Fr h₀ L (h'.push go) m := F₃.keeps keep₅
  have N₅ := News.grown N₃ keep₅
  have ltC : ∀ q ∈ led, q.1 < h₃.objs.size := fun q hq => Nat.lt_of_lt_of_le (Heap.lt_size (N q hq).1) hsz
  have hPit : it ≠ P := fun q => by
    have h1 := (N _ hit).1
    dsimp only at h1
    rw [q, hPs] at h1; cases h1
  have hPl : l ≠ P := fun q => by
    have h1 := (N _ hl).1
    dsimp only at h1
    rw [q, hPs] at h1; cases h1
  have hitl : l ≠ it := fun q => by
    have h1 := (N _ hl).1
    have h2 := (N _ hit).1
    dsimp only at h1 h2
    rw [q, h2] at h1
    have := congrArg Obj.cls (Option.some.inj h1)
    injection this with this; exact absurd this (by decide)
  have hpair : ∀ {x : Addr} {o : Obj}, (x, o) ∈ led → o.cls = .type "tuple" → x ≠ P ∧ x ≠ it := fun {x o} hx hc => by
    have h1 := (N _ hx).1
    have h2 := (N _ hit).1
    dsimp only at h1 h2
    refine ⟨fun q => ?_, fun q => ?_⟩
    · rw [q, hPs] at h1; cases h1; cases hc
    · rw [q, h2] at h1; cases h1; injection hc with hc; exact absurd hc (by decide)
  have hlen := pairs_len hp
  have hcs : cStatics < h₃.objs.size := let ⟨_, hns, _⟩ := T.nolimit.keeps keep₃; hns.lt
  have hcit : cStatics ≠ it := fun q => by
    obtain ⟨_, ⟨o, _, _, ho, _⟩, _⟩ := T.nolimit
    rw [q, (N _ hit).2.2] at ho; cases ho
  have hnl : (h'.push go).NoLimit := T.nolimit.keeps F₅.keep
  have tup : ∀ (k : Nat) (r : Str × Str), rows[k]? = some r → ∃ (x : Addr) (t u : Tok), vs[k]? = some (.ref x) ∧ x ≠ P ∧ x ≠ it ∧ x < h₃.objs.size ∧ (h'.push go).get? x = some (pairObj r.1 t r.2 u) := fun k r hr => by
    obtain ⟨v, hv, x, t, u, rfl, hx⟩ := pairs_at hp hr
    obtain ⟨h1, h2⟩ := hpair hx rfl
    exact ⟨x, t, u, hv, h1, h2, ltC _ hx, keep₅ _ _ (hx₃ _ _ h1 (N _ hx).1)⟩
  let Ts : Nat → Addr := fun k => match vs[k]? with | some (.ref x) => x | _ => 0
  let vals : Nat → Array Value := fun k => match (h'.push go).get? (Ts k) with | some ⟨_, _, .seq ws _, _⟩ => ws | _ => #[]
  have hat : ∀ k, k < vs.toArray.size → ∃ (r : Str × Str) (x : Addr) (t u : Tok), rows[k]? = some r ∧ vs[k]? = some (.ref x) ∧ Ts k = x ∧ x ≠ it ∧ x < h₃.objs.size ∧ (h'.push go).get? x = some (pairObj r.1 t r.2 u) ∧ vals k = #[.str r.1 t, .str r.2 u] := fun k hk => by
    have hk' : k < rows.length := by rw [← hlen]; simpa using hk
    obtain ⟨x, t, u, h1, h2, h3, h4, h5⟩ := tup k rows[k] (by simp [hk'])
    have e : Ts k = x := by show (match vs[k]? with | some (.ref x) => x | _ => 0) = x; rw [h1]
    refine ⟨_, x, t, u, by simp [hk'], h1, e, h3, h4, h5, ?_⟩
    show (match (h'.push go).get? (Ts k) with | some ⟨_, _, .seq ws _, _⟩ => ws | _ => #[]) = _
    rw [e, h5]; rfl
  have hIL : (h'.push go).IsListIter it l 0 := ⟨_, keep₅ _ _ (hx₃ _ _ hPit (N _ hit).1), rfl, rfl⟩
  have hLL : (h'.push go).IsList l vs.toArray := PySem.IsL.isList (n := n) (keep₅ _ _ (hx₃ _ _ hPl (N _ hl).1))
  have W₀ : ∀ A' : Around, A'.handled = none → WalksU prog w A' it (List.range h₃.objs.size) [it] vs.toArray.size (fun i v => i < vs.toArray.size ∧ v = vals i)
      (fun j h => h.IsListIter it l j ∧ h.IsList l vs.toArray ∧ ∀ k, k < vs.toArray.size → h.IsTuple (Ts k) (vals k))
      (fun j T h => (j < vs.toArray.size ∧ T = Ts j) ∧ h.IsListIter it l (j + 1) ∧ h.IsList l vs.toArray ∧ ∀ k, k < vs.toArray.size → h.IsTuple (Ts k) (vals k)) := fun A' hA' => by
    refine ((WalksU.listOfTuples hA' it l hitl vs.toArray Ts vals (fun j hj => ?_) (fun j hj => ?_)).bound).mono_fp fun b hb => ?_
    · obtain ⟨r, x, t, u, _, h1, h2, _⟩ := hat j hj
      rw [h2]; simpa using h1
    · obtain ⟨r, x, t, u, _, h1, h2, h3, _⟩ := hat j hj
      rw [h2]; exact h3
    · rw [List.mem_range]
      rcases List.mem_cons.mp hb with rfl | hb
      · exact ltC _ hit
      rcases List.mem_cons.mp hb with rfl | hb
      · exact ltC _ hl
      · obtain ⟨k, hk, rfl⟩ := List.mem_map.mp hb
        obtain ⟨r, x, t, u, _, h1, h2, _, h4, _⟩ := hat k (List.mem_range.mp hk)
        rw [h2]; exact h4
  have hitC : it < h₃.objs.size := ltC _ hit
  have Wk := WalksS.genexpQ (prog := prog) (w := w) (A := A₁) hA₁ h'.objs.size s.gens.size h₃.objs.size (List.range h₃.objs.size) [it] (fun _ => true) vs.toArray.size (fun i y => ∃ x t, (rows.map sel)[i]? = some x ∧ y = .str x t)
    (by rw [hsz']; exact Nat.succ_ne_self _) (fun hm => by have := List.mem_range.mp hm; omega) (fun b hb => by rw [List.mem_singleton.mp hb]; exact List.mem_range.mpr hitC) hd₁ (List.mem_range.mpr hcs) (Nat.ne_of_lt hcs) (fun hm => hcit (List.mem_singleton.mp hm))
  rw [passing_all, List.length_range] at Wk
  refine hQ h'.objs.size h₃.objs.size s.gens.size _ _ _ _ rfl F₅ N₅ (Nat.lt_of_lt_of_le F.ns.lt hsz) ltC ⟨⟨_, _, _, ?_, ?_, Wk, ?_, fun i s' st => st.1.typeIs⟩, by rw [hsz']; exact Nat.lt_succ_self _, by rw [Heap.size_push]; exact Nat.lt_succ_self _⟩
  · rw [List.size_toArray, List.length_map, hlen]
  · rintro j y ⟨i, hi, hF⟩
    have e : i = j := by
      by_cases hj : j < vs.toArray.size
      · rw [List.getElem?_range hj] at hi; exact (Option.some.inj hi).symm
      · rw [List.getElem?_eq_none (by rw [List.length_range]; omega)] at hi; cases hi
    rw [← e]; exact hF
  · refine GenAt.freshT (A := A₁) (cenv := genEnv scope [] h₃.objs.size (.ref c') builtinsNs env) (m := fun y => if y = ".0" then some (.ref it) else none) hA₁ W₀ ?_ hab (fun _ => true) _ hxa hxb (by simp [genEnv, hkind]) hco
      (fun hm => Nat.lt_irrefl _ (List.mem_range.mp hm)) ?_ ⟨_, _, _, Heap.get?_push_size _ (by rw [← hgo]; rfl), by rw [← hgo], by rw [← hgo], by rw [← hgo]⟩ (Array.getElem?_push_size ..) ⟨hIL, hLL, fun k hk => ?_⟩ (hn'.push _) hnl
    · rintro i vals' ⟨hi, rfl⟩
      obtain ⟨r, x, t, u, _, _, _, _, _, _, h6⟩ := hat i hi
      exact ⟨_, _, h6⟩
    · constructor
      · intro A' E' i va vb s₂ m₂ hA' hv hns h1 h2 h3
        exact wpAny_pure ⟨rfl, s₂.heap, s₂.toks, rfl, fun _ _ e => e⟩
      · rintro A' E' i va vb s₂ m₂ hA' ⟨hi, hv⟩ - hns h1 h2 h3
        obtain ⟨r, x, t, u, hr, _, _, _, _, _, h6⟩ := hat i hi
        rw [h6] at hv
        have e1 : va = .str r.1 t := by have := congrArg (·[0]?) hv; simpa using this
        have e2 : vb = .str r.2 u := by have := congrArg (·[1]?) hv; simpa using this
        rcases hsel with ⟨rfl, rfl⟩ | ⟨rfl, rfl⟩
        · refine wpAny_Name (wpAny_loadName_local hkind hxa hns h1 ⟨⟨r.1, t, by rw [List.getElem?_map, hr]; rfl, e1⟩, s₂.heap, s₂.toks, rfl, fun _ _ e => e⟩) hde
        · refine wpAny_Name (wpAny_loadName_local hkind hxb hns h2 ⟨⟨r.2, u, by rw [List.getElem?_map, hr]; rfl, e2⟩, s₂.heap, s₂.toks, rfl, fun _ _ e => e⟩) hde
    · obtain ⟨r, x, t, u, _, _, h2, _, _, h5, h6⟩ := hat k hk
      rw [h2, h6]
      exact ⟨_, h5, rfl, _, rfl⟩
end
def GenPairsPost (prog : Program) (w : World) (A₁ : Around) (h₀ : Heap) (L P : Addr) (m : Str → Option Value) (sel : Str × Str → Str) (Q : Value → Shared → Prop) (xv : Value) (s : Shared) : Prop :=
  ∃ (it l : Addr) (vs : List Value) (n : Nat) (led : List (Addr × Obj)) (rows : List (Str × Str)), xv = .ref it ∧ Fr h₀ L s.heap m ∧ News h₀ L s.heap led ∧ (P, tabObj #[]) ∈ led ∧ (it, itObj l) ∈ led ∧ (l, listOf vs.toArray n) ∈ led ∧ PairsIn led vs rows ∧
    ∀ a C g h' tk gs ps', gs.bare = true → Fr h₀ L h' m → News h₀ L h' ((P, tabObj ps') :: but P led) → L < C → (∀ q ∈ led, q.1 < C) → GenStrs prog w A₁ a C it g (rows.map sel) { s with gens := s.gens.push gs, heap := h', toks := tk } → Q (.ref a) { s with gens := s.gens.push gs, heap := h', toks := tk }
theorem genexp_pairs {prog : Program} {w : World} {A : Around} {E : Value → Shared → Prop} {s : Shared} {h₀ : Heap} {L c P : Addr} {m mg mb : Str → Option Value} {env : Env}
  {p : Program} {loose : List Str} {mean : ExcName → Option Value} {pos : Pos} {scope : Scope} {xa xb xe : Str} {pa pb pt pe : Pos} {kt : Nat} {iter : PySem.Expr} {Q : Value → Shared → Prop}
    (A₁ : Around) (hA₁ : A₁.handled = none) (hd₁ : A₁.depth < recursionLimit) (sel : Str × Str → Str) (hsel : (xe = xa ∧ sel = Prod.fst) ∨ (xe = xb ∧ sel = Prod.snd)) (hA : A.handled = none) (hroom : A.depth < recursionLimit)
    (_F : Fr h₀ L s.heap m) (T : Top p loose mean mg mb h₀) (CH : CodeHd h₀ c P) (hcode : env.code = .ref c) (hgl : env.globals = mainGlobals)
    (hxa : scope.names.lookup xa = some .local) (hxb : scope.names.lookup xb = some .local) (hab : xa ≠ xb) (hde : (xe == ("__debug__" : Str)) = false) (hkind : scope.kind = .function) (hco : scope.isCoroutine = false)
    (hclos : closureFor scope env = pure []) (hcell : ∀ y ∈ scope.names, y.2 ≠ .cell) (h0 : scope.names.lookup (".0" : Str) = some NameKind.local) (hs : ∀ x, genFold iter env x = pure x)
    (h : wpAny (model prog w) A (eval iter env) (GenPairsPost prog w A₁ h₀ L P m sel Q) E s) :
    wpAny (model prog w) A (eval (.GeneratorExp (.Name xe pe) [⟨.Tuple [.Name xa pa, .Name xb pb] kt pt, iter, [], 0⟩] scope pos) env) Q E s := by
  refine wpAny_GeneratorExp_make (cl := []) hco hclos hcell h0 hkind hroom (wpAny_mono h (fun xv s₁ hx => ?_) fun _ _ e => e) hs
  obtain ⟨it, l, vs, n, led, rows, rfl, F, N, hP, hit, hl, hp, hQ⟩ := hx
  exact gen_pairs A₁ hA₁ hd₁ sel hsel hA F N T CH hcode hgl hP hit hl hp hxa hxb hab hde hkind hco hQ
section
variable {prog : Program} {w : World} {A : Around} {E : Value → Shared → Prop} {s : Shared} {h₀ : Heap} {L a C it : Addr} {g : Nat} {m : Str → Option Value} {led : List (Addr × Obj)} {xs : List Str} {Q : Value → Shared → Prop}
/-- list(gen) -/
theorem list_gen (G : GenStrs prog w A.in1.in1 a C it g xs s) (F : Fr h₀ L s.heap m) (N : News h₀ L s.heap led) (hit : it ≠ L ∧ h₀.get? it = none) (hC : L < C ∧ ∀ q ∈ led, q.1 ≠ it → q.1 < C) (hz : xs.length ≤ 100000) (hb : AllBare s.gens)
    (hQ : ∀ l vs n h' tk gs, Fr h₀ L h' m → News h₀ L h' ((l, listOf vs.toArray n) :: but it led) → (∀ q ∈ led, q.1 < l) → StrsAre vs xs → AllBare gs → Q (.ref l) { s with gens := gs, heap := h', toks := tk }) :
    wpAny (model prog w) A (call (.type "list") [.ref a]) Q E s := by
  obtain ⟨⟨n, St, P, hn, hP, W, hst, hT⟩, hlt, htop⟩ := G
  refine call_list_gen W hT hst (fun b hb => ?_) (.head _) (fun s' acc' c' hm hS hI => ?_) (by rw [sizeLine_eq]; omega)
  · rcases List.mem_cons.mp hb with rfl | hb
    · exact htop
    rcases List.mem_cons.mp hb with rfl | hb
    · exact Nat.lt_trans hlt htop
    · exact Nat.lt_trans (Nat.lt_trans (List.mem_range.mp hb) hlt) htop
  obtain ⟨mh, mg, md, mo, mt⟩ := hm
  have hLs : L < s.heap.objs.size := F.ns.lt
  have hCs : C < s.heap.objs.size := Nat.lt_trans hlt htop
  have key : ∀ b o, b ≠ C → b ≠ it → s.heap.get? b = some o → s'.heap.get? b = some o := fun b o h1 h2 e => by
    refine mh b o (fun hb => ?_) (Heap.get?_push_of_some _ e)
    rcases List.mem_cons.mp hb with rfl | hb
    · exact absurd (Heap.lt_size e) (Nat.lt_irrefl _)
    rcases List.mem_cons.mp hb with rfl | hb
    · exact h1 rfl
    · exact h2 (List.mem_singleton.mp hb)
  have hbC : ∀ b o, h₀.get? b = some o → b ≠ C := fun b o e => Nat.ne_of_lt (Nat.lt_trans (Nat.lt_of_lt_of_le (Heap.lt_size e) F.above) hC.1)
  have F' : Fr h₀ L s'.heap m := ⟨F.ns.at' fun o e => key L o (Nat.ne_of_lt hC.1) hit.1.symm e, fun b o e => key b o (hbC b o e) (fun q => by rw [q, hit.2] at e; cases e) (F.keep b o e), F.above⟩
  have hacc : StrsAre acc'.toList xs := by
    obtain ⟨h1, h2⟩ := hI
    have : ∀ (us : List Value) (ys : List Str), us.length = ys.length → (∀ (j : Nat) (v : Value), us[j]? = some v → ∃ x t, ys[j]? = some x ∧ v = Value.str x t) → StrsAre us ys := by
      intro us
      induction us with
      | nil =>
        intro ys hl _
        cases ys with
        | nil => exact .nil
        | cons _ _ => cases hl
      | cons u us ih =>
        intro ys hl hh
        cases ys with
        | nil => cases hl
        | cons y ys =>
          obtain ⟨x, t, hx, rfl⟩ := hh 0 u rfl
          cases hx
          exact .cons _ t (ih ys (by simpa using hl) fun j v hv => by simpa using hh (j + 1) v (by simpa using hv))
    refine this _ _ (by rw [Array.length_toList, h1, hn]) fun j v hv => hP j v (h2 j v (by simpa using hv))
  have e : s' = { s with gens := s'.gens, heap := s'.heap, toks := s'.toks } := by
    cases s'; dsimp only at md mo ⊢; rw [md, mo]
  rw [e]
  refine hQ _ acc'.toList c' _ _ _ F' (fun q hq => ?_) (fun q hq => Heap.lt_size (N q hq).1) hacc (GenOnlyQ.bare mg hb)
  rcases List.mem_cons.mp hq with rfl | hq
  · refine ⟨hS, Nat.ne_of_gt hLs, ?_⟩
    cases z : h₀.get? s.heap.objs.size with
    | none => rfl
    | some o => exact absurd (Nat.lt_of_lt_of_le (Heap.lt_size z) (Nat.le_trans F.above (Nat.le_of_lt hLs))) (Nat.lt_irrefl _)
  · obtain ⟨h1, h2⟩ := mem_but.mp hq
    exact ⟨key _ _ (Nat.ne_of_lt (hC.2 q h1 h2)) h2 (N q h1).1, (N q h1).2⟩
end
end Mine
end
section
open Lean Elab Tactic Meta PySem PySem.W PySem.Calls PyProof.Rows PyProof.V PySem.Builtin PySem.Spec PySem.SeqAt
namespace Mine
set_option maxRecDepth 100000

/-! data as a ledger bears it -/
def Rd (led : List (Addr × Obj)) (v : Value) (d : PyData) : Prop := ∀ h : Heap, (∀ p ∈ led, h.get? p.1 = some p.2) → ∃ as, Reads h v d as
def RdAll (led : List (Addr × Obj)) (vs : List Value) (ds : List PyData) : Prop := ∀ h : Heap, (∀ p ∈ led, h.get? p.1 = some p.2) → ∃ as, ReadsAll h vs ds as
section
variable {led led' : List (Addr × Obj)} {v : Value} {d : PyData} {vs : List Value} {ds : List PyData} {a : Addr} {n : Nat}
theorem Rd.mono (r : Rd led v d) (k : ∀ p ∈ led, p ∈ led') : Rd led' v d := fun h hh => r h fun p hp => hh p (k p hp)
theorem RdAll.mono (r : RdAll led vs ds) (k : ∀ p ∈ led, p ∈ led') : RdAll led' vs ds := fun h hh => r h fun p hp => hh p (k p hp)
theorem rd_str (x : Str) (t : Tok) : Rd led (.str x t) (.str x) := fun _ _ => ⟨_, .str x t⟩
theorem rd_int (x : Int) (t : Tok) : Rd led (.int x t) (.int x) := fun _ _ => ⟨_, .int x t⟩
theorem rdAll_nil : RdAll led [] [] := fun _ _ => ⟨_, .nil⟩
theorem rdAll_cons (r : Rd led v d) (q : RdAll led vs ds) : RdAll led (v :: vs) (d :: ds) := fun h hh => by
  obtain ⟨as, r⟩ := r h hh
  obtain ⟨bs, q⟩ := q h hh
  exact ⟨_, .cons r q⟩
theorem rd_list (hm : (a, listOf vs.toArray n) ∈ led) (q : RdAll led vs ds) : Rd led (.ref a) (.list ds) := fun h hh => by
  obtain ⟨as, q⟩ := q h hh
  exact ⟨_, .list (hh _ hm) rfl rfl q⟩
theorem rd_tup (hm : (a, tupO vs) ∈ led) (q : RdAll led vs ds) : Rd led (.ref a) (.tuple ds) := fun h hh => by
  obtain ⟨as, q⟩ := q h hh
  exact ⟨_, .tuple (hh _ hm) rfl rfl q⟩
theorem rdAll_strs : ∀ {vs : List Value} {ws : List Str}, StrsAre vs ws → RdAll led vs (ws.map PyData.str)
  | _, _, .nil => rdAll_nil
  | _, _, .cons y t r => rdAll_cons (rd_str y t) (rdAll_strs r)
theorem rdAll_pairs : ∀ {vs : List Value} {rows : List (Str × Str)}, PairsIn led vs rows → RdAll led vs (rows.map fun r => .tuple [.str r.1, .str r.2])
  | _, _, .nil => rdAll_nil
  | _, _, .cons ⟨_, t, u, e, h⟩ r => rdAll_cons (e ▸ rd_tup h (rdAll_cons (rd_str _ t) (rdAll_cons (rd_str _ u) rdAll_nil))) (rdAll_pairs r)
end
/-! texts, ints, lists and tuples of such: nothing that mixes kinds -/
mutual
def plainD : PyData → Bool
  | .int _ => true
  | .str x => PyData.strOk x
  | .list xs => plainAll xs
  | .tuple xs => plainAll xs
  | .none => false
  | .bool _ => false
  | .dict _ => false
def plainAll : List PyData → Bool
  | [] => true
  | x :: xs => plainD x && plainAll xs
end
mutual
theorem plain_canLay : ∀ d, plainD d = true → PyData.canLay0 d = true
  | .int _, _ => by rw [PyData.canLay0]
  | .str x, h => by rw [PyData.canLay0]; rw [plainD] at h; exact h
  | .list xs, h => by rw [PyData.canLay0]; rw [plainD] at h; exact plain_canLayAll xs h
  | .tuple xs, h => by rw [PyData.canLay0]; rw [plainD] at h; exact plain_canLayAll xs h
  | .none, h => by rw [plainD] at h; cases h
  | .bool _, h => by rw [plainD] at h; cases h
  | .dict _, h => by rw [plainD] at h; cases h
theorem plain_canLayAll : ∀ ds, plainAll ds = true → PyData.canLayAll0 ds = true
  | [], _ => by rw [PyData.canLayAll0]
  | x :: xs, h => by
    rw [plainAll, Bool.and_eq_true] at h
    rw [PyData.canLayAll0, Bool.and_eq_true]
    exact ⟨plain_canLay x h.1, plain_canLayAll xs h.2⟩
end
mutual
theorem plain_noMix : ∀ d d', plainD d = true → plainD d' = true → noMix d d' = true
  | .int _, d', _, h' => by cases d' <;> first | (simp only [plainD] at h'; cases h'; done) | simp only [noMix]
  | .str _, d', _, h' => by cases d' <;> first | (simp only [plainD] at h'; cases h'; done) | simp only [noMix]
  | .list xs, d', h, h' => by
    cases d' with
    | list ys => rw [noMix]; rw [plainD] at h h'; exact plain_noMixAll xs ys h h'
    | _ => first | (simp only [plainD] at h'; cases h'; done) | simp only [noMix]
  | .tuple xs, d', h, h' => by
    cases d' with
    | tuple ys => rw [noMix]; rw [plainD] at h h'; exact plain_noMixAll xs ys h h'
    | _ => first | (simp only [plainD] at h'; cases h'; done) | simp only [noMix]
  | .none, _, h, _ => by rw [plainD] at h; cases h
  | .bool _, _, h, _ => by rw [plainD] at h; cases h
  | .dict _, _, h, _ => by rw [plainD] at h; cases h
theorem plain_noMixAll : ∀ xs ys, plainAll xs = true → plainAll ys = true → noMixAll xs ys = true
  | [], [], _, _ => by simp only [noMixAll]
  | [], _ :: _, _, _ => by simp only [noMixAll]
  | _ :: _, [], _, _ => by simp only [noMixAll]
  | x :: xs, y :: ys, h, h' => by
    rw [plainAll, Bool.and_eq_true] at h h'
    rw [noMixAll, Bool.and_eq_true]
    exact ⟨plain_noMix x y h.1 h'.1, plain_noMixAll xs ys h.2 h'.2⟩
end
mutual
theorem plain_same : ∀ d d', plainD d = true → plainD d' = true → (Spec.same d d' = true ↔ d = d')
  | .int a, d', _, h' => by cases d' <;> first | (simp only [plainD] at h'; cases h'; done) | simp [Spec.same]
  | .str a, d', _, h' => by cases d' <;> first | (simp only [plainD] at h'; cases h'; done) | simp [Spec.same]
  | .list xs, d', h, h' => by
    cases d' with
    | list ys =>
      rw [plainD] at h h'
      rw [Spec.same, plain_sameAll xs ys h h']; simp
    | _ => first | (simp only [plainD] at h'; cases h'; done) | simp [Spec.same]
  | .tuple xs, d', h, h' => by
    cases d' with
    | tuple ys =>
      rw [plainD] at h h'
      rw [Spec.same, plain_sameAll xs ys h h']; simp
    | _ => first | (simp only [plainD] at h'; cases h'; done) | simp [Spec.same]
  | .none, _, h, _ => by rw [plainD] at h; cases h
  | .bool _, _, h, _ => by rw [plainD] at h; cases h
  | .dict _, _, h, _ => by rw [plainD] at h; cases h
theorem plain_sameAll : ∀ xs ys, plainAll xs = true → plainAll ys = true → (Spec.sameAll xs ys = true ↔ xs = ys)
  | [], [], _, _ => by simp [Spec.sameAll]
  | [], _ :: _, _, _ => by simp [Spec.sameAll]
  | _ :: _, [], _, _ => by simp [Spec.sameAll]
  | x :: xs, y :: ys, h, h' => by
    rw [plainAll, Bool.and_eq_true] at h h'
    rw [Spec.sameAll, Bool.and_eq_true, plain_same x y h.1 h'.1, plain_sameAll xs ys h.2 h'.2]; simp
end
theorem plainAll_of {ds : List PyData} (h : ∀ d ∈ ds, plainD d = true) : plainAll ds = true := by
  induction ds with
  | nil => rw [plainAll]
  | cons x xs ih => rw [plainAll, h x (.head _), ih fun d hd => h d (.tail _ hd)]; rfl
theorem mem_plainAll {ds : List PyData} (h : plainAll ds = true) : ∀ d ∈ ds, plainD d = true := by
  induction ds with
  | nil => intro d hd; cases hd
  | cons x xs ih =>
    rw [plainAll, Bool.and_eq_true] at h
    intro d hd
    rcases List.mem_cons.mp hd with rfl | hd
    · exact h.1
    · exact ih h.2 d hd
theorem plainAll_strs {ws : List Str} (h : StrsOk ws) : plainAll (ws.map PyData.str) = true :=
  plainAll_of fun d hd => by obtain ⟨x, hx, rfl⟩ := List.mem_map.mp hd; rw [plainD]; exact h x hx
theorem depthAll_le {ds : List PyData} {k : Nat} (h : ∀ d ∈ ds, PyData.depth d ≤ k) : PyData.depthAll ds ≤ k := by
  induction ds with
  | nil => rw [PyData.depthAll]; exact Nat.zero_le _
  | cons x xs ih => rw [PyData.depthAll]; exact Nat.max_le.mpr ⟨h x (.head _), ih fun d hd => h d (.tail _ hd)⟩
theorem plain_shaped {d : PyData} (h : plainD d = true) (hd : PyData.depth d ≤ 64) : shaped d = true := by
  unfold shaped; rw [plain_canLay d h, Bool.true_and]; exact decide_eq_true hd
theorem plain_eqv {d d' : PyData} (h : plainD d = true) (h' : plainD d' = true) : PyData.eqv d d' = true ↔ d = d' := by
  rw [← same_eq_eqv d d' (plain_noMix d d' h h')]; exact plain_same d d' h h'
section
variable {prog : Program} {w : World} {A : Around} {E : Value → Shared → Prop} {s : Shared} {h₀ : Heap} {L a b : Addr} {m : Str → Option Value} {led : List (Addr × Obj)} {x y : Value} {d d' : PyData} {ds : List PyData} {vs : List Value} {n : Nat} {Q : Value → Shared → Prop} {c : Bool}
theorem eq_rd (N : News h₀ L s.heap led) (r : Rd led x d) (r' : Rd led y d') (hp : plainD d = true) (hp' : plainD d' = true) (hd : PyData.depth d ≤ 60) (hd' : PyData.depth d' ≤ 60) (hu : A.units + 64 < cLine) (hc : c = true ↔ d = d') (h : Q (.bool c) s) :
    wpAny (model prog w) A (compareOp .Eq x y) Q E s := by
  obtain ⟨as, r⟩ := r s.heap fun p hp => (N p hp).1
  obtain ⟨bs, r'⟩ := r' s.heap fun p hp => (N p hp).1
  refine eq_dataH_same r r' (plain_shaped hp (by omega)) (plain_shaped hp' (by omega)) hu (plain_noMix d d' hp hp') ?_
  have e : Spec.same d d' = c := by rw [Bool.eq_iff_iff, plain_same d d' hp hp', hc]
  rw [e]; exact h
theorem ne_rd (N : News h₀ L s.heap led) (r : Rd led x d) (r' : Rd led y d') (hp : plainD d = true) (hp' : plainD d' = true) (hd : PyData.depth d ≤ 60) (hd' : PyData.depth d' ≤ 60) (hu : A.units + 64 < cLine) (hc : c = true ↔ d = d') (h : Q (.bool (!c)) s) :
    wpAny (model prog w) A (compareOp .NotEq x y) Q E s := by
  obtain ⟨as, r⟩ := r s.heap fun p hp => (N p hp).1
  obtain ⟨bs, r'⟩ := r' s.heap fun p hp => (N p hp).1
  refine ne_dataH_same r r' (plain_shaped hp (by omega)) (plain_shaped hp' (by omega)) hu (plain_noMix d d' hp hp') ?_
  have e : Spec.same d d' = c := by rw [Bool.eq_iff_iff, plain_same d d' hp hp', hc]
  rw [e]; exact h
theorem any_eqv {ds : List PyData} {d : PyData} (hp : plainAll ds = true) (hp' : plainD d = true) (hc : c = true ↔ d ∈ ds) : (ds.any fun y => PyData.eqv y d) = c := by
  rw [Bool.eq_iff_iff, hc, List.any_eq_true]
  constructor
  · rintro ⟨y, hy, he⟩
    rw [plain_eqv (mem_plainAll hp y hy) hp'] at he
    exact he ▸ hy
  · intro hd
    exact ⟨d, hd, (plain_eqv hp' hp').mpr rfl⟩
theorem notin_rd (N : News h₀ L s.heap led) (r : Rd led x d) (r' : Rd led y (.list ds)) (hp : plainD d = true) (hp' : plainAll ds = true) (hd : PyData.depth d ≤ 60) (hu : A.units + 64 < cLine) (hc : c = true ↔ d ∈ ds) (h : Q (.bool (!c)) s) :
    wpAny (model prog w) A (compareOp .NotIn x y) Q E s := by
  obtain ⟨as, r⟩ := r s.heap fun p hp => (N p hp).1
  obtain ⟨bs, r'⟩ := r' s.heap fun p hp => (N p hp).1
  refine notIn_list_reads r' r (plain_canLayAll _ hp') (plain_canLay _ hp) ?_ ?_
  · have := Nat.min_le_right (PyData.depthAll ds) d.depth; omega
  · rw [any_eqv hp' hp hc]; exact h
theorem in_rd (N : News h₀ L s.heap led) (r : Rd led x d) (r' : Rd led y (.list ds)) (hp : plainD d = true) (hp' : plainAll ds = true) (hd : PyData.depth d ≤ 60) (hu : A.units + 64 < cLine) (hc : c = true ↔ d ∈ ds) (h : Q (.bool c) s) :
    wpAny (model prog w) A (compareOp .In x y) Q E s := by
  obtain ⟨as, r⟩ := r s.heap fun p hp => (N p hp).1
  obtain ⟨bs, r'⟩ := r' s.heap fun p hp => (N p hp).1
  refine in_list_reads r' r (plain_canLayAll _ hp') (plain_canLay _ hp) ?_ ?_
  · have := Nat.min_le_right (PyData.depthAll ds) d.depth; omega
  · rw [any_eqv hp' hp hc]; exact h
/-- xs.index(x), x being there -/
theorem index_rd {j : Nat} (N : News h₀ L s.heap led) (hm : (a, listOf vs.toArray n) ∈ led) (ra : RdAll led vs ds) (r : Rd led x d) (hp : plainD d = true) (hp' : plainAll ds = true) (hd : PyData.depth d ≤ 60) (hu : A.units + 64 < cLine) (hj : ds[j]? = some d) (hno : ∀ k < j, ds[k]? ≠ some d) (hz : j < 100000)
    (h : Q (.int j s.toks) { s with toks := s.toks + 1 }) : wpAny (model prog w) A (call (.builtin "list.index") [.ref a, x]) Q E s := by
  have hl : s.heap.IsList a vs.toArray := PySem.IsL.isList (n := n) (N _ hm).1
  obtain ⟨as, r⟩ := r s.heap fun p hp => (N p hp).1
  obtain ⟨bs, ra⟩ := ra s.heap fun p hp => (N p hp).1
  have hlen : vs.length = ds.length := by
    have := congrArg List.length (readsAll_map ds vs bs (plain_canLayAll _ hp') ra)
    simpa using this
  have hread : ∀ k (hk : k < vs.length), ∃ dk, ds[k]? = some dk ∧ readOf s.heap vs[k] = dk ∧ plainD dk = true := fun k hk => by
    have e := readsAll_map ds vs bs (plain_canLayAll _ hp') ra
    have hk' : k < ds.length := hlen ▸ hk
    refine ⟨ds[k], by simp [hk'], ?_, mem_plainAll hp' _ (List.getElem_mem hk')⟩
    have := congrArg (·[k]?) e
    simpa [hk, hk'] using this
  obtain ⟨⟨cls, dd, data, sl⟩, ho, hc, nn, hdd⟩ := id hl
  simp only at hc hdd
  subst hc hdd
  have hjl : j < vs.length := by rw [hlen]; exact (List.getElem?_eq_some_iff.mp hj).1
  refine call_meets PySem.F.slot_list_index hl.typeIs PySem.F.entry_list_index (PySem.F.args_list_index_2 _ _) (list_indexAt a vs.toArray nn dd sl x (fun y => PyData.eqv (readOf s.heap y) d) j (by simpa using hjl) (by omega) ?_ ?_) ⟨ho, ?_, ?_⟩
  · obtain ⟨dk, h1, h2, h3⟩ := hread j hjl
    rw [hj] at h1; cases h1
    have : vs.toArray[j]'(by simpa using hjl) = vs[j] := by simp
    rw [this, h2]; exact (plain_eqv hp hp).mpr rfl
  · intro k hk hkj
    have hk' : k < vs.length := by simpa using hk
    obtain ⟨dk, h1, h2, h3⟩ := hread k hk'
    have : vs.toArray[k] = vs[k] := by simp
    rw [this, h2, Bool.eq_false_iff]
    intro q
    rw [plain_eqv h3 hp] at q
    exact hno k hkj (q ▸ h1)
  · exact items_eqAt (vs := vs.toArray) (by simpa using ra) r (plain_canLayAll _ hp') (plain_canLay _ hp) (by have := Nat.min_le_right (PyData.depthAll ds) d.depth; show A.units + 1 + _ < cLine; omega)
  · exact h
end
end Mine
end
section
open Lean Elab Tactic Meta PySem PySem.W PySem.Calls PyProof.Rows PyProof.V PySem.Builtin
namespace Mine
set_option maxRecDepth 100000
/-! a loop of any target: the assignment is walked with the body -/
def LoopAtA (prog : Program) (w : World) (A : Around) (h₀ : Heap) (L : Addr) (env : Env) (target : PySem.Expr) (body : List Stmt) (Q : Flow → Shared → Prop) (E : Value → Shared → Prop) (it : Value) (s₂ : Shared) : Prop :=
  ∃ (I : Addr) (fp wr : List Addr) (n : Nat) (P : Nat → Value → Prop) (St : Nat → Heap → Prop) (m : Str → Option Value) (news : List (Addr × Obj)) (J : Nat → (Str → Option Value) → List (Addr × Obj) → Prop),
    it = .ref I ∧ Walks prog w A I fp wr n P St ∧ (∀ v, letOwnedTupleGo target it v = pure ()) ∧ L ∉ fp ∧ (∀ b ∈ wr, h₀.get? b = none) ∧ (∀ p ∈ news, p.1 ∉ wr) ∧ St 0 s₂.heap ∧ Fr h₀ L s₂.heap m ∧ News h₀ L s₂.heap news ∧ J 0 m news ∧
    (∀ i v m₁ news₁ s₁ own, (∃ h tk, s₁ = { s₂ with heap := h, toks := tk }) → i < n → P i v → J i m₁ news₁ → (∀ p ∈ news₁, p.1 ∉ wr) → (∀ p ∈ own, p.1 ∈ fp) → (∀ b ∈ fp, h₀.get? b = none → ∀ o, s₁.heap.get? b = some o → (b, o) ∈ own) → St (i + 1) s₁.heap →
      Fr h₀ L s₁.heap m₁ → News h₀ L s₁.heap (own ++ news₁) →
      wpAny (model prog w) A (assign target env v) (fun _ s' => wpAny (model prog w) A (execs body env) (LoopStepV h₀ L wr own (J (i + 1)) s₁ (fun v s' => Q (.ret v) s') fun s' => Q .next s') E s') E s₁) ∧
    ∀ h' tk m' news', Fr h₀ L h' m' → News h₀ L h' news' → (∀ p ∈ news', p.1 ∉ wr) → J n m' news' → Q .next { s₂ with heap := h', toks := tk }
section
variable {prog : Program} {w : World} {A : Around} {E : Value → Shared → Prop} {s : Shared} {env : Env} {h₀ : Heap} {L : Addr} {target iter : PySem.Expr} {body : List Stmt} {pos : Pos} {Q : Flow → Shared → Prop}
theorem For_A (L : Addr) (h₀ : Heap) (h : wpAny (model prog w) A (eval iter env) (fun xv s₁ => wpAny (model prog w) A (pyIter xv) (fun it s₂ => LoopAtA prog w A h₀ L env target body Q E it s₂) E s₁) E s)
    (hs : ∀ x, foldedSetIterable iter env x = pure x := by intro _; rfl)
    (hE : PassesOwn (model prog w) A env E := by passes_own) :
    wpAny (model prog w) A (exec (.For target iter body [] pos) env) Q E s := by
  refine wpAny_For (wpAny_mono h (fun xv s₁ h₁ => wpAny_mono h₁ (fun it s₂ h₂ => ?_) fun _ _ e => e) fun _ _ e => e) hs
  obtain ⟨I, fp, wr, n, P, St, m, news, J, rfl, W, hown, hLf, hwr, hnw, hst, F, N, h0, step, hQ⟩ := h₂
  have hLw : L ∉ wr := fun h => hLf (W.sub _ h)
  have old : ∀ b o, h₀.get? b = some o → b ∉ wr := fun b o e hb => by rw [hwr b hb] at e; cases e
  refine codeAny_forLoop (R := fun r s' => match r with | .ok f => Q f s' | .error e => cameBackBy (model prog w) A env E e s')
    (fun k s' => ∃ h' tk m' news' i, s' = { s₂ with heap := h', toks := tk } ∧ St i h' ∧ Fr h₀ L h' m' ∧ News h₀ L h' news' ∧ (∀ p ∈ news', p.1 ∉ wr) ∧ J i m' news' ∧ i ≤ n ∧ k = n + 1 - i) ?_ (n + 1)
    ⟨s₂.heap, s₂.toks, m, news, 0, rfl, hst, F, N, hnw, h0, Nat.zero_le _, rfl⟩ hown
  rintro k s' ⟨h', tk, m', news', i, rfl, hst', F', N', hnw', hJ, hi, rfl⟩
  have next : ∀ h₁ : Heap, (∀ b o, b ∉ wr → h'.get? b = some o → h₁.get? b = some o) → Fr h₀ L h₁ m' ∧ News h₀ L h₁ news' := fun h₁ hk₁ =>
    ⟨⟨F'.ns.at' fun o e => hk₁ _ o hLw e, fun b o e => hk₁ b o (old b o e) (F'.keep b o e), F'.above⟩, fun p hp => ⟨hk₁ _ _ (hnw' p hp) (N' p hp).1, (N' p hp).2⟩⟩
  by_cases hlt : i < n
  · refine W.item i _ _ _ hlt hst' fun v h₁ tk₁ hP hst₁ hk₁ => ?_
    obtain ⟨F₁, N₁⟩ := next h₁ hk₁
    have Nown : News h₀ L h₁ (ownOf h₀ fp h₁) := news_ownOf hLf
    refine wpAny_mono (step i v m' news' _ (ownOf h₀ fp h₁) ⟨_, _, rfl⟩ hlt hP hJ hnw' ownOf_sub (fun b hb hn o e => mem_ownOf hb hn e) hst₁ F₁ (Nown.append N₁)) (fun _ s₄ h₄ => ?_) hE
    refine wpAny_mono h₄ (fun f s₃ h₃ => ?_) hE
    have fin : LoopStepU h₀ L wr (ownOf h₀ fp h₁) (J (i + 1)) { s₂ with heap := h₁, toks := tk₁ } .next s₃ → ∃ m, m < n + 1 - i ∧ (∃ h' tk m' news' i, s₃ = { s₂ with heap := h', toks := tk } ∧ St i h' ∧ Fr h₀ L h' m' ∧ News h₀ L h' news' ∧ (∀ p ∈ news', p.1 ∉ wr) ∧ J i m' news' ∧ i ≤ n ∧ m = n + 1 - i) := by
      rintro ⟨_, h₃', tk₃, m₂, news₂, rfl, F₃, N₃, ha₃, hJ₃⟩
      refine ⟨n + 1 - (i + 1), by omega, h₃', tk₃, m₂, news₂, i + 1, rfl, ?_, F₃, N₃.right, ha₃, hJ₃, hlt, rfl⟩
      refine W.frame _ _ _ hst₁ fun b hb o e => ?_
      cases hn : h₀.get? b with
      | some o₀ =>
        have : o₀ = o := by have := F₁.keep b o₀ hn; rw [e] at this; exact (Option.some.inj this).symm
        exact this ▸ F₃.keep b o₀ hn
      | none => exact (N₃ _ (List.mem_append_left _ (mem_ownOf hb hn e))).1
    cases f with
    | ret v => exact h₃
    | brk => exact h₃
    | cont => exact fin h₃
    | next => exact fin h₃
  · have hin : i = n := by omega
    subst hin
    refine W.done _ _ _ hst' fun h₁ tk₁ hk₁ => wpAny_execs_nil ?_
    obtain ⟨F₁, N₁⟩ := next h₁ hk₁
    exact hQ h₁ tk₁ m' news' F₁ N₁ hnw' hJ

theorem loopA {I : Addr} {fp : List Addr} {n : Nat} {P : Nat → Value → Prop} {St : Nat → Heap → Prop} {m₀ : Str → Option Value} {news : List (Addr × Obj)} (J : Nat → (Str → Option Value) → List (Addr × Obj) → Prop)
    (W : Walks prog w A I fp [I] n P St) (ho : ∀ v, letOwnedTupleGo target (.ref I) v = pure ()) (hst : St 0 s.heap) (hLf : L ∉ fp) (hI0 : h₀.get? I = none) (hnw : ∀ p ∈ news, p.1 ≠ I)
    (F : Fr h₀ L s.heap m₀) (N : News h₀ L s.heap news) (hj : J 0 m₀ news)
    (turn : ∀ i v m₁ news₁ own h tk, i < n → P i v → J i m₁ news₁ → (∀ p ∈ own, p.1 ∈ fp) → (∀ p ∈ news₁, p.1 ≠ I) → (∀ b ∈ fp, h₀.get? b = none → ∀ o, h.get? b = some o → (b, o) ∈ own) → St (i + 1) h →
      Fr h₀ L h m₁ → News h₀ L h (news₁ ++ own) →
      wpAny (model prog w) A (assign target env v) (fun _ s' => wpAny (model prog w) A (execs body env) (TurnPost h₀ L I own (J (i + 1)) { s with heap := h, toks := tk } Q) E s') E { s with heap := h, toks := tk })
    (done : ∀ m₁ news₁ h tk, J n m₁ news₁ → (∀ p ∈ news₁, p.1 ≠ I) → Fr h₀ L h m₁ → News h₀ L h news₁ → Q .next { s with heap := h, toks := tk }) :
    LoopAtA prog w A h₀ L env target body Q E (.ref I) s := by
  refine ⟨I, fp, [I], n, P, St, m₀, news, J, rfl, W, ho, hLf, ?_, ?_, hst, F, N, hj, ?_, ?_⟩
  · intro b hb; rw [List.mem_singleton.mp hb]; exact hI0
  · intro p hp hI; exact hnw p hp (List.mem_singleton.mp hI)
  · rintro i v m₁ news₁ s₁ own ⟨hh', tk', rfl⟩ hi hP hJ hoff hown hall hst₁ F₁ N₁
    have hoff' : ∀ p ∈ news₁, p.1 ≠ I := fun p hp e => hoff p hp (List.mem_singleton.mpr e)
    have N₂ : News h₀ L hh' (news₁ ++ own) := fun p hp => N₁ p ((List.mem_append.mp hp).elim (fun h => List.mem_append.mpr (.inr h)) fun h => List.mem_append.mpr (.inl h))
    refine wpAny_mono (turn i v m₁ news₁ own hh' tk' hi hP hJ hown hoff' hall hst₁ F₁ N₂) (fun _ s₄ h₄ => wpAny_mono h₄ (fun f s₂ p => ?_) fun _ _ e => e) fun _ _ e => e
    have fin : TurnEnd h₀ L I own (J (i + 1)) { s with heap := hh', toks := tk' } s₂ → LoopStepU h₀ L [I] own (J (i + 1)) { s with heap := hh', toks := tk' } .next s₂ := by
      rintro ⟨h', tk, m', all, nx, e, F', N', ho, hn, hI, hm⟩
      exact ⟨rfl, h', tk, m', nx, e, F', fun p hp => N' p ((List.mem_append.mp hp).elim (ho p) (hn p)), fun p hp hq => hI p hp (List.mem_singleton.mp hq), hm⟩
    cases f with
    | ret v => exact .ret p
    | brk => exact .brk p
    | next => exact .next (fin p)
    | cont => exact .cont (fin p)
  · rintro h' tk m' news' F' N' hoff hJ
    exact done m' news' h' tk hJ (fun p hp e => hoff p hp (List.mem_singleton.mpr e)) F' N'

theorem iter_listA {l : Addr} {vs : List Value} {m₀ : Str → Option Value} {news : List (Addr × Obj)} (J : Nat → (Str → Option Value) → List (Addr × Obj) → Prop)
    (hh : A.handled = none) (ho : ∀ I v, letOwnedTupleGo target (.ref I) v = pure ()) (hl : s.heap.IsList l vs.toArray) (hL : l ≠ L) (F : Fr h₀ L s.heap m₀) (N : News h₀ L s.heap news) (hj : J 0 m₀ news)
    (turn : ∀ i v m₁ news₁ I own h tk, vs[i]? = some v → J i m₁ news₁ → (∀ p ∈ own, p.1 = I ∨ p.1 = l) → (∀ p ∈ news₁, p.1 ≠ I) → (∃ o, (I, o) ∈ own ∧ o.cls = .type "list_iterator") → l ≠ I →
      Fr h₀ L h m₁ → News h₀ L h (news₁ ++ own) →
      wpAny (model prog w) A (assign target env v) (fun _ s' => wpAny (model prog w) A (execs body env) (TurnPost h₀ L I own (J (i + 1)) { s with heap := h, toks := tk } Q) E s') E { s with heap := h, toks := tk })
    (done : ∀ m₁ news₁ h tk, J vs.length m₁ news₁ → Fr h₀ L h m₁ → News h₀ L h news₁ → Q .next { s with heap := h, toks := tk }) :
    wpAny (model prog w) A (pyIter (.ref l)) (fun it s₂ => LoopAtA prog w A h₀ L env target body Q E it s₂) E s := by
  obtain ⟨ol, hol, _⟩ := id hl
  have hlt : l < s.heap.objs.size := Heap.lt_size hol
  refine wpAny_pyIter_list hl ?_
  have hn := next_is_new F
  have W := Walks.list (prog := prog) (w := w) hh s.heap.objs.size l (Nat.ne_of_lt hlt) vs.toArray
  have hlen : vs.toArray.size = vs.length := by simp
  rw [hlen] at W
  refine loopA J W (ho _) ⟨⟨_, Heap.get?_push_size _ rfl, rfl, rfl⟩, hl.at fun o e => Heap.get?_push_of_some _ e⟩ ?_ hn ?_ (F.push _) (fun p hp => ⟨Heap.get?_push_of_some _ (N p hp).1, (N p hp).2⟩) hj ?_ ?_
  · intro hm
    rcases List.mem_cons.mp hm with e | hm
    · exact absurd F.ns.lt (e ▸ Nat.lt_irrefl _)
    · exact hL (List.mem_singleton.mp hm).symm
  · intro p hp hI; exact absurd (Heap.lt_size (N p hp).1) (hI ▸ Nat.lt_irrefl _)
  · rintro i v m₁ news₁ own h tk _ hP hJ hown hoff hall ⟨⟨o, ho, hoc, _⟩, hl'⟩ F₁ N₁
    exact turn i v m₁ news₁ _ own h tk (by simpa using hP) hJ (fun p hp => by simpa using hown p hp) hoff ⟨o, hall _ (.head _) hn o ho, hoc⟩ (Nat.ne_of_lt hlt) F₁ N₁
  · intro m₁ news₁ h tk hJ _ F₁ N₁
    exact done m₁ news₁ h tk hJ F₁ N₁

theorem iter_rangeA {r : Addr} {a₀ b₀ : Int} {t₀ u₀ v₀ : Tok} {n : Nat} {m₀ : Str → Option Value} {news : List (Addr × Obj)} (J : Nat → (Str → Option Value) → List (Addr × Obj) → Prop)
    (hh : A.handled = none) (ho : ∀ I v, letOwnedTupleGo target (.ref I) v = pure ()) (hr : IsRange s.heap r a₀ b₀ 1 t₀ u₀ v₀) (hsmall : Builtin.Range.small a₀ b₀ 1 = true) (hn : Builtin.Range.rangeSize a₀ b₀ 1 = (n : Int)) (F : Fr h₀ L s.heap m₀) (N : News h₀ L s.heap news) (hj : J 0 m₀ news)
    (turn : ∀ i u m₁ news₁ I own h tk, i < n → J i m₁ news₁ → (∀ p ∈ own, p.1 = I) → (∀ p ∈ news₁, p.1 ≠ I) → (∃ o, (I, o) ∈ own) →
      Fr h₀ L h m₁ → News h₀ L h (news₁ ++ own) →
      wpAny (model prog w) A (assign target env (.int (a₀ + (i : Int)) u)) (fun _ s' => wpAny (model prog w) A (execs body env) (TurnPost h₀ L I own (J (i + 1)) { s with heap := h, toks := tk } Q) E s') E { s with heap := h, toks := tk })
    (done : ∀ m₁ news₁ h tk, J n m₁ news₁ → Fr h₀ L h m₁ → News h₀ L h news₁ → Q .next { s with heap := h, toks := tk }) :
    wpAny (model prog w) A (pyIter (.ref r)) (fun it s₂ => LoopAtA prog w A h₀ L env target body Q E it s₂) E s := by
  refine wpAny_pyIter_range hr hsmall ?_
  have hnew := next_is_new F
  have W : Walks prog w A s.heap.objs.size [s.heap.objs.size] [s.heap.objs.size] n (fun i v => i < n ∧ ∃ t, v = .int (a₀ + i * 1) t)
      (fun i h => IsRangeIter h s.heap.objs.size (a₀ + (i : Nat) * 1) ((n : Int) - (i : Nat)) 1) := (Walks.range hh _ a₀ 1 n).bound
  refine loopA J W (ho _) (by show IsRangeIter _ _ _ _ _; rw [hn]; simpa using Heap.get?_push_size _ rfl) ?_ hnew ?_ (F.push _) (fun p hp => ⟨Heap.get?_push_of_some _ (N p hp).1, (N p hp).2⟩) hj ?_ ?_
  · intro hm; exact absurd F.ns.lt ((List.mem_singleton.mp hm) ▸ Nat.lt_irrefl _)
  · intro p hp hI; exact absurd (Heap.lt_size (N p hp).1) (hI ▸ Nat.lt_irrefl _)
  · rintro i v m₁ news₁ own h tk hi ⟨_, u, rfl⟩ hJ hown hoff hall hst F₁ N₁
    have e1 : a₀ + (i : Int) * 1 = a₀ + (i : Int) := by rw [Int.mul_one]
    rw [e1]
    exact turn i u m₁ news₁ _ own h tk hi hJ (fun p hp => List.mem_singleton.mp (hown p hp)) hoff ⟨_, hall _ (.head _) hnew _ hst⟩ F₁ N₁
  · intro m₁ news₁ h tk hJ _ F₁ N₁
    exact done m₁ news₁ h tk hJ F₁ N₁
end
/-! list(a list's iterator) -/
section
variable {prog : Program} {w : World} {A : Around} {E : Value → Shared → Prop} {s : Shared} {R : Result → Shared → Prop} {I : Addr} {fp wr : List Addr} {G : Array GenState → Array GenState → Prop} {n : Nat} {P : Nat → Value → Prop} {St : Nat → Shared → Prop}
theorem extend_listiter (W : WalksS prog w A.in1 I fp wr G n P St) (hT : ∀ i s, St i s → s.TypeIs (.ref I) "list_iterator") (S : Addr) (res : Value) (c₀ : Nat) (hst : St 0 s) (hSf : S ∉ fp) (hI : I ∈ fp)
    (hS : s.heap.get? S = some { cls := .type "list", data := .seq #[] c₀ })
    (hR : ∀ s' acc' c', Moved (S :: wr) G s s' → s'.heap.get? S = some { cls := .type "list", dict := none, data := .seq acc' c', slots := #[] } → ItemsOf P acc' n → R (.ok (.ret res)) s') (hn : n ≤ sizeLine := by size_fits) :
    wpAny (model prog w) A.in1 (Builtin.List.listExtendWith (.ref S) (.ref I) res)
      (fun fin s' => match fin with | .done f => R (.ok f) s' | .again c' => c'.quiet = true ∧ codeAny (model prog w) A c' R s') (fun e s' => R (.error e) s') s := by
  have hSI : S ≠ I := fun e => hSf (e ▸ hI)
  unfold Builtin.List.listExtendWith
  refine wpAny_bind (wpAny_typeOf (hT 0 _ hst) ?_)
  have h1 : Builtin.List.listSameRef (.ref S) (.ref I) = false := by simp [Builtin.List.listSameRef, hSI]
  rw [if_neg (by rw [h1]; decide)]
  refine wpAny_bind (W.self 0 _ _ _ hst ?_)
  refine wpAny_bind (wpAny_holding ?_)
  unfold Builtin.List.listLengthHint
  refine wpAny_bind (wpAny_specialOf (hT 0 _ hst) PySem.F.nolen_li ?_)
  show wpAny _ A.in1 (specialOf (Value.ref I) (Str.ofString "__length_hint__") >>= _) _ _ _
  refine wpAny_bind (wpAny_specialOf (hT 0 _ hst) PySem.F.hint_li ?_)
  (generalize hid : ("list_iterator.__length_hint__" : String) = id0; (fail_if_success (clear hid id0)); wp_delta; rw [show splitId id0 = some ("list_iterator", "__length_hint__") from by subst hid; decide +kernel]; subst hid)
  refine wpAny_bind (wpAny_isInstance (b := true) (hT 0 _ hst) (by rw [isSubtype_type]; kernel_rfl) ?_)
  refine wpAny_pure ?_
  rw [if_neg (by decide)]
  refine wpAny_pure ⟨plainId_quiet PySem.F.plain_extend_loop _, codeAny_extend_loopS W hn _ hSf _ n 0 _ _ _ rfl (Nat.zero_le _) hst hS (ItemsOf.nil P) fun s' acc' c' hm hS' hacc => ?_⟩
  exact hR s' acc' c' hm hS' hacc
theorem list_init_listiter (W : WalksS prog w A.in1 I fp wr G n P St) (hT : ∀ i s, St i s → s.TypeIs (.ref I) "list_iterator") (S : Addr) (hst : St 0 s) (hSf : S ∉ fp) (hI : I ∈ fp)
    (hS : s.heap.get? S = some { cls := .type "list", data := .seq #[] })
    (hR : ∀ s' acc' c', Moved (S :: wr) G s s' → s'.heap.get? S = some { cls := .type "list", dict := none, data := .seq acc' c', slots := #[] } → ItemsOf P acc' n → R (.ok (.ret .none)) s') (hn : n ≤ sizeLine := by size_fits) :
    wpAny (model prog w) A.in1 (Builtin.«list.__init__» ⟨[.ref S, .ref I], []⟩)
      (fun fin s' => match fin with | .done f => R (.ok f) s' | .again c' => c'.quiet = true ∧ codeAny (model prog w) A c' R s') (fun e s' => R (.error e) s') s := by
  show wpAny _ A.in1 (do let old ← Builtin.List.listItems (.ref S); Builtin.List.listUpdate (.ref S) (fun _ => #[]); letGo old.toList.reverse; Builtin.List.listExtendWith (.ref S) (.ref I) .none) _ _ s
  refine wpAny_bind ?_
  unfold Builtin.List.listItems
  refine wpAny_bind (wpAny_seqItems hS rfl (wpAny_pure ?_))
  show wpAny _ A.in1 (updateSeq S (fun _ => #[]) >>= fun _ => letGo (#[] : Array Value).toList.reverse >>= fun _ => Builtin.List.listExtendWith (.ref S) (.ref I) .none) _ _ s
  refine wpAny_bind (wpAny_updateSeq hS rfl ?_)
  have hS₂ := Heap.get?_update_self (Obj.mapSeq (fun _ => (#[] : Array Value))) hS rfl
  have oth : ∀ b o, b ≠ S → s.heap.get? b = some o → (s.heap.update S (Obj.mapSeq (fun _ => (#[] : Array Value)))).get? b = some o :=
    fun b o hb e => (Heap.get?_update_other _ _ (Ne.symm hb)).trans e
  refine wpAny_bind (wpAny_letGo ?_)
  refine extend_listiter (hn := hn) W hT S .none _ (W.frame 0 s _ s.toks hst (Nat.le_refl _) fun b hb o e => oth b o (fun h => hSf (h ▸ hb)) e) hSf hI hS₂ fun s' acc' c' hm hS' hacc => ?_
  exact hR s' acc' c' (Moved.trans W.gtrans ((Moved.refl W.grefl).then_heap (Nat.le_refl _) fun b o hb e => oth b o (fun h => hb (h ▸ List.mem_cons_self)) e) hm) hS' hacc
end
section
variable {prog : Program} {w : World} {A : Around} {E : Value → Shared → Prop} {s : Shared} {h₀ : Heap} {L l it : Addr} {m : Str → Option Value} {led : List (Addr × Obj)} {vs : List Value} {n : Nat} {Q : Value → Shared → Prop}
theorem list_of_iter (hh : A.handled = none) (F : Fr h₀ L s.heap m) (N : News h₀ L s.heap led) (hit : (it, itObj l) ∈ led) (hl : (l, listOf vs.toArray n) ∈ led) (hz : vs.length ≤ 100000)
    (hQ : ∀ D c h' tk, Fr h₀ L h' m → News h₀ L h' ((D, listOf vs.toArray c) :: but it led) → (∀ q ∈ led, q.1 < D) → Q (.ref D) { s with heap := h', toks := tk }) :
    wpAny (model prog w) A (call (.type "list") [.ref it]) Q E s := by
  have hitI := (N _ hit).1
  have hlI := (N _ hl).1
  dsimp only at hitI hlI
  have hne : l ≠ it := fun q => by
    rw [q, hitI] at hlI
    have := congrArg Obj.cls (Option.some.inj hlI)
    injection this with this; exact absurd this (by decide)
  have W := (Walks.list (prog := prog) (w := w) (A := A.in1.in1) hh it l hne vs.toArray).toS
  have hlen : vs.toArray.size = vs.length := by simp
  have hS : (s.heap.push { cls := .type "list", data := .seq #[] }).get? s.heap.objs.size = some { cls := .type "list", data := .seq #[] } := Heap.get?_push_size _ rfl
  have hnf : s.heap.objs.size ∉ [it, l] := fun hm => by
    rcases List.mem_cons.mp hm with e | hm
    · exact absurd (Heap.lt_size hitI) (e ▸ Nat.lt_irrefl _)
    · exact absurd (Heap.lt_size hlI) ((List.mem_singleton.mp hm) ▸ Nat.lt_irrefl _)
  refine callType_codes (Q₁ := fun obj s₁ => obj = .ref s.heap.objs.size ∧ s₁ = { s with heap := s.heap.push { cls := .type "list", data := .seq #[] } }) PySem.F.called_list (PySem.F.typeCall_list_1 _) PySem.F.entry_list_init
    (code_list_new _ ⟨rfl, rfl⟩) fun obj s₁ h₁ => ?_
  obtain ⟨rfl, rfl⟩ := h₁
  refine ⟨⟨_, hS, rfl⟩, PySem.F.args_list_init_2 _ _, list_init_listiter (A := A.in1) W (fun _ _ st => st.1.typeIs) _ ⟨⟨_, Heap.get?_push_of_some _ hitI, rfl, rfl⟩, (PySem.IsL.isList (n := n) hlI).push _⟩ hnf (.head _) hS (fun s' acc' c' hm hS' hacc => ?_) (by rw [sizeLine_eq]; omega)⟩
  obtain ⟨mh, mg, md, mo, mt⟩ := hm
  have hacc2 : acc' = vs.toArray := by
    obtain ⟨h1, h2⟩ := hacc
    apply Array.ext_getElem?
    intro i
    by_cases hi : i < acc'.size
    · have := h2 i acc'[i] (by simp [hi])
      rw [this]; simp [hi]
    · rw [Array.getElem?_eq_none (by omega), Array.getElem?_eq_none (by omega)]
  subst hacc2
  have key : ∀ b o, b ≠ it → s.heap.get? b = some o → s'.heap.get? b = some o := fun b o h2 e => by
    refine mh b o (fun hb => ?_) (Heap.get?_push_of_some _ e)
    rcases List.mem_cons.mp hb with rfl | hb
    · exact absurd (Heap.lt_size e) (Nat.lt_irrefl _)
    · exact h2 (List.mem_singleton.mp hb)
  have hLs : L < s.heap.objs.size := F.ns.lt
  have F' : Fr h₀ L s'.heap m := ⟨F.ns.at' fun o e => key L o (N _ hit).2.1.symm e, fun b o e => key b o (fun q => by rw [q, (N _ hit).2.2] at e; cases e) (F.keep b o e), F.above⟩
  have e : s' = { s with heap := s'.heap, toks := s'.toks } := by
    cases s'; dsimp only at md mo mg ⊢; rw [md, mo, mg]
  rw [e]
  refine ⟨rfl, hQ _ c' _ _ F' (fun q hq => ?_) (fun q hq => Heap.lt_size (N q hq).1)⟩
  rcases List.mem_cons.mp hq with rfl | hq
  · refine ⟨hS', Nat.ne_of_gt hLs, ?_⟩
    cases z : h₀.get? s.heap.objs.size with
    | none => rfl
    | some o => exact absurd (Nat.lt_of_lt_of_le (Heap.lt_size z) (Nat.le_trans F.above (Nat.le_of_lt hLs))) (Nat.lt_irrefl _)
  · obtain ⟨h1, h2⟩ := mem_but.mp hq
    exact ⟨key _ _ h2 (N q h1).1, (N q h1).2⟩
end
end Mine
end
section
open Lean Elab Tactic Meta PySem PySem.W PySem.Calls PyProof.Rows PyProof.V PySem.Builtin PySem.SeqAt
open AutoSeq1 (wpAny_loadPart')
open MeetsSeq MeetsSeq2 MeetsSeq3 SeqRoads2
namespace Mine
set_option maxRecDepth 100000
/-! lists of ints by their places -/
def lexLt : List Int → List Int → Bool
  | [], [] => false
  | [], _ :: _ => true
  | _ :: _, [] => false
  | x :: xs, y :: ys => if x = y then lexLt xs ys else decide (x < y)
theorem ints_len : ∀ {vs : List Value} {xs : List Int}, IntsAre vs xs → vs.length = xs.length
  | _, _, .nil => rfl
  | _, _, .cons _ _ h => congrArg (· + 1) (ints_len h)
theorem ints_drop : ∀ {vs : List Value} {xs : List Int}, IntsAre vs xs → ∀ {i : Nat}, i < vs.length → ∃ x t, vs[i]? = some (.int x t) ∧ xs.drop i = x :: xs.drop (i + 1)
  | _, _, .nil, _, h => absurd h (Nat.not_lt_zero _)
  | _, _, .cons x t _, 0, _ => ⟨x, t, rfl, rfl⟩
  | _, _, .cons _ _ r, i + 1, h => by
    obtain ⟨x, t, h1, h2⟩ := ints_drop r (i := i) (by simpa using h)
    exact ⟨x, t, by simpa using h1, by simpa using h2⟩
theorem lex_cons (x y : Int) (xs ys : List Int) : lexLt (x :: xs) (y :: ys) = if x = y then lexLt xs ys else decide (x < y) := rfl
theorem lex_cons_nil (x : Int) (xs : List Int) : lexLt (x :: xs) [] = false := rfl
theorem lex_nil_right (xs : List Int) : lexLt xs [] = false := by cases xs <;> rfl
theorem lt_loopAt (l b : Addr) {vs us : List Value} {xs ys : List Int} (hv : IntsAre vs xs) (hu : IntsAre us ys) (n n2 : Nat) (dd dd2 : Option Addr) (sl sl2 : Array (Option Value)) (k : Nat) :
    ∀ i : Nat, vs.length - i = k → i ≤ vs.length → i ≤ us.length → Meets (Builtin.«list.__eq__.loop» ⟨[.ref l, .ref b, rawInt i, rawInt 0], []⟩)
      (fun _ R s => s.heap.get? l = some { cls := .type "list", dict := dd, data := .seq vs.toArray n, slots := sl } ∧ s.heap.get? b = some { cls := .type "list", dict := dd2, data := .seq us.toArray n2, slots := sl2 } ∧
        R (.ok (.ret (.bool (lexLt (xs.drop i) (ys.drop i))))) s) := by
  have hvl := ints_len hv
  have hul := ints_len hu
  induction k with
  | zero =>
    intro i hk hi1' hi2' prog w A R s h
    obtain ⟨hp, g, d, tk, os⟩ := s; obtain ⟨hl, hb, h⟩ := h
    wp_walk using wpAny_loadPart' hl, wpAny_loadPart' hb
    have hi1 : vs.toArray[((i : Nat) : Int).toNat]? = none := by simp; omega
    have hd : xs.drop i = [] := by simp; omega
    rw [hd] at h
    rw [hi1]
    wp_walk using wpAny_loadPart' hl, wpAny_loadPart' hb
    show R (.ok (.ret (.bool (decide (vs.toArray.size < us.toArray.size))))) _
    have e : lexLt [] (ys.drop i) = decide (vs.toArray.size < us.toArray.size) := by
      simp only [List.size_toArray]
      cases hy : ys.drop i with
      | nil =>
        have : ys.length ≤ i := by simpa using hy
        rw [lexLt, eq_comm, decide_eq_false_iff_not]; omega
      | cons y r =>
        have : i < ys.length := by
          rcases Nat.lt_or_ge i ys.length with h | h
          · exact h
          · rw [List.drop_eq_nil_of_le h] at hy; cases hy
        rw [lexLt, eq_comm, decide_eq_true_iff]; omega
    rw [← e]; exact h
  | succ k ih =>
    intro i hk hi1' hi2' prog w A R s h
    obtain ⟨hp, g, d, tk, os⟩ := s; obtain ⟨hl, hb, h⟩ := h
    wp_walk using wpAny_loadPart' hl, wpAny_loadPart' hb
    have hlt : i < vs.length := by omega
    obtain ⟨x, t, hx, hxd⟩ := ints_drop hv hlt
    have hi1 : vs.toArray[((i : Nat) : Int).toNat]? = some (.int x t) := by simpa using hx
    rw [hxd] at h
    rw [hi1]
    by_cases hlt2 : i < us.length
    · obtain ⟨y, u, hy, hyd⟩ := ints_drop hu hlt2
      have hi2 : us.toArray[((i : Nat) : Int).toNat]? = some (.int y u) := by simpa using hy
      rw [hyd] at h
      rw [hi2]
      have hc : ((i : Int) + 1) = ((i + 1 : Nat) : Int) := by push_cast; rfl
      refine wpAny_bind (EqAt.int_int x t y u prog w _ _ ?_)
      rw [lex_cons] at h
      by_cases hxy : x = y
      · rw [if_pos hxy] at h
        have e : (x == y) = true := by simp [hxy]
        rw [e]
        wp_walk
        rw [hc]
        exact ⟨plainId_quiet plain_eq_loop _, codeAny_builtin entry_eq_loop (by
          rw [Around.under_plainId plain_eq_loop _]
          exact ih (i + 1) (by omega) hlt hlt2 prog w A R _ ⟨hl, hb, h⟩)⟩
      · rw [if_neg hxy] at h
        have e : (x == y) = false := by simp [hxy]
        rw [e]
        wp_walk using wpAny_loadPart' hl, wpAny_loadPart' hb
        rw [hi1, hi2]
        refine wpAny_bind (wpAny_lt_int (a := x) (b := y) ?_)
        exact wpAny_pure h
    · have hi2 : us.toArray[((i : Nat) : Int).toNat]? = none := by simp; omega
      have hd : ys.drop i = [] := by simp; omega
      rw [hd, lex_cons_nil] at h
      rw [hi2]
      wp_walk using wpAny_loadPart' hl, wpAny_loadPart' hb
      show R (.ok (.ret (.bool (decide (vs.toArray.size < us.toArray.size))))) _
      have e : decide (vs.toArray.size < us.toArray.size) = false := by
        rw [decide_eq_false_iff_not]; simp only [List.size_toArray]; omega
      rw [e]; exact h
theorem list_ltAt (l b : Addr) {vs us : List Value} {xs ys : List Int} (hv : IntsAre vs xs) (hu : IntsAre us ys) (n n2 : Nat) (dd dd2 : Option Addr) (sl sl2 : Array (Option Value)) :
    Meets (Builtin.«list.__lt__» ⟨[.ref l, .ref b], []⟩)
      (fun _ R s => s.heap.get? l = some { cls := .type "list", dict := dd, data := .seq vs.toArray n, slots := sl } ∧ s.heap.get? b = some { cls := .type "list", dict := dd2, data := .seq us.toArray n2, slots := sl2 } ∧
        R (.ok (.ret (.bool (lexLt xs ys)))) s) := by
  intro prog w A R s h
  obtain ⟨hp, g, d, tk, os⟩ := s; obtain ⟨hl, hb, h⟩ := h
  have f3 := AutoSeq1.sub_list_list
  wp_walk using wpAny_loadPart' hl, wpAny_loadPart' hb
  exact ⟨plainId_quiet plain_eq_loop _, codeAny_builtin entry_eq_loop (by
    rw [Around.under_plainId plain_eq_loop _]
    exact lt_loopAt l b hv hu n n2 dd dd2 sl sl2 _ 0 rfl (Nat.zero_le _) (Nat.zero_le _) prog w A R _ ⟨hl, hb, by simpa using h⟩)⟩
section
variable {prog : Program} {w : World} {A : Around} {E : Value → Shared → Prop} {s : Shared} {l b : Addr} {vs us : List Value} {xs ys : List Int} {n n2 : Nat} {Q : Bool → Shared → Prop}
theorem oneLt_list (hl : s.heap.get? l = some (listOf vs.toArray n)) (hb : s.heap.get? b = some (listOf us.toArray n2)) (hv : IntsAre vs xs) (hu : IntsAre us ys) (hz : A.units < cLine) (h : Q (lexLt xs ys) s) :
    wpAny (model prog w) A (oneLt' true (.ref l) (.ref b)) Q E s := by
  rw [oneLt'_eq]
  simp only [if_true]
  refine wpAny_bind (wpAny_cRoomFor hz ?_)
  refine wpAny_bind (wpAny_callSpecialIfBound?_slot (⟨_, hl, rfl⟩ : s.TypeIs (.ref l) "list") PySem.F.slot_list_lt (call_meets PySem.F.slot_list_lt ⟨_, hl, rfl⟩ PySem.F.entry_list_lt (PySem.F.args_list_lt_2 _ _) (list_ltAt l b hv hu n n2 none none #[] #[]) ⟨hl, hb, ?_⟩))
  exact wpAny_truthy_bool h
end
end Mine
end
section
open Lean Elab Tactic Meta PySem PySem.W PySem.Calls PyProof.Rows PyProof.V PySem.Builtin
namespace Mine
set_option maxRecDepth 100000
/-! the sort's questions, answered by an order -/
def evT {α : Type} (lt : Nat → Nat → Bool) : KasT α → α
  | .ret a => a
  | .ask i j k => evT lt (k (lt i j))
def okT {α : Type} (n : Nat) (lt : Nat → Nat → Bool) : KasT α → Bool
  | .ret _ => true
  | .ask i j k => decide (i < n) && decide (j < n) && okT n lt (k (lt i j))
theorem kasWp_ev {α : Type} {n : Nat} {lt : Nat → Nat → Bool} {cmp : Nat → Nat → (Bool → Shared → Prop) → Shared → Prop} {s : Shared} (hc : ∀ i j C, i < n → j < n → C (lt i j) s → cmp i j C s) :
    ∀ (t : KasT α) (Q : α → Shared → Prop), okT n lt t = true → Q (evT lt t) s → t.kasWp cmp Q s
  | .ret _, _, _, h => h
  | .ask i j k, Q, ho, h => by
    have ho' : (decide (i < n) && decide (j < n) && okT n lt (k (lt i j))) = true := ho
    simp only [Bool.and_eq_true, decide_eq_true_eq] at ho'
    exact hc i j _ ho'.1.1 ho'.1.2 (kasWp_ev hc (k (lt i j)) Q ho'.2 h)
theorem okT_congr {α : Type} {n : Nat} {lt lt' : Nat → Nat → Bool} (h : ∀ i j, i < n → j < n → lt i j = lt' i j) : ∀ t : KasT α, okT n lt t = true → okT n lt' t = true ∧ evT lt' t = evT lt t
  | .ret _, _ => ⟨rfl, rfl⟩
  | .ask i j k, ho => by
    have ho' : (decide (i < n) && decide (j < n) && okT n lt (k (lt i j))) = true := ho
    simp only [Bool.and_eq_true, decide_eq_true_eq] at ho'
    obtain ⟨h1, h2⟩ := okT_congr h (k (lt i j)) ho'.2
    refine ⟨?_, ?_⟩
    · show (decide (i < n) && decide (j < n) && okT n lt' (k (lt' i j))) = true
      rw [← h i j ho'.1.1 ho'.1.2, h1]; simp [ho'.1.1, ho'.1.2]
    · show evT lt' (k (lt' i j)) = evT lt (k (lt i j))
      rw [← h i j ho'.1.1 ho'.1.2, h2]
def allL (n : Nat) : Nat → List (List Nat)
  | 0 => [[]]
  | k + 1 => (allL n k).flatMap fun l => (List.range n).map fun x => x :: l
theorem mem_allL {n : Nat} : ∀ {k : Nat} {l : List Nat}, l.length = k → (∀ x ∈ l, x < n) → l ∈ allL n k
  | 0, [], _, _ => .head _
  | k + 1, x :: l, h, hx => by
    rw [allL, List.mem_flatMap]
    exact ⟨l, mem_allL (by simpa using h) (fun y hy => hx y (.tail _ hy)), List.mem_map.mpr ⟨x, List.mem_range.mpr (hx x (.head _)), rfl⟩⟩
def ltS (σ : List Nat) (i j : Nat) : Bool := decide (σ.getD i 0 < σ.getD j 0)
def nodupB : List Nat → Bool
  | [] => true
  | x :: l => !(l.any (· == x)) && nodupB l
def goodS (n : Nat) (σ : List Nat) : Bool := !(nodupB σ) || (okT n (ltS σ) (kas_sort n) && ((evT (ltS σ) (kas_sort n)).toList.map (σ.getD · 0) == List.range n) && (evT (ltS σ) (kas_sort n)).toList.all (decide <| · < n))
theorem sort2 : (allL 2 2).all (goodS 2) = true := by decide +kernel
theorem sort3 : (allL 3 3).all (goodS 3) = true := by decide +kernel
theorem sort4 : (allL 4 4).all (goodS 4) = true := by decide +kernel
theorem sort5 : (allL 5 5).all (goodS 5) = true := by decide +kernel
theorem lex_irrefl : ∀ xs : List Int, lexLt xs xs = false
  | [] => rfl
  | x :: xs => by rw [lex_cons, if_pos rfl]; exact lex_irrefl xs
theorem lex_trans : ∀ {xs ys zs : List Int}, lexLt xs ys = true → lexLt ys zs = true → lexLt xs zs = true
  | [], [], _, h, _ => by cases h
  | [], _ :: _, [], _, h => by rw [lex_nil_right] at h; cases h
  | [], _ :: _, _ :: _, _, _ => rfl
  | _ :: _, [], _, h, _ => by rw [lex_nil_right] at h; cases h
  | _ :: _, _ :: _, [], _, h => by rw [lex_nil_right] at h; cases h
  | x :: xs, y :: ys, z :: zs, h1, h2 => by
    rw [lex_cons] at *
    by_cases e1 : x = y
    · by_cases e2 : y = z
      · rw [if_pos e1] at h1; rw [if_pos e2] at h2
        rw [if_pos (e1.trans e2)]; exact lex_trans h1 h2
      · rw [if_neg e2] at h2
        rw [if_neg (fun q => e2 (e1 ▸ q)), e1]; exact h2
    · rw [if_neg e1] at h1
      have h1 := of_decide_eq_true h1
      by_cases e2 : y = z
      · rw [if_neg (fun q => e1 (q.trans e2.symm)), ← e2]; exact decide_eq_true h1
      · rw [if_neg e2] at h2
        have h2 := of_decide_eq_true h2
        rw [if_neg (by omega)]; exact decide_eq_true (by omega)
theorem lex_tri : ∀ {xs ys : List Int}, xs ≠ ys → lexLt xs ys = true ∨ lexLt ys xs = true
  | [], [], h => absurd rfl h
  | [], _ :: _, _ => .inl rfl
  | _ :: _, [], _ => .inr rfl
  | x :: xs, y :: ys, h => by
    rw [lex_cons, lex_cons]
    by_cases e : x = y
    · rw [if_pos e, if_pos e.symm]
      exact lex_tri fun q => h (by rw [e, q])
    · rw [if_neg e, if_neg (fun q => e q.symm)]
      rcases Int.lt_or_gt_of_ne e with h | h
      · exact .inl (decide_eq_true h)
      · exact .inr (decide_eq_true h)
theorem countP_le {α : Type} {p q : α → Bool} : ∀ {l : List α}, (∀ x ∈ l, p x = true → q x = true) → l.countP p ≤ l.countP q
  | [], _ => Nat.le_refl _
  | x :: l, h => by
    have ih := countP_le (l := l) fun y hy => h y (.tail _ hy)
    rw [List.countP_cons, List.countP_cons]
    have := h x (.head _)
    cases hp : p x with
    | false => simp; omega
    | true => rw [this hp]; simp; exact ih
theorem countP_lt {α : Type} {p q : α → Bool} : ∀ {l : List α} {a : α}, (∀ x ∈ l, p x = true → q x = true) → a ∈ l → p a = false → q a = true → l.countP p < l.countP q
  | x :: l, a, h, ha, hp, hq => by
    rw [List.countP_cons, List.countP_cons]
    rcases List.mem_cons.mp ha with rfl | ha
    · have := countP_le (l := l) fun y hy => h y (.tail _ hy)
      rw [hp, hq]; simp; omega
    · have ih := countP_lt (l := l) (fun y hy => h y (.tail _ hy)) ha hp hq
      have := h x (.head _)
      cases hpx : p x with
      | false => simp; omega
      | true => rw [this hpx]; simp; exact ih
def rankOf (keys : List (List Int)) (k : List Int) : Nat := keys.countP fun x => lexLt x k
theorem rank_lt {keys : List (List Int)} {a b : List Int} (ha : a ∈ keys) (h : lexLt a b = true) : rankOf keys a < rankOf keys b :=
  countP_lt (fun _ _ hx => lex_trans hx h) ha (lex_irrefl a) h
theorem rank_iff {keys : List (List Int)} {a b : List Int} (ha : a ∈ keys) (hb : b ∈ keys) : rankOf keys a < rankOf keys b ↔ lexLt a b = true := by
  refine ⟨fun h => ?_, rank_lt ha⟩
  by_cases e : a = b
  · rw [e] at h; exact absurd h (Nat.lt_irrefl _)
  · rcases lex_tri e with h' | h'
    · exact h'
    · have := rank_lt hb h'; omega
theorem rank_bound {keys : List (List Int)} {a : List Int} (ha : a ∈ keys) : rankOf keys a < keys.length := by
  have : keys.countP (fun x => lexLt x a) < keys.countP (fun _ => true) := countP_lt (fun _ _ _ => rfl) ha (lex_irrefl a) rfl
  simpa [rankOf] using this
theorem nodupB_of : ∀ {l : List Nat}, l.Nodup → nodupB l = true
  | [], _ => rfl
  | x :: l, h => by
    obtain ⟨h1, h2⟩ := List.nodup_cons.mp h
    show (!(l.any (· == x)) && nodupB l) = true
    rw [nodupB_of h2, Bool.and_true, Bool.not_eq_true', List.any_eq_false]
    intro y hy q
    rw [beq_iff_eq] at q
    exact h1 (q ▸ hy)
theorem good_small {n : Nat} (h2 : 2 ≤ n) (h5 : n ≤ 5) {σ : List Nat} (hl : σ.length = n) (hx : ∀ x ∈ σ, x < n) : goodS n σ = true := by
  have hm := mem_allL hl hx
  have : n = 2 ∨ n = 3 ∨ n = 4 ∨ n = 5 := by omega
  rcases this with rfl | rfl | rfl | rfl
  · exact List.all_eq_true.mp sort2 _ hm
  · exact List.all_eq_true.mp sort3 _ hm
  · exact List.all_eq_true.mp sort4 _ hm
  · exact List.all_eq_true.mp sort5 _ hm
theorem sort_perm {keys : List (List Int)} (hn : keys.Nodup) (h2 : 2 ≤ keys.length) (h5 : keys.length ≤ 5) :
    okT keys.length (fun i j => lexLt (keys.getD i []) (keys.getD j [])) (kas_sort keys.length) = true ∧
    (∀ i ∈ (evT (fun i j => lexLt (keys.getD i []) (keys.getD j [])) (kas_sort keys.length)).toList, i < keys.length) ∧
    (∀ i < keys.length, i ∈ (evT (fun i j => lexLt (keys.getD i []) (keys.getD j [])) (kas_sort keys.length)).toList) ∧
    (evT (fun i j => lexLt (keys.getD i []) (keys.getD j [])) (kas_sort keys.length)).toList.Pairwise fun i j => lexLt (keys.getD i []) (keys.getD j []) = true := by
  have hget : ∀ i, i < keys.length → keys.getD i [] ∈ keys := fun i hi => by
    rw [List.getD_eq_getElem?_getD, List.getElem?_eq_getElem hi]; exact List.getElem_mem hi
  have hinj : ∀ i j, i < keys.length → j < keys.length → keys.getD i [] = keys.getD j [] → i = j := fun i j hi hj e => by
    rw [List.getD_eq_getElem?_getD, List.getD_eq_getElem?_getD, List.getElem?_eq_getElem hi, List.getElem?_eq_getElem hj] at e
    exact (List.getElem?_inj hi hn).mp (by rw [List.getElem?_eq_getElem hi, List.getElem?_eq_getElem hj]; exact congrArg some e)
  let σ : List Nat := (List.range keys.length).map fun i => rankOf keys (keys.getD i [])
  have hσ : ∀ i, i < keys.length → σ.getD i 0 = rankOf keys (keys.getD i []) := fun i hi => by
    rw [List.getD_eq_getElem?_getD, List.getElem?_map, List.getElem?_range hi]; rfl
  have hlt : ∀ i j, i < keys.length → j < keys.length → ltS σ i j = lexLt (keys.getD i []) (keys.getD j []) := fun i j hi hj => by
    unfold ltS
    rw [hσ i hi, hσ j hj, Bool.eq_iff_iff, decide_eq_true_iff]
    exact rank_iff (hget i hi) (hget j hj)
  have hnd : σ.Nodup := by
    rw [List.nodup_iff_pairwise_ne, List.pairwise_map]
    refine List.Pairwise.imp_of_mem ?_ List.nodup_range
    intro i j hi hj hne e
    rw [List.mem_range] at hi hj
    have hk : keys.getD i [] ≠ keys.getD j [] := fun q => hne (hinj i j hi hj q)
    rcases lex_tri hk with h | h
    · have := rank_lt (hget i hi) h; omega
    · have := rank_lt (hget j hj) h; omega
  have hg := good_small h2 h5 (σ := σ) (by simp [σ]) (fun x hx => by
    obtain ⟨i, hi, rfl⟩ := List.mem_map.mp hx
    exact rank_bound (hget i (List.mem_range.mp hi)))
  unfold goodS at hg
  rw [nodupB_of hnd] at hg
  simp only [Bool.not_true, Bool.false_or, Bool.and_eq_true, beq_iff_eq, List.all_eq_true, decide_eq_true_eq] at hg
  obtain ⟨⟨g1, g2⟩, g3⟩ := hg
  obtain ⟨k1, k2⟩ := okT_congr hlt _ g1
  rw [k2]
  refine ⟨k1, g3, fun i hi => ?_, ?_⟩
  · have hr : rankOf keys (keys.getD i []) < keys.length := rank_bound (hget i hi)
    have : rankOf keys (keys.getD i []) ∈ List.range keys.length := List.mem_range.mpr hr
    rw [← g2] at this
    obtain ⟨j, hj, e⟩ := List.mem_map.mp this
    have hjn := g3 j hj
    rw [hσ j hjn] at e
    have : i = j := by
      refine hinj i j hi hjn ?_
      by_cases q : keys.getD i [] = keys.getD j []
      · exact q
      · rcases lex_tri q with h | h
        · have := rank_lt (hget i hi) h; omega
        · have := rank_lt (hget j hjn) h; omega
    rw [this]; exact hj
  · have hp : ((evT (ltS σ) (kas_sort keys.length)).toList.map (σ.getD · 0)).Pairwise (· < ·) := by rw [g2]; exact List.pairwise_lt_range
    rw [List.pairwise_map] at hp
    refine List.Pairwise.imp_of_mem ?_ hp
    intro i j hi hj h
    have := hlt i j (g3 i hi) (g3 j hj)
    rw [← this]; exact decide_eq_true h
end Mine
end
section
open Lean Elab Tactic Meta PySem PySem.W PySem.Calls PyProof.Rows PyProof.V PySem.Builtin PySem.SeqAt
open MeetsSeq MeetsSeq2 MeetsSeq3 SeqRoads2
namespace Mine
set_option maxRecDepth 100000
/-! sorted rows: a row is a tuple of a list of ints and two texts -/
abbrev WRow := List Int × Str × Str
def WRowIn (led : List (Addr × Obj)) (v : Value) (r : WRow) : Prop := ∃ ra ka kv kn t u, v = .ref ra ∧ (ra, tupO [.ref ka, .str r.2.1 t, .str r.2.2 u]) ∈ led ∧ (ka, listOf kv.toArray kn) ∈ led ∧ IntsAre kv r.1
inductive WRowsIn (led : List (Addr × Obj)) : List Value → List WRow → Prop
  | nil : WRowsIn led [] []
  | cons {v : Value} {r : WRow} {vs : List Value} {rs : List WRow} : WRowIn led v r → WRowsIn led vs rs → WRowsIn led (v :: vs) (r :: rs)
theorem WRowIn.mono {a b : List (Addr × Obj)} {v : Value} {r : WRow} (h : WRowIn a v r) (k : ∀ p ∈ a, p ∈ b) : WRowIn b v r := by
  obtain ⟨ra, ka, kv, kn, t, u, e, h1, h2, h3⟩ := h
  exact ⟨ra, ka, kv, kn, t, u, e, k _ h1, k _ h2, h3⟩
theorem wrows_mono {a b : List (Addr × Obj)} (k : ∀ p ∈ a, p ∈ b) : ∀ {vs : List Value} {rows : List WRow}, WRowsIn a vs rows → WRowsIn b vs rows
  | _, _, .nil => .nil
  | _, _, .cons h r => .cons (h.mono k) (wrows_mono k r)
theorem wrows_len {a : List (Addr × Obj)} : ∀ {vs : List Value} {rows : List WRow}, WRowsIn a vs rows → vs.length = rows.length
  | _, _, .nil => rfl
  | _, _, .cons _ r => congrArg (· + 1) (wrows_len r)
theorem wrows_at {a : List (Addr × Obj)} : ∀ {vs : List Value} {rows : List WRow}, WRowsIn a vs rows → ∀ {i : Nat} {r : WRow}, rows[i]? = some r → ∃ v, vs[i]? = some v ∧ WRowIn a v r
  | _, _, .nil, _, _, h => by simp at h
  | _, _, .cons (v := v) h _, 0, _, e => ⟨v, rfl, by have e' := Option.some.inj e; rw [← e']; exact h⟩
  | _, _, .cons _ h, i + 1, _, e => by simpa using wrows_at h (i := i) (by simpa using e)
theorem wrows_app {a : List (Addr × Obj)} : ∀ {vs us : List Value} {rows rs : List WRow}, WRowsIn a vs rows → WRowsIn a us rs → WRowsIn a (vs ++ us) (rows ++ rs)
  | _, _, _, _, .nil, h => h
  | _, _, _, _, .cons h r, k => .cons h (wrows_app r k)
theorem rdAll_ints : ∀ {led : List (Addr × Obj)} {vs : List Value} {ws : List Int}, IntsAre vs ws → RdAll led vs (ws.map PyData.int)
  | _, _, _, .nil => rdAll_nil
  | _, _, _, .cons y t r => rdAll_cons (rd_int y t) (rdAll_ints r)
theorem plain_ints (ws : List Int) : plainD (.list (ws.map PyData.int)) = true := by
  rw [plainD]; exact plainAll_of fun d hd => by obtain ⟨x, hx, rfl⟩ := List.mem_map.mp hd; rw [plainD]
theorem depth_ints (ws : List Int) : PyData.depth (.list (ws.map PyData.int)) ≤ 1 := by
  rw [PyData.depth]
  have := depthAll_le (ds := ws.map PyData.int) (k := 0) fun d hd => by obtain ⟨x, hx, rfl⟩ := List.mem_map.mp hd; rw [PyData.depth]; exact Nat.le_refl _
  omega
section
variable {prog : Program} {w : World} {A : Around} {E : Value → Shared → Prop} {s : Shared} {h₀ : Heap} {L l : Addr} {m : Str → Option Value} {led : List (Addr × Obj)} {vs : List Value} {n : Nat} {rows : List WRow}
theorem wrow_lt {C : Bool → Shared → Prop} {i j : Nat} {ri rj : WRow} {vi vj : Value} (N : News h₀ L s.heap led) (hi : WRowIn led vi ri) (hj : WRowIn led vj rj) (hv : vs.getD i Value.none = vi) (hv' : vs.getD j Value.none = vj) (he : ri.1 = rj.1 → ri = rj) (hu : A.units + 64 < cLine) (h : C (lexLt ri.1 rj.1) s) :
    kas_ask prog w A (tuples' true) vs i j C s := by
  unfold kas_ask
  rw [hv, hv']
  obtain ⟨ra, ka, kv, kn, t, u, rfl, h1, h2, h3⟩ := hi
  obtain ⟨rb, kb, kw, km, t', u', rfl, h1', h2', h3'⟩ := hj
  have hu0 : A.units < cLine := by omega
  refine kat_lt (N _ h1).1 rfl (N _ h1').1 rfl ?_
  obtain ⟨as, r⟩ := rd_list h2 (rdAll_ints h3) s.heap fun p hp => (N p hp).1
  obtain ⟨bs, r'⟩ := rd_list h2' (rdAll_ints h3') s.heap fun p hp => (N p hp).1
  have heq := eqAt_reads _ _ A s _ _ _ _ r r' (plain_canLay _ (plain_ints _)) (plain_canLay _ (plain_ints _)) (by
    have := Nat.min_le_left (PyData.depth (.list (ri.1.map PyData.int))) (PyData.depth (.list (rj.1.map PyData.int)))
    have := depth_ints ri.1; omega)
  refine kat_cons (heq prog w _ _ ?_)
  by_cases e : ri.1 = rj.1
  · have hrr := he e
    subst hrr
    rw [(plain_eqv (plain_ints _) (plain_ints _)).mpr rfl]
    rw [lex_irrefl] at h
    refine kat_yes (kat_cons ((EqGives.str _ _ _ _).at A s prog w _ _ ?_))
    rw [beq_self_eq_true]
    refine kat_yes (kat_cons ((EqGives.str _ _ _ _).at A s prog w _ _ ?_))
    rw [beq_self_eq_true]
    exact kat_yes (kat_nil h)
  · have hf : PyData.eqv (.list (ri.1.map PyData.int)) (.list (rj.1.map PyData.int)) = false := by
      rw [Bool.eq_false_iff]
      intro q
      rw [plain_eqv (plain_ints _) (plain_ints _)] at q
      have q := PyData.list.inj q
      exact e ((List.map_inj_right (fun a b hab => by injection hab)).mp q)
    rw [hf]
    exact kat_no (oneLt_list (N _ h2).1 (N _ h2').1 h3 h3' hu0 h)
def Sorted (keys : List (List Int)) (p : List Nat) : Prop := (∀ i ∈ p, i < keys.length) ∧ (∀ i < keys.length, i ∈ p) ∧ p.Pairwise fun i j => lexLt (keys.getD i []) (keys.getD j []) = true
theorem wrows_tups {led : List (Addr × Obj)} {h : Heap} (hh : ∀ p ∈ led, h.get? p.1 = some p.2) : ∀ {vs : List Value} {rows : List WRow}, WRowsIn led vs rows → ∃ fs, KatTups h vs fs ∧ fs.length = vs.length ∧ ∀ f ∈ fs, ∃ a kv kn, f = .ref a ∧ h.get? a = some (listOf kv kn)
  | _, _, .nil => ⟨[], KatTups.nil, rfl, fun f hf => nomatch hf⟩
  | _, _, .cons ⟨ra, ka, kv, kn, t, u, e, h1, h2, h3⟩ r => by
    obtain ⟨fs, k1, k2, k3⟩ := wrows_tups hh r
    subst e
    refine ⟨.ref ka :: fs, KatTups.cons (hh _ h1) rfl rfl rfl k1, by simp [k2], fun f hf => ?_⟩
    rcases List.mem_cons.mp hf with rfl | hf
    · exact ⟨ka, _, kn, rfl, hh _ h2⟩
    · exact k3 f hf
theorem sorted_many {Q : Value → Shared → Prop} (F : Fr h₀ L s.heap m) (N : News h₀ L s.heap led) (hl : (l, listOf vs.toArray n) ∈ led) (hr : WRowsIn led vs rows) (hn : (rows.map (·.1)).Nodup) (h2 : 2 ≤ rows.length) (h5 : rows.length ≤ 5) (hu : A.units + 100 < cLine)
    (hQ : ∀ D c h' p, Fr h₀ L h' m → News h₀ L h' ((D, listOf (p.map fun i => vs.getD i Value.none).toArray c) :: led) → (∀ q ∈ led, q.1 < D) → Sorted (rows.map (·.1)) p → Q (.ref D) { s with heap := h' }) :
    wpAny (model prog w) A (call (.builtin "sorted") [.ref l]) Q E s := by
  have hlen := wrows_len hr
  refine kat_sorted F N (PySem.IsL.isList (n := n) (N _ hl).1) (by omega) (by omega) fun D e1 h' F' N' hD => ?_
  obtain ⟨fs, k1, k2, k3⟩ := wrows_tups (fun p hp => (N' p (.tail _ hp)).1) hr
  refine kat_kind (T := .type "list") k1 (by omega) (fun v hv => ?_) (by decide) ?_
  · obtain ⟨a, kv, kn, rfl, ha⟩ := k3 v hv
    exact (show Looks (model prog w) h' (typeOf (.ref a)) (listOf kv kn).cls from (Looks.ld ha).andThen .now)
  obtain ⟨g1, g2, g3, g4⟩ := sort_perm hn (by simpa using h2) (by simpa using h5)
  have hkl : (rows.map (·.1)).length = vs.length := by simp [hlen]
  rw [hkl] at g1 g2 g3 g4
  have hat : ∀ i, i < vs.length → ∃ r, rows[i]? = some r ∧ (rows.map (·.1)).getD i [] = r.1 ∧ WRowIn led (vs.getD i Value.none) r := fun i hi => by
    have hi' : i < rows.length := by omega
    obtain ⟨v, hv, hw⟩ := wrows_at hr (i := i) (r := rows[i]) (by simp [hi'])
    refine ⟨rows[i], by simp [hi'], by simp [hi'], ?_⟩
    rw [List.getD_eq_getElem?_getD, hv]; exact hw
  refine kasWp_ev (n := vs.length) (lt := fun i j => lexLt ((rows.map (·.1)).getD i []) ((rows.map (·.1)).getD j [])) (fun i j C hi hj hC => ?_) _ _ g1 ?_
  · obtain ⟨ri, e1, e2, e3⟩ := hat i hi
    obtain ⟨rj, e1', e2', e3'⟩ := hat j hj
    rw [e2, e2'] at hC
    refine wrow_lt (led := led) (fun p hp => N' p (.tail _ hp)) e3 e3' rfl rfl (fun q => ?_) (by show A.units + 1 + 1 + 64 < cLine; omega) hC
    have : i = j := by
      have hi2 : i < (rows.map (·.1)).length := by rw [hkl]; exact hi
      refine (List.getElem?_inj hi2 hn).mp ?_
      rw [List.getElem?_map, List.getElem?_map, e1, e1']
      exact congrArg some q
    subst this
    rw [e1] at e1'; exact Option.some.inj e1'
  · refine KasFin.intro F' N' (UpdF.head fun p hp => Nat.ne_of_lt (hD p hp)) fun h'' c F'' N'' => ?_
    exact hQ D c h'' _ F'' N'' hD ⟨fun i hi => by rw [hkl]; exact g2 i hi, fun i hi => g3 i (by rw [hkl] at hi; exact hi), g4⟩
theorem sorted_one {v : Value} {Q : Value → Shared → Prop} (F : Fr h₀ L s.heap m) (N : News h₀ L s.heap led) (hl : (l, listOf [v].toArray n) ∈ led)
    (hQ : ∀ D c h', Fr h₀ L h' m → News h₀ L h' ((D, listOf [v].toArray c) :: led) → (∀ q ∈ led, q.1 < D) → Q (.ref D) { s with heap := h' }) :
    wpAny (model prog w) A (call (.builtin "sorted") [.ref l]) Q E s := by
  have hl' : s.heap.IsList l [v].toArray := PySem.IsL.isList (n := n) (N _ hl).1
  refine Calls.call_function_entry kind_sorted plain_sorted entry_sorted (args_sorted1 _) ?_
  unfold Builtin.«sorted»
  refine wpAny_bind (m := checkCount "sorted" 1 1 _) (wpAny_pure ?_)
  refine wpAny_bind (collect_list hl' ?_ (by rw [sizeLine_eq]; simp))
  refine wpAny_bind (wpAny_newList ?_ (by rw [sizeLine_eq]; simp))
  have hsz : ((s.heap.push (seqObj "list" #[] 0)).update s.heap.objs.size (Obj.mapSeq (· ++ [v].toArray))).objs.size = s.heap.objs.size + 1 := by
    rw [Heap.size_update, size_push']
  have hoL : (((s.heap.push (seqObj "list" #[] 0)).update s.heap.objs.size (Obj.mapSeq (· ++ [v].toArray))).push (seqObj "list" [v].toArray 0)).get? (s.heap.objs.size + 1) = some (seqObj "list" [v].toArray 0) := by
    rw [← hsz]; exact Heap.get?_push_size _ rfl
  have keep : ∀ b o, s.heap.get? b = some o → (((s.heap.push (seqObj "list" #[] 0)).update s.heap.objs.size (Obj.mapSeq (· ++ [v].toArray))).push (seqObj "list" [v].toArray 0)).get? b = some o := fun b o q => by
    have hlt : b < s.heap.objs.size := Heap.lt_size q
    rw [Heap.get?_push_ne _ _ _ (by rw [hsz]; exact Nat.ne_of_lt (Nat.lt_succ_of_lt hlt)), Heap.get?_update_ne _ _ _ _ (Nat.ne_of_lt hlt), Heap.get?_push_ne _ _ _ (Nat.ne_of_lt hlt)]
    exact q
  have hL : L < s.heap.objs.size := F.ns.lt
  show wpAny _ _ _ _ _ { s with heap := ((s.heap.push (seqObj "list" #[] 0)).update s.heap.objs.size (Obj.mapSeq (· ++ [v].toArray))).push (seqObj "list" [v].toArray 0) }
  rw [hsz]
  refine wpAny_bind (wpAny_holding (wpAny_call_entry slot_list_sort ⟨_, hoL, rfl⟩ entry_list_sort ?body (args_list_sort _)))
  case body =>
    generalize hH : ((s.heap.push (seqObj "list" #[] 0)).update s.heap.objs.size (Obj.mapSeq (· ++ [v].toArray))).push (seqObj "list" [v].toArray 0) = H at *
    have FH : Fr h₀ L H m := F.kept keep
    have NH : News h₀ L H led := N.grown keep
    have hnew : h₀.get? (s.heap.objs.size + 1) = none := Heap.get?_none_of_le (Nat.le_trans F.above (Nat.le_succ_of_le (Nat.le_of_lt hL)))
    have hLne : s.heap.objs.size + 1 ≠ L := Nat.ne_of_gt (Nat.lt_succ_of_lt hL)
    have hoff : ∀ q ∈ led, q.1 < s.heap.objs.size + 1 := fun q hq => Nat.lt_succ_of_lt (Heap.lt_size (N q hq).1)
    have hHlt : s.heap.objs.size + 1 < H.objs.size := Heap.lt_size hoL
    rw [list_sort_plain]
    refine wpAny_bind (listItems_at hoL rfl ?_)
    refine wpAny_bind (listUpdate_at hoL rfl ?_ (by rw [sizeLine_eq]; simp) (Nat.zero_le _))
    obtain ⟨e1, ho1⟩ : ∃ e1, (H.update (s.heap.objs.size + 1) (Obj.mapSeq fun _ => (#[] : Array Value))).get? (s.heap.objs.size + 1) = some (seqObj "list" #[] e1) := ⟨_, get?_update_seq hoL fun _ => #[]⟩
    refine wpAny_bind (seqEpoch_at ho1 rfl ?_)
    refine wpAny_bind (wpAny_newTuple ?_ (by rw [sizeLine_eq]; simp))
    refine wpAny_bind (wpAny_newList ?_ (Nat.zero_le _))
    refine wpAny_holding ?_
    have s1 := Heap.SameBut.update H (s.heap.objs.size + 1) (Obj.mapSeq fun _ => (#[] : Array Value))
    have F1 := kas_fr FH s1 hLne hnew
    have N1 := kas_news NH s1 fun p hp => Nat.ne_of_lt (hoff p hp)
    show wpAny (model prog w) _ _ _ E { s with heap := ((H.update (s.heap.objs.size + 1) (Obj.mapSeq fun _ => (#[] : Array Value))).push (seqObj "tuple" [v].toArray 0)).push (seqObj "list" #[] 0) }
    dsimp only
    have F2 := (F1.push (seqObj "tuple" [v].toArray 0)).push (seqObj "list" #[] 0)
    have N2 : News h₀ L (((H.update (s.heap.objs.size + 1) (Obj.mapSeq fun _ => (#[] : Array Value))).push (seqObj "tuple" [v].toArray 0)).push (seqObj "list" #[] 0)) led := N1.grown fun b x e => Heap.get?_push_of_some _ (Heap.get?_push_of_some _ e)
    have ho2 : (((H.update (s.heap.objs.size + 1) (Obj.mapSeq fun _ => (#[] : Array Value))).push (seqObj "tuple" [v].toArray 0)).push (seqObj "list" #[] 0)).get? (s.heap.objs.size + 1) = some (seqObj "list" #[] e1) := Heap.get?_push_of_some _ (Heap.get?_push_of_some _ ho1)
    generalize hH2 : ((H.update (s.heap.objs.size + 1) (Obj.mapSeq fun _ => (#[] : Array Value))).push (seqObj "tuple" [v].toArray 0)).push (seqObj "list" #[] 0) = H2 at *
    have h12 : [v].toArray.size < 2 := by simp
    rw [if_pos h12, if_pos h12]
    refine wpAny_bind (wpAny_pure ?_)
    rw [StateT.run_pure]
    refine wpAny_bind (wpAny_pure ?_)
    dsimp only
    refine wpAny_bind (seqEpoch_at ho2 rfl ?_)
    have hout : (arrOf (SortSt.mk' general' ([v].toArray.zip [v].toArray) #[] 7 none)).map (·.2) = [v].toArray := by
      show ([v].toArray.zip [v].toArray).map (·.2) = [v].toArray
      simp
    rw [hout]
    refine wpAny_bind (listUpdate_at ho2 rfl ?_ (Nat.zero_le _) (by rw [sizeLine_eq]; simp))
    have s2 := Heap.SameBut.update H2 (s.heap.objs.size + 1) (Obj.mapSeq fun _ => [v].toArray)
    obtain ⟨c2, hc2⟩ : ∃ c2, (H2.update (s.heap.objs.size + 1) (Obj.mapSeq fun _ => [v].toArray)).get? (s.heap.objs.size + 1) = some (seqObj "list" [v].toArray c2) := ⟨_, get?_update_seq ho2 fun _ => [v].toArray⟩
    simp only [bne_self_eq_false, Bool.false_eq_true, if_false]
    refine wpAny_pure ⟨_, rfl, wpAny_pure ⟨_, rfl, hQ _ c2 _ (kas_fr F2 s2 hLne hnew) (fun q hq => ?_) hoff⟩⟩
    rcases List.mem_cons.mp hq with rfl | hq
    · exact ⟨hc2, hLne, hnew⟩
    · exact kas_news N2 s2 (fun p hp => Nat.ne_of_lt (hoff p hp)) q hq
end
end Mine
end
section
open PySem PySem.W PySem.Calls PyProof.Rows
namespace Mine
set_option maxRecDepth 100000
/-! the automaton's fails, in plain words -/
def ends : List Str → List (List Str)
  | [] => [[]]
  | x :: l => (x :: l) :: ends l
theorem ends_nil : ends [] = [[]] := rfl
theorem ends_cons (x : Str) (l : List Str) : ends (x :: l) = (x :: l) :: ends l := rfl
theorem ends_le : ∀ {l q : List Str}, q ∈ ends l → q.length ≤ l.length
  | [], q, h => by rw [List.mem_singleton.mp h]; exact Nat.le_refl _
  | x :: l, q, h => by
    rcases List.mem_cons.mp h with rfl | h
    · exact Nat.le_refl _
    · exact Nat.le_succ_of_le (ends_le h)
/-- the longest end of a path, shorter than itself, that is a path -/
def fo (P : List (List Str)) (p : List Str) : List Str := ((ends p.tail).find? fun q => decide (q ∈ P)).getD []
/-- the longest end q of t with q ++ [x] a path, then that; else nothing -/
def best (P : List (List Str)) (t : List Str) (x : Str) : List Str := (((ends t).find? fun q => decide (q ++ [x] ∈ P)).map (· ++ [x])).getD []
theorem tails_snoc (l : List Str) (x : Str) : ends (l ++ [x]) = (ends l).map (· ++ [x]) ++ [[]] := by
  induction l with
  | nil => rfl
  | cons y l ih => rw [List.cons_append, ends_cons, ih, ends_cons]; rfl
theorem fo_snoc {P : List (List Str)} {p : List Str} (hp : p ≠ []) (x : Str) : fo P (p ++ [x]) = best P p.tail x := by
  unfold fo best
  cases p with
  | nil => exact absurd rfl hp
  | cons y p =>
    rw [List.cons_append, List.tail_cons, List.tail_cons, tails_snoc, List.find?_append, List.find?_map]
    show (Option.or (Option.map (fun q => q ++ [x]) (List.find? (fun q => decide (q ++ [x] ∈ P)) (ends p))) (List.find? (fun q => decide (q ∈ P)) [[]])).getD [] = _
    cases List.find? (fun q => decide (q ++ [x] ∈ P)) (ends p) with
    | some q => rfl
    | none =>
      show (List.find? (fun q => decide (q ∈ P)) [[]]).getD [] = []
      rw [List.find?_cons]
      split <;> rfl
theorem find_drop {P : List (List Str)} (hc : ∀ q x, q ++ [x] ∈ P → q ∈ P) (h0 : [] ∈ P) (x : Str) : ∀ t : List Str, best P t x = best P (((ends t).find? fun q => decide (q ∈ P)).getD []) x
  | [] => by
    rw [ends_nil, List.find?_cons]
    simp [h0]
  | y :: t => by
    rw [ends_cons, List.find?_cons]
    by_cases h : y :: t ∈ P
    · rw [decide_eq_true h]; rfl
    · rw [decide_eq_false h]
      have hx : y :: t ++ [x] ∉ P := fun q => h (hc _ _ q)
      have e : best P (y :: t) x = best P t x := by
        unfold best
        rw [ends_cons, List.find?_cons, decide_eq_false hx]
      rw [e]; exact find_drop hc h0 x t
theorem best_fo {P : List (List Str)} (hc : ∀ q x, q ++ [x] ∈ P → q ∈ P) (h0 : [] ∈ P) (p : List Str) (x : Str) : best P p.tail x = best P (fo P p) x := find_drop hc h0 x p.tail
theorem best_hit {P : List (List Str)} {s : List Str} {x : Str} (h : s ++ [x] ∈ P) : best P s x = s ++ [x] := by
  unfold best
  cases s with
  | nil => rw [ends_nil, List.find?_cons, decide_eq_true h]; rfl
  | cons y s => rw [ends_cons, List.find?_cons, decide_eq_true h]; rfl
theorem best_miss {P : List (List Str)} (hc : ∀ q x, q ++ [x] ∈ P → q ∈ P) (h0 : [] ∈ P) {s : List Str} {x : Str} (hs : s ≠ []) (h : s ++ [x] ∉ P) : best P s x = best P (fo P s) x := by
  rw [← best_fo hc h0]
  cases s with
  | nil => exact absurd rfl hs
  | cons y s =>
    unfold best
    rw [ends_cons, List.find?_cons, decide_eq_false h]; rfl
theorem best_nil {P : List (List Str)} {x : Str} (h : [x] ∉ P) : best P [] x = [] := by
  unfold best
  rw [ends_nil, List.find?_cons, decide_eq_false (by simpa using h)]; rfl
theorem fo_mem {P : List (List Str)} (h0 : [] ∈ P) (p : List Str) : fo P p ∈ P := by
  unfold fo
  cases h : (ends p.tail).find? fun q => decide (q ∈ P) with
  | none => exact h0
  | some q => have := List.find?_some h; simpa using this
theorem fo_lt {P : List (List Str)} {p : List Str} (hp : p ≠ []) : (fo P p).length < p.length := by
  cases p with
  | nil => exact absurd rfl hp
  | cons y p =>
    unfold fo
    cases h : (ends (y :: p).tail).find? fun q => decide (q ∈ P) with
    | none => simp
    | some q =>
      have hm := List.mem_of_find?_eq_some h
      rw [List.tail_cons] at hm
      have := ends_le hm
      simp only [Option.getD_some, List.length_cons]; omega
theorem fo_one {P : List (List Str)} (x : Str) : fo P [x] = [] := by
  unfold fo
  rw [List.tail_cons, ends_nil, List.find?_cons]
  split <;> rfl
end Mine
end
section
open PySem PySem.W PySem.Calls PyProof.Rows PyProof.V
namespace Mine
set_option maxRecDepth 100000
/-! the automaton's state on the heap -/
def failV (nilA : Addr) (nd : List Nd) : Option Nat → Value
  | none => .ref nilA
  | some k => .ref (adOf nd k)
/-- a node's dict: its children, and at the root the known words that are no child of it, back to the root -/
def kvsR (nd : List Nd) (P : List (List Str)) (ex : List Str) (p : List Str) : List (Str × Value) := kvsOf nd P p ++ if p = [] then ex.map (fun t => (t, Value.ref (adOf nd 0))) else []
theorem valueAt_app (a b : List (Str × Value)) (x : Str) : valueAt (a ++ b) x = (valueAt a x).or (valueAt b x) := by
  unfold valueAt
  rw [List.find?_append]
  cases List.find? (fun kv => decide (kv.1 = x)) a <;> rfl
theorem valueAt_ex (ex : List Str) (r : Value) (x : Str) : valueAt (ex.map fun t => (t, r)) x = if x ∈ ex then some r else none := by
  unfold valueAt
  induction ex with
  | nil => rfl
  | cons y ex ih =>
    rw [List.map_cons, List.find?_cons]
    by_cases h : y = x
    · subst h; simp
    · rw [decide_eq_false (by simpa using h)]
      show Option.map _ (List.find? _ (List.map _ ex)) = _
      rw [ih]
      have : (x ∈ y :: ex) ↔ x ∈ ex := by rw [List.mem_cons]; exact ⟨fun q => q.elim (fun e => absurd e.symm h) id, .inr⟩
      simp only [this]
theorem valueR_child {nd : List Nd} {P : List (List Str)} {ex : List Str} {p : List Str} {x : Str} {i : Nat} (hn : P.Nodup) (h : P[i]? = some (p ++ [x])) : valueAt (kvsR nd P ex p) x = some (.ref (adOf nd i)) := by
  unfold kvsR; rw [valueAt_app, value_some hn h]; rfl
theorem valueR_none {nd : List Nd} {P : List (List Str)} {ex : List Str} {p : List Str} {x : Str} (hp : p ≠ []) (h : p ++ [x] ∉ P) : valueAt (kvsR nd P ex p) x = none := by
  unfold kvsR; rw [valueAt_app, value_none h, if_neg hp]; rfl
theorem valueR_root {nd : List Nd} {P : List (List Str)} {ex : List Str} {x : Str} (h : [x] ∉ P) : valueAt (kvsR nd P ex []) x = if x ∈ ex then some (.ref (adOf nd 0)) else none := by
  unfold kvsR; rw [valueAt_app, value_none (p := []) (by simpa using h), if_pos rfl, valueAt_ex]; rfl
structure AutI (prog : Program) (w : World) (nilA : Addr) (nd ndA : List Nd) (P : List (List Str)) (ex : List Str) (f : Nat → Option Nat) : Prop where
  same : Same nd ndA
  keep : ∀ (i : Nat) (n n' : Nd), nd[i]? = some n → ndA[i]? = some n' → n'.tok = n.tok ∧ n'.out = n.out
  dict : ∀ (i : Nat) (n : Nd) (p : List Str), ndA[i]? = some n → P[i]? = some p → n.oc.IsDictOf (strKind prog w) (kvsR nd P ex p)
  fail : ∀ (i : Nat) (n : Nd), ndA[i]? = some n → n.fail = failV nilA nd (f i)
variable {prog : Program} {w : World} {nilA : Addr} {nd ndA : List Nd} {P : List (List Str)} {ex : List Str} {f : Nat → Option Nat}
theorem AutI.start (hn : NodesOk prog w nd P) (hf : ∀ (i : Nat) (n : Nd), nd[i]? = some n → n.fail = .ref nilA) : AutI prog w nilA nd nd P [] fun _ => none := by
  refine ⟨rfl, fun i n n' h h' => ?_, fun i n p h hp => ?_, fun i n h => hf i n h⟩
  · rw [h] at h'; cases h'; exact ⟨rfl, rfl⟩
  · have := hn.dict i n p h hp
    unfold kvsR
    split
    · simpa using this
    · simpa using this
theorem AutI.setFail {j k : Nat} {n : Nd} (h : AutI prog w nilA nd ndA P ex f) (hj : ndA[j]? = some n) : AutI prog w nilA nd (ndA.set j { n with fail := .ref (adOf nd k) }) P ex fun i => if i = j then some k else f i := by
  have hlt := (List.getElem?_eq_some_iff.mp hj).1
  have hs : Same ndA (ndA.set j { n with fail := .ref (adOf nd k) }) := same_set hj _ rfl
  have at_ : ∀ {i : Nat} {m : Nd}, (ndA.set j { n with fail := .ref (adOf nd k) })[i]? = some m → (i = j ∧ m = { n with fail := .ref (adOf nd k) }) ∨ (i ≠ j ∧ ndA[i]? = some m) := fun {i m} hm => by
    by_cases e : i = j
    · subst e
      rw [List.getElem?_set_self hlt] at hm
      exact .inl ⟨rfl, (Option.some.inj hm).symm⟩
    · rw [List.getElem?_set_ne (Ne.symm e)] at hm
      exact .inr ⟨e, hm⟩
  refine ⟨hs.trans h.same, fun i a b ha hb => ?_, fun i m p hm hp => ?_, fun i m hm => ?_⟩
  · rcases at_ hb with ⟨rfl, rfl⟩ | ⟨_, hb⟩
    · exact h.keep i a n ha hj
    · exact h.keep i a b ha hb
  · rcases at_ hm with ⟨rfl, rfl⟩ | ⟨_, hm⟩
    · exact h.dict i n p hj hp
    · exact h.dict i m p hm hp
  · rcases at_ hm with ⟨rfl, rfl⟩ | ⟨e, hm⟩
    · rw [if_pos rfl]; rfl
    · rw [if_neg e]; exact h.fail i m hm
theorem AutI.setRoot {n : Nd} {oc' : Obj} {t : Str} (h : AutI prog w nilA nd ndA P ex f) (hj : ndA[0]? = some n) (h0 : P[0]? = some []) (hnP : P.Nodup) (hd : oc'.IsDictOf (strKind prog w) (kvsR nd P (ex ++ [t]) [])) : AutI prog w nilA nd (ndA.set 0 { n with oc := oc' }) P (ex ++ [t]) f := by
  have hlt := (List.getElem?_eq_some_iff.mp hj).1
  have hs : Same ndA (ndA.set 0 { n with oc := oc' }) := same_set hj _ rfl
  have at_ : ∀ {i : Nat} {m : Nd}, (ndA.set 0 { n with oc := oc' })[i]? = some m → (i = 0 ∧ m = { n with oc := oc' }) ∨ (i ≠ 0 ∧ ndA[i]? = some m) := fun {i m} hm => by
    by_cases e : i = 0
    · subst e
      rw [List.getElem?_set_self hlt] at hm
      exact .inl ⟨rfl, (Option.some.inj hm).symm⟩
    · rw [List.getElem?_set_ne (Ne.symm e)] at hm
      exact .inr ⟨e, hm⟩
  refine ⟨hs.trans h.same, fun i a b ha hb => ?_, fun i m p hm hp => ?_, fun i m hm => ?_⟩
  · rcases at_ hb with ⟨rfl, rfl⟩ | ⟨_, hb⟩
    · exact h.keep 0 a n ha hj
    · exact h.keep i a b ha hb
  · rcases at_ hm with ⟨rfl, rfl⟩ | ⟨e, hm⟩
    · rw [h0] at hp; cases hp; exact hd
    · have hne : p ≠ [] := fun q => by
        subst q
        have hl := (List.getElem?_eq_some_iff.mp hp).1
        exact e ((List.getElem?_inj hl hnP).mp (hp.trans h0.symm))
      have := h.dict i m p hm hp
      unfold kvsR at this ⊢
      rw [if_neg hne] at this ⊢
      exact this
  · rcases at_ hm with ⟨rfl, rfl⟩ | ⟨_, hm⟩
    · exact h.fail 0 n hj
    · exact h.fail i m hm
theorem stored_root {ex : List Str} {t : Str} (h : [t] ∉ P) (h2 : t ∉ ex) : stored (kvsR nd P ex []) t (.ref (adOf nd 0)) = kvsR nd P (ex ++ [t]) [] := by
  have hv : valueAt (kvsR nd P ex []) t = none := by rw [valueR_root h, if_neg h2]
  have ha : (kvsR nd P ex []).any (fun kv => decide (kv.1 = t)) = false := by
    have := valueAt_isSome_eq_any (kvsR nd P ex []) t
    rw [hv] at this; exact this.symm
  unfold stored
  rw [if_neg (by rw [ha]; decide)]
  unfold kvsR
  simp
/-- one node's dict turned -/
theorem objs_dict {cN : Addr} {nd : List Nd} {j : Nat} {n : Nd} {oc' : Obj} {r l : List (Addr × Obj)} (hap : Apart (objsOf cN nd ++ r)) (hn : nd[j]? = some n) (hl : ∀ p ∈ objsOf cN nd ++ r, p ∈ l) :
    ∀ p ∈ objsOf cN (nd.set j { n with oc := oc' }) ++ r, p ∈ (n.c, oc') :: but n.c l := by
  obtain ⟨h1, h2, h3⟩ := apart_app.mp hap
  obtain ⟨e1, e2, e3⟩ := nd_ne (apart_of h1 hn)
  intro p hp
  have hmem : ∀ q ∈ n.objs cN, q ∈ objsOf cN nd := fun q hq => mem_objs.mpr ⟨j, n, hn, hq⟩
  rcases List.mem_append.mp hp with hp | hp
  · rcases objs_set h1 hn hp with hp | ⟨hp, hq⟩
    · unfold Nd.objs at hp
      simp only [List.mem_cons, List.not_mem_nil, or_false] at hp
      rcases hp with rfl | rfl | rfl
      · exact mem_put (hl _ (List.mem_append_left _ (hmem (n.a, nodeObj cN n) (.head _)))) e2
      · exact mem_put (hl _ (List.mem_append_left _ (hmem _ (.tail _ (.head _))))) e3
      · exact .head _
    · exact mem_put (hl _ (List.mem_append_left _ hp)) (hq (n.c, n.oc) (.tail _ (.tail _ (.head _))))
  · exact mem_put (hl _ (List.mem_append_right _ hp)) (h3 (n.c, n.oc) (hmem _ (.tail _ (.tail _ (.head _)))) p hp).symm
end Mine
end
section
open PySem PySem.W PySem.Calls PyProof.Rows PyProof.V
namespace Mine
set_option maxRecDepth 100000
/-! the queue of make_automaton: two levels, a at depth d, b below it -/
structure Bfs (P : List (List Str)) (f : Nat → Option Nat) (d : Nat) (a b : List Nat) : Prop where
  at_a : ∀ i ∈ a, ∃ p, P[i]? = some p ∧ p.length = d
  at_b : ∀ i ∈ b, ∃ p, P[i]? = some p ∧ p.length = d + 1
  low : ∀ (i : Nat) (p : List Str), P[i]? = some p → p ≠ [] → p.length ≤ d → f i = some (P.idxOf (fo P p))
  next : ∀ (i : Nat) (p : List Str), P[i]? = some p → p.length = d + 1 → (i ∈ b ∧ f i = some (P.idxOf (fo P p))) ∨ P.idxOf p.dropLast ∈ a
  root : f 0 = none
  pos : 1 ≤ d
section
variable {P : List (List Str)} {f : Nat → Option Nat} {d c : Nat} {a b : List Nat} {p : List Str}
theorem idx_get {P : List (List Str)} {p : List Str} (h : p ∈ P) : P[P.idxOf p]? = some p := by
  have h1 : P.idxOf p < P.length := List.idxOf_lt_length_of_mem h
  rw [List.getElem?_eq_getElem h1]; exact congrArg some (List.getElem_idxOf h1)
theorem idx_of {P : List (List Str)} (hn : P.Nodup) {j : Nat} {p : List Str} (h : P[j]? = some p) : P.idxOf p = j := by
  have hm : p ∈ P := List.mem_of_getElem? h
  have h2 := idx_get hm
  have h1 := (List.getElem?_eq_some_iff.mp h2).1
  exact (List.getElem?_inj h1 hn).mp (h2.trans h.symm)
theorem Bfs.shift (h : Bfs P f d [] b) (hc : ∀ q ∈ P, q.dropLast ∈ P) : Bfs P f (d + 1) b [] := by
  refine ⟨h.at_b, fun i hi => (nomatch hi), fun i p hp hne hl => ?_, fun i p hp hl => ?_, h.root, by omega⟩
  · by_cases e : p.length ≤ d
    · exact h.low i p hp hne e
    · rcases h.next i p hp (by omega) with h1 | h1
      · exact h1.2
      · cases h1
  · right
    have hm := hc p (List.mem_of_getElem? hp)
    have hi := idx_get hm
    rcases h.next _ _ hi (by rw [List.length_dropLast]; omega) with h1 | h1
    · exact h1.1
    · cases h1
/-- the fails behind i of the kids of a node -/
def fk (P : List (List Str)) (f : Nat → Option Nat) (ks : List (Str × Nat)) (q : Nat) : Option Nat := if q ∈ ks.map (·.2) then some (P.idxOf (fo P (P.getD q []))) else f q
theorem Bfs.pop (h : Bfs P f d (c :: a) b) (hn : P.Nodup) (hp : P[c]? = some p) (h0 : P[0]? = some []) : Bfs P (fk P f (kids P p)) d a (b ++ (kids P p).map (·.2)) := by
  have hpl : p.length = d := by
    obtain ⟨p', h1, h2⟩ := h.at_a c (.head _)
    rw [hp] at h1; cases h1; exact h2
  have hk : ∀ q ∈ (kids P p).map (·.2), ∃ x, P[q]? = some (p ++ [x]) := fun q hq => by
    obtain ⟨⟨x, j⟩, hx, rfl⟩ := List.mem_map.mp hq
    exact ⟨x, kids_mem hx⟩
  have hkl : ∀ q ∈ (kids P p).map (·.2), ∀ p', P[q]? = some p' → p'.length = d + 1 := fun q hq p' hp' => by
    obtain ⟨x, hx⟩ := hk q hq
    rw [hp'] at hx; cases hx; simp [hpl]
  refine ⟨fun i hi => h.at_a i (.tail _ hi), fun i hi => ?_, fun i p' hp' hne hl => ?_, fun i p' hp' hl => ?_, ?_, h.pos⟩
  · rcases List.mem_append.mp hi with hi | hi
    · exact h.at_b i hi
    · obtain ⟨x, hx⟩ := hk i hi
      exact ⟨_, hx, by simp [hpl]⟩
  · unfold fk
    rw [if_neg fun hq => by have := hkl i hq p' hp'; omega]
    exact h.low i p' hp' hne hl
  · by_cases hq : i ∈ (kids P p).map (·.2)
    · left
      refine ⟨List.mem_append_right _ hq, ?_⟩
      unfold fk
      rw [if_pos hq, List.getD_eq_getElem?_getD, hp']; rfl
    · rcases h.next i p' hp' hl with ⟨h1, h2⟩ | h1
      · left
        refine ⟨List.mem_append_left _ h1, ?_⟩
        unfold fk
        rw [if_neg hq]; exact h2
      · rcases List.mem_cons.mp h1 with h1 | h1
        · exfalso
          have hne : p' ≠ [] := fun e => by rw [e] at hl; simp at hl
          have hd : p'.dropLast = p := by
            have hlt : P.idxOf p'.dropLast < P.length := by rw [h1]; exact (List.getElem?_eq_some_iff.mp hp).1
            have hm : p'.dropLast ∈ P := List.idxOf_lt_length_iff.mp hlt
            have := idx_get hm
            rw [h1, hp] at this
            exact (Option.some.inj this).symm
          have he : p' = p ++ [p'.getLast hne] := by rw [← hd]; exact (List.dropLast_concat_getLast hne).symm
          rw [he] at hp'
          exact hq (List.mem_map.mpr ⟨_, kids_of hp', rfl⟩)
        · exact .inr h1
  · unfold fk
    rw [if_neg fun hq => by have := hkl 0 hq [] h0; simp at this]
    exact h.root
theorem Bfs.finish (h : Bfs P f d [] []) (hc : ∀ q ∈ P, ∀ k, q.take k ∈ P) : ∀ (i : Nat) (p : List Str), P[i]? = some p → p ≠ [] → f i = some (P.idxOf (fo P p)) := fun i p hp hne => by
  by_cases hl : p.length ≤ d
  · exact h.low i p hp hne hl
  · exfalso
    have hm := hc p (List.mem_of_getElem? hp) (d + 1)
    rcases h.next _ _ (idx_get hm) (by rw [List.length_take]; omega) with h1 | h1
    · exact absurd h1.1 (by simp)
    · cases h1
/-- what is left to do -/
def wt (P : List (List Str)) (i : Nat) : Nat := 21 ^ (3 - (P.getD i []).length)
def todo (P : List (List Str)) (l : List Nat) : Nat := (l.map (wt P)).sum
theorem todo_app (l m : List Nat) : todo P (l ++ m) = todo P l + todo P m := by unfold todo; rw [List.map_append, List.sum_append]
theorem len_todo (l : List Nat) : l.length ≤ todo P l := by
  induction l with
  | nil => exact Nat.zero_le _
  | cons i l ih =>
    have h1 : 0 < wt P i := Nat.pow_pos (by decide)
    unfold todo at *
    rw [List.map_cons, List.sum_cons, List.length_cons]; omega
theorem todo_le (l : List Nat) : (∀ i ∈ l, wt P i ≤ 441) → todo P l ≤ l.length * 441 := by
  induction l with
  | nil => intro _; exact Nat.zero_le _
  | cons i l ih =>
    intro h
    have h1 := ih fun j hj => h j (.tail _ hj)
    have h2 := h i (.head _)
    unfold todo at *
    rw [List.map_cons, List.sum_cons, List.length_cons, Nat.succ_mul]; omega
theorem todo_pop (hl : ∀ q ∈ P, q.length ≤ 3) (hP : P.length ≤ 20) (hp : P[c]? = some p) (l : List Nat) : todo P (l ++ (kids P p).map (·.2)) < todo P (c :: l) := by
  have e : todo P (c :: l) = wt P c + todo P l := by unfold todo; rw [List.map_cons, List.sum_cons]
  rw [todo_app, e]
  have hwc : wt P c = 21 ^ (3 - p.length) := by unfold wt; rw [List.getD_eq_getElem?_getD, hp]; rfl
  have hp3 := hl p (List.mem_of_getElem? hp)
  have hlen : (kids P p).length ≤ 20 := Nat.le_trans (kidsFrom_len P 0 p) hP
  have key : ∀ ks : List (Str × Nat), (∀ e ∈ ks, e ∈ kids P p) → (ks = [] ∨ p.length < 3) ∧ todo P (ks.map (·.2)) ≤ ks.length * 21 ^ (3 - (p.length + 1)) := by
    intro ks
    induction ks with
    | nil => intro _; exact ⟨.inl rfl, by simp [todo]⟩
    | cons y ks ih =>
      intro hm
      have hy := kids_mem (x := y.1) (j := y.2) (hm y (.head _))
      have h3 := hl _ (List.mem_of_getElem? hy)
      rw [List.length_append, List.length_singleton] at h3
      obtain ⟨-, ih2⟩ := ih fun e he => hm e (.tail _ he)
      have hw : wt P y.2 = 21 ^ (3 - (p.length + 1)) := by
        unfold wt
        rw [List.getD_eq_getElem?_getD, hy]
        simp
      refine ⟨.inr (by omega), ?_⟩
      unfold todo at ih2 ⊢
      rw [List.map_cons, List.map_cons, List.sum_cons, hw, List.length_cons, Nat.succ_mul]
      omega
  obtain ⟨h1, h2⟩ := key (kids P p) fun _ h => h
  rw [hwc]
  rcases h1 with h1 | h1
  · rw [h1]
    have : 0 < 21 ^ (3 - p.length) := Nat.pow_pos (by decide)
    simp only [List.map_nil, todo, List.sum_nil]; omega
  · have h4 : (kids P p).length * 21 ^ (3 - (p.length + 1)) ≤ 20 * 21 ^ (3 - (p.length + 1)) := Nat.mul_le_mul_right _ hlen
    have h5 : 21 ^ (3 - p.length) = 21 * 21 ^ (3 - (p.length + 1)) := by
      rw [show 3 - p.length = (3 - (p.length + 1)) + 1 by omega, Nat.pow_succ, Nat.mul_comm]
    have h6 : 0 < 21 ^ (3 - (p.length + 1)) := Nat.pow_pos (by decide)
    omega
end
end Mine
end
section
open PySem PySem.W PySem.Calls PyProof.Rows PyProof.V
namespace Mine
set_option maxRecDepth 100000
/-! a generator function: rules for the parts in which it is suspended -/
def kNext (rest : List Stmt) (env : Env) (K : Flow → Sem Fin) (H : Value → Sem Fin) (gd : Bool → Bool) (lv : List Value → List Value) : Flow → Sem Fin
  | .next => (execs rest env).wrap K H gd lv
  | f => K f
def kBack (env : Env) (K : Flow → Sem Fin) (H : Value → Sem Fin) (gd : Bool → Bool) (lv : List Value → List Value) : Result → Sem Fin := fun r =>
  ((match r with | .ok f => (.pure f : Sem Flow) | .error e => .raise e).onRaise fun (x : Value) => do
    if (← field x 1) == Value.none then unsupported "frame.own-activation:exception-without-traceback"
    setFlight x env.frame).wrap K H gd lv
def hNote (env : Env) : Value → Sem Fin := fun e => (do noteFrame e env; theTreesLotGoes e : Sem Unit).wrap (fun _ => .raise e) .raise id id
def kTurn (loop : Code) : Flow → Sem Fin
  | .next | .cont => .pure (.again loop)
  | .brk => .pure (.done .next)
  | .ret v => .pure (.done (.ret v))
section
variable {M : Model} {A : Around} {R : GenEnd} {Y : Protocol} {n : Nat} {s₀ : Shared} {c : Code} {fs : List Frame} {s : Shared} {env : Env}
  {K : Flow → Sem Fin} {H : Value → Sem Fin} {gd : Bool → Bool} {lv : List Value → List Value}
theorem seg_cons {st : Stmt} {rest : List Stmt} (h : Seg M A R Y n s₀ c ((exec st env).wrap (kNext rest env K H gd lv) H gd lv) fs s) :
    Seg M A R Y n s₀ c ((execs (st :: rest) env).wrap K H gd lv) fs s := by
  rw [execs_cons_wrap]
  rw [Sem.wrap_congr (exec st env) _ _ (K' := kNext rest env K H gd lv) (H' := H) (fun f => by cases f <;> rfl) (fun _ => rfl)]
  exact h
theorem seg_plain {t : Sem Flow} (h : wpAny M (A.over c fs) t (fun f s' => Seg M A R Y n s₀ c (K f) fs s') (fun _ _ => False) s) : Seg M A R Y n s₀ c (t.wrap K H gd lv) fs s :=
  seg_wrap (wpAny_mono h (fun _ _ x => x) fun _ _ x => x.elim)
theorem seg_If {test : PySem.Expr} {body orelse : List Stmt} {pos : Pos}
    (h : wpAny M (A.over c fs) (isTrue test env (eval test env)) (fun b s' => if b = true then Seg M A R Y n s₀ c ((execs body env).wrap K H gd lv) fs s' else Seg M A R Y n s₀ c ((execs orelse env).wrap K H gd lv) fs s') (fun _ _ => False) s) :
    Seg M A R Y n s₀ c ((exec (.If test body orelse pos) env).wrap K H gd lv) fs s := by
  rw [exec_If]
  refine seg_bind_wrap (wpAny_standAt ?_)
  refine seg_bind_wrap (wpAny_mono h (fun b s' hb => ?_) fun _ _ x => x.elim)
  cases b with
  | true => exact hb
  | false => exact hb
theorem seg_yield1 {e : PySem.Expr} {ypos pos : Pos} (hfs : splitAtGen fs = none) (hgd : gd false = false) (hfg : fs.any Frame.guarded = false)
    (h : wpAny M (A.over c fs) (eval e env) (fun v s' => ∀ kap : Resume → Shared → Prop, (∀ s'', Seg M A R Y n s'' c (K .next) fs s'' → kap (.send .none) s'') → Y n s₀ v s' kap) (fun _ _ => False) s)
    (hco : env.scope.isCoroutine = false := by rfl) (hi : interactive env = false := by rfl) :
    Seg M A R Y (n + 1) s₀ c ((exec (.Expr (.Yield (some e) ypos) pos) env).wrap K H gd lv) fs s := by
  refine seg_Expr_Yield hfs hgd hfg (wpAny_mono h (fun v s' hv kap hk => hv kap fun s'' hs => hk .none s'' hs) fun _ _ x => x.elim) hco hi
theorem seg_While1 {test : PySem.Expr} {body orelse : List Stmt} {pos : Pos}
    (h : ∀ p, Seg M A R Y n s₀ (.whileLoop test body orelse env) (M.den (.whileLoop test body orelse env)) (.ret (kBack env K H gd lv) none (gd false) (lv []) c p [] :: fs) s) :
    Seg M A R Y n s₀ c ((exec (.While test body orelse pos) env).wrap K H gd lv) fs s := seg_While h
theorem seg_For1 {target iter : PySem.Expr} {body orelse : List Stmt} {pos : Pos}
    (h : wpAny M (A.over c fs) (eval iter env) (fun xv s₁ => wpAny M (A.over c fs) (pyIter xv) (fun it s₂ =>
      ∀ p, Seg M A R Y n s₀ (.forLoop target it body orelse env) (M.den (.forLoop target it body orelse env)) (.ret (kBack env K H gd lv) none (gd false) (lv []) c p [] :: fs) s₂) (fun _ _ => False) s₁) (fun _ _ => False) s)
    (hs : ∀ x, foldedSetIterable iter env x = pure x := by intro _; rfl) :
    Seg M A R Y n s₀ c ((exec (.For target iter body orelse pos) env).wrap K H gd lv) fs s := by
  rw [exec_For]
  refine seg_bind_wrap (wpAny_standAt ?_)
  refine seg_bind_wrap (wpAny_mono h (fun xv s₁ h₁ => ?_) fun _ _ x => x.elim)
  refine seg_bind_wrap (wpAny_of_eq (hs xv) ?_)
  refine seg_bind_wrap (wpAny_standAt ?_)
  refine seg_bind_wrap (wpAny_holding (wpAny_mono h₁ (fun it s₂ h₂ => ?_) fun _ _ x => x.elim))
  exact seg_call h₂
/-- out of a loop, back to the statement -/
theorem seg_back {env' : Env} {K' : Flow → Sem Fin} {H' : Value → Sem Fin} {gd' : Bool → Bool} {lv' : List Value → List Value} {g : Bool} {l : List Value} {c₁ : Code} {p : Pos} {f : Flow}
    (h : Seg M A R Y n s₀ c₁ (K' f) fs s) : Seg M A R Y n s₀ c (.pure (.done f)) (.ret (kBack env' K' H' gd' lv') none g l c₁ p [] :: fs) s :=
  seg_leaf (.ok f) h
end
section
variable {prog : Program} {w : World} {A : Around} {R : GenEnd} {Y : Protocol} {n : Nat} {s₀ : Shared} {fs : List Frame} {s : Shared} {env : Env}
theorem seg_whileLoop1 {test : PySem.Expr} {body : List Stmt}
    (h : wpAny (model prog w) (A.over (.whileLoop test body [] env) fs) (isTrue test env (eval test env)) (fun b s' =>
        if b = true then Seg (model prog w) A R Y n s₀ (.whileLoop test body [] env) ((execs body env).wrap (kTurn (.whileLoop test body [] env)) (hNote env) id id) fs s'
        else Seg (model prog w) A R Y n s₀ (.whileLoop test body [] env) (.pure (.done .next)) fs s') (fun _ _ => False) s) :
    Seg (model prog w) A R Y n s₀ (.whileLoop test body [] env) ((model prog w).den (.whileLoop test body [] env)) fs s := by
  refine seg_whileLoop (wpAny_mono h (fun b s' hb => ?_) fun _ _ x => x.elim)
  cases b with
  | true =>
    rw [if_pos rfl] at hb ⊢
    show Seg _ A R Y n s₀ _ (Sem.wrap _ (hNote env) id id (execs body env)) fs s'
    rw [Sem.wrap_congr (execs body env) _ _ (K' := kTurn (.whileLoop test body [] env)) (H' := hNote env) (fun f => by cases f <;> rfl) (fun _ => rfl)]
    exact hb
  | false => exact hb
theorem seg_forLoop1 {x : Str} {px : Pos} {it : Value} {body : List Stmt}
    (h : wpAny (model prog w) (A.over (.forLoop (.Name x px) it body [] env) fs) (pyNext it) (fun r s₁ => match r with
      | none => Seg (model prog w) A R Y n s₀ (.block [] env) (.pure (.done .next)) fs s₁
      | some v => wpAny (model prog w) (A.over (.forLoop (.Name x px) it body [] env) fs) (assign (.Name x px) env v) (fun _ s₂ =>
          Seg (model prog w) A R Y n s₀ (.forLoop (.Name x px) it body [] env) ((execs body env).wrap (kTurn (.forLoop (.Name x px) it body [] env)) (hNote env) id id) fs s₂) (fun _ _ => False) s₁) (fun _ _ => False) s) :
    Seg (model prog w) A R Y n s₀ (.forLoop (.Name x px) it body [] env) ((model prog w).den (.forLoop (.Name x px) it body [] env)) fs s := by
  show Seg _ A R Y n s₀ _ ((forTurn (.Name x px) it body [] env).onRaise (fun x => do noteFrame x env; theTreesLotGoes x)) fs s
  unfold forTurn
  rw [Sem.onRaise_eq_wrap]
  refine seg_bind_wrap (wpAny_standAt ?_)
  refine seg_bind_wrap (wpAny_onRaise (wpAny_mono h (fun r s₁ h₁ => ?_) fun _ _ x => x.elim))
  cases r with
  | none => exact seg_again rfl h₁
  | some v =>
    refine seg_bind_wrap (wpAny_of_eq (rfl : letOwnedTupleGo (.Name x px) it v = pure ()) ?_)
    refine seg_bind_wrap (wpAny_mono h₁ (fun _ s₂ h₂ => ?_) fun _ _ x => x.elim)
    rw [Sem.bind_eq_wrap', Sem.wrap_wrap]
    rw [Sem.wrap_congr (execs body env) _ _ (K' := kTurn (.forLoop (.Name x px) it body [] env)) (H' := hNote env) (fun f => by cases f <;> rfl)
        (fun e => by first | exact Sem.bind_eq_wrap _ _ | (show (do noteFrame e env; theTreesLotGoes e : Sem Unit).bind (fun _ => .raise e) = _; rw [Sem.bind_eq_wrap]; rfl))]
    exact h₂
/-- the start of a generator's body -/
theorem seg_start {body : List Stmt}
    (h : Seg (model prog w) A R Y n s₀ (.func body env) ((execs body env).wrap (fun f => .pure (.done (.ret (match f with | .ret v => v | _ => .none)))) (fun e => (leaving env e).wrap (fun _ => .raise e) .raise id id) id id) fs s) :
    Seg (model prog w) A R Y n s₀ (.func body env) ((model prog w).den (.func body env)) fs s := seg_func h
theorem over_func {A : Around} {body : List Stmt} {env : Env} : A.over (.func body env) [] = A.deeper env := rfl
theorem over_for {A : Around} {body b : List Stmt} {env env' : Env} {t : PySem.Expr} {it : Value} {k : Result → Sem Fin} {g : Bool} {l kp : List Value} {p : Pos} : A.over (.forLoop t it b [] env') [.ret k none g l (.func body env) p kp] = A.deeper env := rfl
theorem over_while {A : Around} {body b bw : List Stmt} {env env' env'' : Env} {t tw : PySem.Expr} {it : Value} {k k' : Result → Sem Fin} {g g' : Bool} {l l' kp kp' : List Value} {p p' : Pos} :
    A.over (.whileLoop tw bw [] env'') [.ret k' none g' l' (.forLoop t it b [] env') p' kp', .ret k none g l (.func body env) p kp] = A.deeper env := rfl
end
end Mine
end
section
open PySem PySem.W PySem.Calls PyProof.Rows PyProof.V
namespace Mine
set_option maxRecDepth 100000
/-! list() of a generator function's generator; what it yields are objects -/
/-- what a generator's walk keeps: all but its frame C and the list iterators behind S -/
def KeepG (C S : Addr) (h h' : Heap) : Prop := ∀ b o, h.get? b = some o → b ≠ C → (b ≤ S ∨ o.cls ≠ .type "list_iterator") → h'.get? b = some o
def SinceG (C S : Addr) (s₀ s : Shared) : Prop := ∃ h' tk, s = { s₀ with heap := h', toks := tk } ∧ KeepG C S s₀.heap h'
def protoG {α : Type} (C S : Addr) (out : List α) (Rel : α → Value → Heap → Prop) : Protocol := fun m s₀ v s kap =>
  (∃ x, out[out.length - 1 - m]? = some x ∧ Rel x v s.heap) ∧ SinceG C S s₀ s ∧ ∀ s'' : Shared, (∀ b o, b ≠ S → s.heap.get? b = some o → s''.heap.get? b = some o) → (∃ o, s''.heap.get? S = some o) → kap (.send .none) s''
abbrev endG (C S : Addr) : GenEnd := fun n s₀ r s₁ => r = .ok (.ret .none) ∧ (n = 0 ∧ SinceG C S s₀ s₁)
def RelOk {α : Type} (S : Addr) (Rel : α → Value → Heap → Prop) : Prop := ∀ x v (h h' : Heap), Rel x v h → (∀ b o, S < b → o.cls ≠ .type "list_iterator" → h.get? b = some o → h'.get? b = some o) → Rel x v h'
structure GenD {α : Type} (prog : Program) (w : World) (A : Around) (a : Addr) (g : Nat) (C S : Addr) (out : List α) (Rel : α → Value → Heap → Prop) (s₁ : Shared) (vs : List Value) (s : Shared) : Prop where
  gen : s.heap.IsGen a g
  lim : s.heap.NoLimit
  at_ : ∀ (j : Nat) (v : Value), vs[j]? = some v → ∃ x, out[j]? = some x ∧ Rel x v s.heap
  keep : ∀ b o, s₁.heap.get? b = some o → b ≠ C → s.heap.get? b = some o
  gens : GenOnly g s₁.gens s.gens
  rest : s.drawn = s₁.drawn ∧ s.os = s₁.os
  go : ∃ gs, s.gens[g]? = some gs ∧ ∀ s'' : Shared, (∀ b o, b ≠ S → s.heap.get? b = some o → s''.heap.get? b = some o) → (∃ o, s''.heap.get? S = some o) →
    gs.Goes (model prog w) A.in1 (endG C S) (protoG C S out Rel) (out.length - vs.length) (.send .none) s''
structure DoneG {α : Type} (g : Nat) (C : Addr) (out : List α) (Rel : α → Value → Heap → Prop) (s₁ : Shared) (vs : List Value) (s : Shared) : Prop where
  len : vs.length = out.length
  at_ : ∀ (j : Nat) (v : Value), vs[j]? = some v → ∃ x, out[j]? = some x ∧ Rel x v s.heap
  keep : ∀ b o, s₁.heap.get? b = some o → b ≠ C → s.heap.get? b = some o
  gens : GenOnly g s₁.gens s.gens
  fin : s.gens[g]? = some .finished
  rest : s.drawn = s₁.drawn ∧ s.os = s₁.os
theorem GenOnly.refl' (g : Nat) (a : Array GenState) : GenOnly g a a := ⟨rfl, fun _ _ => rfl⟩
section
variable {α : Type} {prog : Program} {w : World} {A : Around} {a : Addr} {g : Nat} {C S : Addr} {out : List α} {Rel : α → Value → Heap → Prop} {s₁ s : Shared} {vs : List Value}
theorem statics_in {h : Heap} (hl : h.NoLimit) : ∃ o, h.get? cStatics = some o := let ⟨_, ⟨o, _, _, ho, _⟩, _⟩ := hl; ⟨o, ho⟩
theorem GenD.frame (hR : RelOk S Rel) (h1 : s₁.heap.NoLimit) (hS : s₁.heap.objs.size = S) (haS : a < S) (d : GenD prog w A a g C S out Rel s₁ vs s) {h' : Heap} {tk : Nat} (hk : ∀ b o, b ≠ S → s.heap.get? b = some o → h'.get? b = some o) :
    GenD prog w A a g C S out Rel s₁ vs { s with heap := h', toks := tk } := by
  have hcs : cStatics ≠ S := by
    obtain ⟨o, ho⟩ := statics_in h1
    have := Heap.lt_size ho
    rw [hS] at this
    exact Nat.ne_of_lt this
  refine ⟨?_, ?_, fun j v hj => ?_, fun b o e hb => hk b o ?_ (d.keep b o e hb), d.gens, d.rest, ?_⟩
  · obtain ⟨o, nm, qn, ho, r⟩ := d.gen
    exact ⟨o, nm, qn, hk a o (Nat.ne_of_lt haS) ho, r⟩
  · obtain ⟨mc, hns, hnn⟩ := d.lim
    exact ⟨mc, hns.at' fun o e => hk cStatics o hcs e, hnn⟩
  · obtain ⟨x, hx, hr⟩ := d.at_ j v hj
    exact ⟨x, hx, hR x v _ _ hr fun b o hb _ e => hk b o (Nat.ne_of_gt hb) e⟩
  · have := Heap.lt_size e
    rw [hS] at this
    exact Nat.ne_of_lt this
  · obtain ⟨gs, hg, hgo⟩ := d.go
    exact ⟨gs, hg, fun s'' hs hS => hgo s'' (fun b o hb e => hs b o hb (hk b o hb e)) hS⟩
theorem GenD.item (hh : A.handled = none) (hroom : A.depth < recursionLimit) (hR : RelOk S Rel) (h1 : s₁.heap.NoLimit) (hS : s₁.heap.objs.size = S) (haS : a < S) (hCa : C < a) (hcC : cStatics ≠ C) (hlt : vs.length < out.length)
    (d : GenD prog w A a g C S out Rel s₁ vs s) {Q : Option Value → Shared → Prop} {E : Value → Shared → Prop} {oS : Obj} (hoS : s.heap.get? S = some oS)
    (hQ : ∀ v s', GenD prog w A a g C S out Rel s₁ (vs ++ [v]) s' → s'.heap.get? S = some oS → Q (some v) s') : wpAny (model prog w) A (pyNext (.ref a)) Q E s := by
  have hcs : cStatics < S := by
    obtain ⟨o, ho⟩ := statics_in h1
    have := Heap.lt_size ho
    rwa [hS] at this
  obtain ⟨gs, hgs, hgo⟩ := d.go
  obtain ⟨m, hm⟩ : ∃ m, out.length - vs.length = m + 1 := ⟨out.length - vs.length - 1, by omega⟩
  rw [hm] at hgo
  refine wpAny_pyNext_gen (P := fun n s₀ s₁ => n = 0 ∧ SinceG C S s₀ s₁) hh d.lim hroom d.gen hgs (hgo _ (fun _ _ _ e => e) ⟨_, hoS⟩) (fun v s₂ gs' hv => ?_) (fun s₂ hp h' hk => absurd hp.1 (Nat.succ_ne_zero m))
  obtain ⟨⟨x, hx, hr⟩, ⟨h₂, tk₂, rfl, hk⟩, hkap⟩ := hv
  have hidx : out.length - 1 - (m + 1 - 1) = vs.length := by omega
  rw [hidx] at hx
  refine hQ v _ ⟨?_, ?_, fun j v' hj => ?_, fun b o e hb => ?_, ?_, d.rest, ?_⟩ (hk _ _ hoS (Nat.ne_of_gt (Nat.lt_trans hCa haS)) (.inl (Nat.le_refl _)))
  · obtain ⟨o, nm, qn, ho, r⟩ := d.gen
    exact ⟨o, nm, qn, hk a o ho (Nat.ne_of_gt hCa) (.inl (Nat.le_of_lt haS)), r⟩
  · obtain ⟨mc, hns, hnn⟩ := d.lim
    exact ⟨mc, hns.at' fun o e => hk cStatics o e hcC (.inl (Nat.le_of_lt hcs)), hnn⟩
  · rcases Nat.lt_trichotomy j vs.length with h | h | h
    · rw [List.getElem?_append_left h] at hj
      obtain ⟨y, hy, hry⟩ := d.at_ j v' hj
      exact ⟨y, hy, hR y v' _ _ hry fun b o hb hc e => hk b o e (Nat.ne_of_gt (Nat.lt_trans (Nat.lt_trans hCa haS) hb)) (.inr hc)⟩
    · subst h
      rw [List.getElem?_append_right (Nat.le_refl _), Nat.sub_self] at hj
      cases hj
      exact ⟨x, hx, hr⟩
    · rw [List.getElem?_eq_none (by simp; omega)] at hj; cases hj
  · have hlt' := Heap.lt_size e
    rw [hS] at hlt'
    exact hk b o (d.keep b o e hb) hb (.inl (Nat.le_of_lt hlt'))
  · exact d.gens.trans ((GenOnly.setGen s g .running).trans (GenOnly.setGen _ g gs'))
  · refine ⟨gs', setGen_self (gs := .running) (setGen_self hgs), fun s'' hs hS' => ?_⟩
    have e : out.length - (vs ++ [v]).length = m := by rw [List.length_append, List.length_singleton]; omega
    rw [e]
    exact hkap s'' hs hS'
theorem GenD.done (hh : A.handled = none) (hroom : A.depth < recursionLimit) (hR : RelOk S Rel) (hS : s₁.heap.objs.size = S) (haS : a < S) (hCa : C < a) (hlt : vs.length = out.length)
    (d : GenD prog w A a g C S out Rel s₁ vs s) {Q : Option Value → Shared → Prop} {E : Value → Shared → Prop} {oS : Obj} (hoS : s.heap.get? S = some oS)
    (hQ : ∀ s', DoneG g C out Rel s₁ vs s' → s'.heap.get? S = some oS → Q none s') : wpAny (model prog w) A (pyNext (.ref a)) Q E s := by
  obtain ⟨gs, hgs, hgo⟩ := d.go
  rw [hlt, Nat.sub_self] at hgo
  refine wpAny_pyNext_gen (P := fun n s₀ s₁ => n = 0 ∧ SinceG C S s₀ s₁) hh d.lim hroom d.gen hgs (hgo _ (fun _ _ _ e => e) ⟨_, hoS⟩) (fun v s₂ gs' hv => ?_) (fun s₂ hp h' hk' => ?_)
  · obtain ⟨_, ⟨h₂, tk₂, rfl, hk⟩, hkap⟩ := hv
    exact False.elim (hkap _ (fun _ _ _ e => e) ⟨_, hk _ _ hoS (Nat.ne_of_gt (Nat.lt_trans hCa haS)) (.inl (Nat.le_refl _))⟩)
  obtain ⟨-, h₂, tk₂, rfl, hk⟩ := hp
  refine hQ _ ⟨hlt, fun j v' hj => ?_, fun b o e hb => ?_, ?_, ?_, d.rest⟩ (hk' _ _ (hk _ _ hoS (Nat.ne_of_gt (Nat.lt_trans hCa haS)) (.inl (Nat.le_refl _))))
  · obtain ⟨y, hy, hry⟩ := d.at_ j v' hj
    exact ⟨y, hy, hR y v' _ _ hry fun b o hb hc e => hk' b o (hk b o e (Nat.ne_of_gt (Nat.lt_trans (Nat.lt_trans hCa haS) hb)) (.inr hc))⟩
  · have hlt' := Heap.lt_size e
    rw [hS] at hlt'
    exact hk' b o (hk b o (d.keep b o e hb) hb (.inl (Nat.le_of_lt hlt')))
  · exact d.gens.trans ((GenOnly.setGen s g .running).trans (GenOnly.setGen _ g .finished))
  · exact setGen_self (gs := .running) (setGen_self hgs)
theorem ext_loopG {R : Result → Shared → Prop} {res : Value} (hh : A.handled = none) (hroom : A.depth < recursionLimit) (hR : RelOk S Rel) (h1 : s₁.heap.NoLimit) (hS : s₁.heap.objs.size = S) (haS : a < S) (hCa : C < a) (hcC : cStatics ≠ C) (hz : out.length ≤ 1000000) :
    ∀ (k : Nat) (vs : List Value) (s : Shared) (c : Nat), out.length - vs.length = k → vs.length ≤ out.length → GenD prog w A.in1 a g C S out Rel s₁ vs s → s.heap.get? S = some { cls := .type "list", data := .seq vs.toArray c } →
    (∀ s' vs' c', DoneG g C out Rel s₁ vs' s' → s'.heap.get? S = some { cls := .type "list", data := .seq vs'.toArray c' } → R (.ok (.ret res)) s') →
    codeAny (model prog w) A (.builtin "list.extend.loop" ⟨[.ref S, .ref a, res], []⟩) R s := by
  intro k
  induction k with
  | zero =>
    intro vs s c hk hi d hoS hQ
    refine codeAny_builtin F.entry_extend_loop ?_
    rw [Around.under_plainId F.plain_extend_loop _]
    show wpAny _ A.in1 (pyNext (.ref a) >>= _) _ _ s
    exact wpAny_bind (GenD.done (A := A.in1) hh hroom hR hS haS hCa (by omega) d hoS fun s' d' hoS' => wpAny_pure (hQ s' vs c d' hoS'))
  | succ k ih =>
    intro vs s c hk hi d hoS hQ
    refine codeAny_builtin F.entry_extend_loop ?_
    rw [Around.under_plainId F.plain_extend_loop _]
    show wpAny _ A.in1 (pyNext (.ref a) >>= _) _ _ s
    refine wpAny_bind (GenD.item (A := A.in1) hh hroom hR h1 hS haS hCa hcC (by omega) d hoS fun v s' d' hoS' => ?_)
    show wpAny _ A.in1 (updateSeq S (·.push v) >>= _) _ _ _
    refine wpAny_bind ?_
    refine wpAny_updateSeq hoS' rfl (wpAny_pure ⟨plainId_quiet F.plain_extend_loop _, ih (vs ++ [v]) _ (c + 1) (by rw [List.length_append, List.length_singleton]; omega) (by rw [List.length_append, List.length_singleton]; omega)
      (GenD.frame hR h1 hS haS d' (tk := s'.toks) fun b o hb e => (Heap.get?_update_other _ _ (Ne.symm hb)).trans e) ?_ hQ⟩) (by rw [sizeLine_eq, List.size_toArray]; omega) (by rw [sizeLine_eq, Array.size_push, List.size_toArray]; omega)
    rw [Heap.get?_update_self _ hoS' rfl]
    simp [Obj.mapSeq]
end
section
variable {α : Type} {prog : Program} {w : World} {A : Around} {E : Value → Shared → Prop} {a : Addr} {g : Nat} {C : Addr} {out : List α} {Rel : α → Value → Heap → Prop} {s : Shared}
theorem list_genD {Q : Value → Shared → Prop} (hh : A.handled = none) (hroom : A.depth < recursionLimit) (hR : RelOk s.heap.objs.size Rel) (h1 : s.heap.NoLimit) (haS : a < s.heap.objs.size) (hCa : C < a) (hcC : cStatics ≠ C) (hz : out.length ≤ 1000000)
    (d : GenD prog w A.in1.in1 a g C s.heap.objs.size out Rel s [] s)
    (hQ : ∀ s' vs c, DoneG g C out Rel s vs s' → s'.heap.get? s.heap.objs.size = some { cls := .type "list", data := .seq vs.toArray c } → Q (.ref s.heap.objs.size) s') :
    wpAny (model prog w) A (call (.type "list") [.ref a]) Q E s := by
  refine callType_codes (Q₁ := fun obj s₁ => obj = .ref s.heap.objs.size ∧ s₁ = { s with heap := s.heap.push { cls := .type "list", data := .seq #[] } }) F.called_list (F.typeCall_list_1 _) F.entry_list_init
    (code_list_new _ ⟨rfl, rfl⟩) fun obj s₁ h₁ => ?_
  obtain ⟨rfl, rfl⟩ := h₁
  generalize hS : s.heap.objs.size = S at *
  have hoS : (s.heap.push { cls := .type "list", data := .seq #[] }).get? S = some { cls := .type "list", data := .seq #[] } := by rw [← hS]; exact Heap.get?_push_size _ rfl
  have hT : s.TypeIs (.ref a) "generator" := d.gen.typeIs
  refine ⟨⟨_, hoS, rfl⟩, F.args_list_init_2 _ _, ?_⟩
  show wpAny _ A.in1.in1 (do let old ← Builtin.List.listItems (.ref S); Builtin.List.listUpdate (.ref S) (fun _ => #[]); letGo old.toList.reverse; Builtin.List.listExtendWith (.ref S) (.ref a) .none) _ _ _
  refine wpAny_bind ?_
  unfold Builtin.List.listItems
  refine wpAny_bind (wpAny_seqItems hoS rfl (wpAny_pure ?_))
  show wpAny _ A.in1.in1 (updateSeq S (fun _ => #[]) >>= fun _ => letGo (#[] : Array Value).toList.reverse >>= fun _ => Builtin.List.listExtendWith (.ref S) (.ref a) .none) _ _ _
  refine wpAny_bind (wpAny_updateSeq hoS rfl ?_)
  have hS₂ := Heap.get?_update_self (Obj.mapSeq (fun _ => (#[] : Array Value))) hoS rfl
  have d₁ := GenD.frame hR h1 hS haS d (h' := s.heap.push { cls := .type "list", data := .seq #[] }) (tk := s.toks) fun b o _ e => Heap.get?_push_of_some _ e
  have d₂ := GenD.frame hR h1 hS haS d₁ (h' := (s.heap.push { cls := .type "list", data := .seq #[] }).update S (Obj.mapSeq (fun _ => (#[] : Array Value)))) (tk := s.toks) fun b o hb e => (Heap.get?_update_other _ _ (Ne.symm hb)).trans e
  refine wpAny_bind (wpAny_letGo ?_)
  have hSI : S ≠ a := Nat.ne_of_gt haS
  unfold Builtin.List.listExtendWith
  refine wpAny_bind (wpAny_typeOf d₂.gen.typeIs ?_)
  have e1 : Builtin.List.listSameRef (.ref S) (.ref a) = false := by simp [Builtin.List.listSameRef, hSI]
  have e2 : (Value.type "generator" == Value.type "list") = false := by decide
  have e3 : (Value.type "generator" == Value.type "tuple") = false := by decide
  simp only [e1, e2, e3, Bool.or_false, Bool.false_eq_true, if_false]
  refine wpAny_bind (wpAny_pyIter_gen d₂.gen ?_)
  refine wpAny_bind (wpAny_holding ?_)
  unfold Builtin.List.listLengthHint
  refine wpAny_bind (wpAny_specialOf d₂.gen.typeIs F.gen_no_len ?_)
  show wpAny _ A.in1.in1 (specialOf (Value.ref a) (Str.ofString "__length_hint__") >>= _) _ _ _
  refine wpAny_bind (wpAny_specialOf d₂.gen.typeIs F.gen_no_hint ?_)
  refine wpAny_pure ?_
  show wpAny _ A.in1.in1 (rule "list.extend.makes-room" >>= fun _ => Builtin.List.listTouch (.ref S) >>= fun _ =>
    again (.builtin "list.extend.loop" ⟨[.ref S, .ref a, .none], []⟩)) _ _ _
  refine wpAny_bind (wpAny_rule ?_)
  refine wpAny_bind ?_
  show wpAny _ A.in1.in1 (updateSeq S (·.push .none) >>= fun _ => updateSeq S (·.pop)) _ _ _
  refine wpAny_bind (wpAny_updateSeq hS₂ rfl ?_)
  have hS₃ := Heap.get?_update_self (Obj.mapSeq (·.push Value.none)) hS₂ rfl
  refine wpAny_updateSeq (hz := by seq_fits) hS₃ rfl ?_
  have hS₄ := Heap.get?_update_self (Obj.mapSeq (·.pop)) hS₃ rfl
  have d₃ := GenD.frame hR h1 hS haS d₂ (h' := (((s.heap.push { cls := .type "list", data := .seq #[] }).update S (Obj.mapSeq (fun _ => (#[] : Array Value)))).update S (Obj.mapSeq (·.push Value.none))).update S (Obj.mapSeq (·.pop))) (tk := s.toks)
    fun b o hb e => (Heap.get?_update_other _ _ (Ne.symm hb)).trans ((Heap.get?_update_other _ _ (Ne.symm hb)).trans e)
  refine wpAny_pure ⟨plainId_quiet F.plain_extend_loop _, ext_loopG (A := A.in1) hh hroom hR h1 hS haS hCa hcC hz out.length [] _ _ rfl (Nat.zero_le _) d₃ hS₄ fun s' vs' c' d' hoS' => ⟨rfl, hQ s' vs' c' d' hoS'⟩⟩
end
end Mine
end
section
open PySem PySem.W PySem.Calls PyProof.Rows PyProof.V
namespace Mine
set_option maxRecDepth 100000
/-! what a generator's walk stands on -/
def cutAt (h : Heap) (C : Addr) : Heap := { h with objs := h.objs.extract 0 C }
theorem cut_objs {h : Heap} {C b : Addr} : (cutAt h C).objs[b]? = if b < C then h.objs[b]? else none := by
  have h1 : ∀ (xs : Array Obj) (n i : Nat), (xs.extract 0 n)[i]? = if i < n then xs[i]? else none := fun xs n i => by
    rw [Array.getElem?_extract]
    simp only [Nat.sub_zero, Nat.zero_add]
    by_cases h2 : i < n
    · rw [if_pos h2]
      by_cases h3 : i < xs.size
      · rw [if_pos (by omega)]
      · rw [if_neg (by omega), Array.getElem?_eq_none (by omega)]
    · rw [if_neg h2, if_neg (by omega)]
  exact h1 h.objs C b
theorem cut_get? {h : Heap} {C b : Addr} : (cutAt h C).get? b = if b < C then h.get? b else none := by
  unfold Heap.get?
  rw [cut_objs]
  by_cases hb : b < C
  · rw [if_pos hb, if_pos hb]
  · rw [if_neg hb, if_neg hb]
theorem cut_of {h : Heap} {C b : Addr} {o : Obj} (e : (cutAt h C).get? b = some o) : h.get? b = some o ∧ b < C := by
  rw [cut_get?] at e
  by_cases hb : b < C
  · rw [if_pos hb] at e; exact ⟨e, hb⟩
  · rw [if_neg hb] at e; cases e
theorem cut_get {h : Heap} {C b : Addr} {o : Obj} (e : h.get? b = some o) (hb : b < C) : (cutAt h C).get? b = some o := by
  rw [cut_get?, if_pos hb]; exact e
theorem cut_size {h : Heap} {C : Addr} : (cutAt h C).objs.size ≤ C := by
  unfold cutAt
  rw [Array.size_extract]; omega
/-- all that stands in a heap, less a frame, a place and what stands in g -/
def restL (g : Heap) (C I : Addr) (h : Heap) : List (Addr × Obj) := (List.range h.objs.size).filterMap fun b => if b ≠ C ∧ b ≠ I ∧ g.get? b = none then (h.get? b).map fun o => (b, o) else none
theorem mem_restL {g : Heap} {C I : Addr} {h : Heap} {p : Addr × Obj} : p ∈ restL g C I h ↔ p.1 ≠ C ∧ p.1 ≠ I ∧ g.get? p.1 = none ∧ h.get? p.1 = some p.2 := by
  unfold restL
  rw [List.mem_filterMap]
  constructor
  · rintro ⟨b, hb, e⟩
    split at e
    · rename_i hc
      cases q : h.get? b with
      | none => rw [q] at e; cases e
      | some o => rw [q] at e; cases e; exact ⟨hc.1, hc.2.1, hc.2.2, q⟩
    · cases e
  · rintro ⟨h1, h2, h3, h4⟩
    exact ⟨p.1, List.mem_range.mpr (Heap.lt_size h4), by rw [if_pos ⟨h1, h2, h3⟩, h4]; rfl⟩
/-- the start of a stretch between two yields -/
structure At0 (g : Heap) (C S I : Addr) (led : List (Addr × Obj)) (h₀ : Heap) : Prop where
  gk : ∀ b o, g.get? b = some o → h₀.get? b = some o
  it : ∀ o, h₀.get? I = some o → S < I ∧ o.cls = .type "list_iterator"
  up : ∀ b o, h₀.get? b = some o → b ≠ C → b ≠ I → g.get? b = none → (b, o) ∈ led
theorem At0.mono {g : Heap} {C S I : Addr} {led led' : List (Addr × Obj)} {h₀ : Heap} (x : At0 g C S I led h₀) (h : ∀ p ∈ led, p ∈ led') : At0 g C S I led' h₀ := ⟨x.gk, x.it, fun b o e h1 h2 h3 => h _ (x.up b o e h1 h2 h3)⟩
theorem At0.keep {g : Heap} {C S I L : Addr} {led : List (Addr × Obj)} {h₀ h : Heap} {m : Str → Option Value} (x : At0 g C S I led h₀) (F : Fr g C h m) (N : News g L h led) : KeepG C S h₀ h := fun b o e hb hc => by
  by_cases hI : b = I
  · subst hI
    obtain ⟨h1, h2⟩ := x.it o e
    rcases hc with hc | hc
    · exact absurd h1 (Nat.not_lt.mpr hc)
    · exact absurd h2 hc
  · cases q : g.get? b with
    | none => exact (N _ (x.up b o e hb hI q)).1
    | some o' =>
      have h1 := x.gk b o' q
      rw [e] at h1; cases h1
      exact F.keep b o q
theorem at0_start {g : Heap} {C S I : Addr} {h : Heap} {m : Str → Option Value} (F : Fr g C h m) (hI : ∀ o, h.get? I = some o → S < I ∧ o.cls = .type "list_iterator") : At0 g C S I (restL g C I h) h ∧ News g C h (restL g C I h) :=
  ⟨⟨F.keep, hI, fun b o e h1 h2 h3 => mem_restL.mpr ⟨h1, h2, h3, e⟩⟩, fun p hp => by
    obtain ⟨h1, h2, h3, h4⟩ := mem_restL.mp hp
    exact ⟨h4, h1, h3⟩⟩
section
variable {prog : Program} {w : World} {A : Around} {s : Shared} {base h₀ : Heap} {outer : List Env} {env : Env} {L : Addr} {m : Str → Option Value} {cs : Scope} {news led : List (Addr × Obj)} {K : Frag}
    {R : Result → Shared → Prop} {name qual : Str} {params : Arguments} {body : List Stmt} {scope : Scope} {dV kV doc pm cdv ct oc : Value} {an od : Option Addr} {osl : Array (Option Value)} {f : Addr} {args : Args} {binds : List (Str × Value)}
theorem groundG {h : Heap} (X : Cx K cs outer base h₀ L h m led) (hA : A.frames = some (env :: outer)) (hf : env.frame = some L) (hke : env.scope.kind = .function) (hs : ∀ p ∈ news, p ∈ led) {C : Addr} (hLC : L < C) {mC : Str → Option Value} (hns : h.Ns C mC) :
    ∃ g, Below A base (env :: outer) g ∧ KtsDicts (frs (env :: outer)) g ∧ Fr g C h mC ∧ ∀ p ∈ news, g.get? p.1 = none := by
  obtain ⟨⟨A₀, B⟩, F, XB, N, TB, D, k⟩ := X
  have nm : ∀ b o, h₀.get? b = some o → b ∉ news.map (·.1) := fun b o e q => by
    obtain ⟨p, hp, rfl⟩ := List.mem_map.mp q
    rw [(N p (hs p hp)).2.2] at e; cases e
  have hlt : ∀ b o, h₀.get? b = some o → b < C := fun b o e => Nat.lt_trans (Nat.lt_of_lt_of_le (Heap.lt_size e) F.above) hLC
  have st : h₀.StaysIn (cutAt (hideAll h (news.map (·.1))) C) := fun b o e => cut_get (hideAll_get _ (F.keep b o e) (nm b o e)) (hlt b o e)
  obtain ⟨oL, es, ep, hL, hLd, hLk, hLf⟩ := F.ns
  have nL : L ∉ news.map (·.1) := fun q => by
    obtain ⟨p, hp, e⟩ := List.mem_map.mp q
    exact (N p (hs p hp)).2.1 e
  have hLg : (cutAt (hideAll h (news.map (·.1))) C).get? L = some oL := cut_get (hideAll_get (news.map (·.1)) hL nL) hLC
  have hb0 : base.get? L = none := by
    cases q : base.get? L with
    | none => rfl
    | some o => have := B.stays L o q; rw [kts_self F] at this; cases this
  refine ⟨cutAt (hideAll h (news.map (·.1))) C, ⟨hA, fun b o e => st b o (B.stays b o e), ⟨by rw [hke]; decide, ⟨L, oL, hf, hb0, hLg, fun vs q => by rw [hLd] at q; cases q⟩, B.frames.of_keeps fun b o e _ => ⟨o, st b o e, rfl⟩⟩⟩, fun b hb => ?_,
    ⟨hns, fun b o e => of_hideAll _ (cut_of e).1, cut_size⟩, fun p hp => ?_⟩
  · rcases mem_frs hf hb with rfl | hb
    · exact ⟨oL, es, ep, hLg, hLd⟩
    · obtain ⟨o, es', n', ho', hd'⟩ := D b hb
      exact ⟨o, es', n', st b o ho', hd'⟩
  · cases q : (cutAt (hideAll h (news.map (·.1))) C).get? p.1 with
    | none => rfl
    | some o => have := (cut_of q).1; rw [hideAll_none _ (List.mem_map_of_mem hp)] at this; cases this
/-- a call of a generator function: its frame and the generator -/
theorem enterG (X : Cx K cs outer base h₀ L s.heap m news)
    (ho : K.lookup f = some ⟨oc, od, .func (fnOf name qual params body scope dV kV doc pm an cdv ct), osl⟩) (hcd : codeIn K cdv qual = true) (hroom : A.depth < recursionLimit)
    (hbind : BindsTo s (fnOf name qual params body scope dV kV doc pm an cdv ct) args binds) (hloc : ∀ y ∈ binds, scope.names.lookup y.1 = some .local)
    (h : ∀ C a oC oa h' tk, Cx K cs outer base h₀ L h' m ((a, oa) :: (C, oC) :: news) → h'.Ns C (fun y => binds.reverse.lookup y) → L < C → C < a → h'.objs.size = a + 1 → (∀ p ∈ news, p.1 < C) → h'.IsGen a s.gens.size →
      R (.ok (.ret (.ref a))) { s with gens := s.gens.push (.fresh (.func body (envOf qual scope C f cdv))), heap := h', toks := tk })
    (hco : scope.isCoroutine = false) (hgen : scope.isGenerator = true) (hk : scope.kind = .function)
    (hcell : ∀ x ∈ scope.names, x.2 ≠ .cell) : codeAny (model prog w) A (.call (.ref f) args) R s := by
  have X' := X
  obtain ⟨⟨A₀, B⟩, F, XB, N, ⟨p, loose, mean, mg, mb, TB⟩, D, k⟩ := X
  have X₀ : K.In h₀ := XB.keeps B.stays
  have XH := X₀.keeps F.keep
  refine codeAny_call_generator (fd := fnOf name qual params body scope dV kV doc pm an cdv ct) hroom (XH _ _ ho) rfl hco hgen rfl (codeRec_of XH hcd) (hbind _ _ _ _ ?_)
  refine wpAny_newFunctionEnv hcell hloc (fun h₁ hns hsb => ?_) hk
  have hk₁ : ∀ b o, s.heap.get? b = some o → h₁.get? b = some o := fun b o e => hsb.extBut b o (Nat.ne_of_lt (Heap.lt_size e)) (Heap.get?_push_of_some _ e)
  have hlim : s.heap.NoLimit := (TB.nolimit.keeps B.stays).keeps F.keep
  refine ⟨hlim.fresh _ hsb, ?_⟩
  have hsz : h₁.objs.size = s.heap.objs.size + 1 := by rw [hsb.1, Heap.size_push]
  dsimp only
  obtain ⟨oC, es, ep, hC, hCd, hCk, hCf⟩ := id hns
  have hn0 : ∀ b, s.heap.objs.size ≤ b → h₀.get? b = none := fun b hb => by
    cases q : h₀.get? b with
    | none => rfl
    | some o => exact absurd (Heap.lt_size (F.keep b o q)) (Nat.not_lt.mpr hb)
  have hL := F.ns.lt
  have hgen : (h₁.push ({ cls := .type "generator", data := .fields #[.int s.gens.size 0, .str name (s.toks + binds.length), .str qual (s.toks + binds.length + 1)] } : Obj)).IsGen h₁.objs.size s.gens.size := ⟨_, _, _, Heap.get?_push_size _ rfl, rfl, rfl, rfl⟩
  have hget : (h₁.push ({ cls := .type "generator", data := .fields #[.int s.gens.size 0, .str name (s.toks + binds.length), .str qual (s.toks + binds.length + 1)] } : Obj)).get? h₁.objs.size = some { cls := .type "generator", data := .fields #[.int s.gens.size 0, .str name (s.toks + binds.length), .str qual (s.toks + binds.length + 1)] } := Heap.get?_push_size _ rfl
  generalize hgo : ({ cls := .type "generator", data := .fields #[.int s.gens.size 0, .str name (s.toks + binds.length), .str qual (s.toks + binds.length + 1)] } : Obj) = go at *
  refine h s.heap.objs.size h₁.objs.size oC go (h₁.push go) (s.toks + binds.length + 1 + 1) ⟨⟨A₀, B⟩, ⟨F.ns.at' fun o e => Heap.get?_push_of_some _ (hk₁ _ _ e), fun b o e => Heap.get?_push_of_some _ (hk₁ b o (F.keep b o e)), F.above⟩, XB, ?_, ⟨p, loose, mean, mg, mb, TB⟩, D, k⟩ (hns.push _) F.ns.lt (by rw [hsz]; exact Nat.lt_succ_self _) (by rw [Heap.size_push]) (fun q hq => Heap.lt_size (N q hq).1) hgen
  intro q hq
  rcases List.mem_cons.mp hq with rfl | hq
  · exact ⟨hget, Nat.ne_of_gt (by rw [hsz]; exact Nat.lt_succ_of_lt hL), hn0 _ (by rw [hsz]; exact Nat.le_succ _)⟩
  rcases List.mem_cons.mp hq with rfl | hq
  · exact ⟨Heap.get?_push_of_some _ hC, Nat.ne_of_gt hL, hn0 _ (Nat.le_refl _)⟩
  · exact ⟨Heap.get?_push_of_some _ (hk₁ _ _ (N q hq).1), (N q hq).2⟩
end
end Mine
end
section
open PySem PySem.W PySem.Calls PyProof.Rows PyProof.V
namespace Mine
set_option maxRecDepth 100000
/-! tokens, and list() of the generator that makes them -/
structure TokD where
  st : Int
  en : Int
  tx : Str
  vl : Option Str
  deriving DecidableEq
def ValIs : Option Str → Value → Prop
  | none, v => v = .none
  | some y, v => ∃ t, v = .str y t
def tokObj (cT dx : Addr) (en st tx vl : Value) : Obj := { cls := .ref cT, dict := some dx, data := .plain, slots := #[some en, some st, some tx, some vl] }
/-- a token on the heap -/
def TokAt (cT : Addr) (d : TokD) (ta dx : Addr) (en st tx vl : Value) : Prop := (∃ t, en = .int d.en t) ∧ (∃ t, st = .int d.st t) ∧ (∃ t, tx = .str d.tx t) ∧ ValIs d.vl vl
def TokRel (S cT : Addr) (d : TokD) (v : Value) (h : Heap) : Prop :=
  ∃ ta dx en st tx vl, v = .ref ta ∧ S < ta ∧ S < dx ∧ h.get? ta = some (tokObj cT dx en st tx vl) ∧ h.get? dx = some (dictOf [] 0) ∧ TokAt cT d ta dx en st tx vl
theorem tokRel_ok (S cT : Addr) : RelOk S (TokRel S cT) := by
  rintro x v h h' ⟨ta, dx, en, st, tx, vl, rfl, h1, h2, h3, h4, h5⟩ k
  exact ⟨ta, dx, en, st, tx, vl, rfl, h1, h2, k ta _ h1 (by intro e; cases e) h3, k dx _ h2 (by decide) h4, h5⟩
/-- tokens in a ledger -/
def TokIn (cT : Addr) (led : List (Addr × Obj)) (v : Value) (d : TokD) : Prop := ∃ ta dx en st tx vl, v = .ref ta ∧ (ta, tokObj cT dx en st tx vl) ∈ led ∧ (dx, dictOf [] 0) ∈ led ∧ TokAt cT d ta dx en st tx vl
inductive ToksIn (cT : Addr) (led : List (Addr × Obj)) : List Value → List TokD → Prop
  | nil : ToksIn cT led [] []
  | cons {v : Value} {d : TokD} {vs : List Value} {ds : List TokD} : TokIn cT led v d → ToksIn cT led vs ds → ToksIn cT led (v :: vs) (d :: ds)
theorem toks_mono {cT : Addr} {a b : List (Addr × Obj)} (k : ∀ p ∈ a, p ∈ b) : ∀ {vs : List Value} {ds : List TokD}, ToksIn cT a vs ds → ToksIn cT b vs ds
  | _, _, .nil => .nil
  | _, _, .cons ⟨ta, dx, en, st, tx, vl, e, h1, h2, h3⟩ r => .cons ⟨ta, dx, en, st, tx, vl, e, k _ h1, k _ h2, h3⟩ (toks_mono k r)
theorem toks_len {cT : Addr} {a : List (Addr × Obj)} : ∀ {vs : List Value} {ds : List TokD}, ToksIn cT a vs ds → vs.length = ds.length
  | _, _, .nil => rfl
  | _, _, .cons _ r => congrArg (· + 1) (toks_len r)
theorem toks_app {cT : Addr} {a : List (Addr × Obj)} : ∀ {vs us : List Value} {ds es : List TokD}, ToksIn cT a vs ds → ToksIn cT a us es → ToksIn cT a (vs ++ us) (ds ++ es)
  | _, _, _, _, .nil, h => h
  | _, _, _, _, .cons h r, k => .cons h (toks_app r k)
theorem toks_at {cT : Addr} {a : List (Addr × Obj)} : ∀ {vs : List Value} {ds : List TokD}, ToksIn cT a vs ds → ∀ {i : Nat} {v : Value}, vs[i]? = some v → ∃ d, ds[i]? = some d ∧ TokIn cT a v d
  | _, _, .nil, _, _, h => by simp at h
  | _, _, .cons (d := d) h _, 0, _, e => ⟨d, rfl, by have e' := Option.some.inj e; rw [← e']; exact h⟩
  | _, _, .cons _ h, i + 1, _, e => by simpa using toks_at h (i := i) (by simpa using e)
theorem toks_of {cT : Addr} {a : List (Addr × Obj)} : ∀ {vs : List Value} {ds : List TokD}, vs.length = ds.length → (∀ (i : Nat) (v : Value), vs[i]? = some v → ∃ d, ds[i]? = some d ∧ TokIn cT a v d) → ToksIn cT a vs ds
  | [], [], _, _ => .nil
  | [], _ :: _, h, _ => by cases h
  | _ :: _, [], h, _ => by cases h
  | v :: vs, d :: ds, hl, h => by
    obtain ⟨d', h1, h2⟩ := h 0 v rfl
    cases h1
    exact .cons h2 (toks_of (by simpa using hl) fun i v' hv => by simpa using h (i + 1) v' (by simpa using hv))
theorem yieldG {C S cT : Addr} {out done rest : List TokD} {d : TokD} {s₀ s : Shared} {v : Value} {kap : Resume → Shared → Prop} (hout : out = done ++ d :: rest) (hr : TokRel S cT d v s.heap) (hs : SinceG C S s₀ s)
    (hk : ∀ s'' : Shared, (∀ b o, b ≠ S → s.heap.get? b = some o → s''.heap.get? b = some o) → (∃ o, s''.heap.get? S = some o) → kap (.send .none) s'') : protoG C S out (TokRel S cT) rest.length s₀ v s kap := by
  refine ⟨⟨d, ?_, hr⟩, hs, hk⟩
  have e : out.length - 1 - rest.length = done.length := by rw [hout, List.length_append, List.length_cons]; omega
  rw [e, hout, List.getElem?_append_right (Nat.le_refl _), Nat.sub_self]; rfl
theorem seg_ind {ι : Type} {M : Model} {A : Around} {R : GenEnd} {Y : Protocol} {c : Code} {t : Sem Fin} {fs : List Frame} (meas : ι → Nat) (I : ι → Nat → Shared → Shared → Prop)
    (turn : ∀ i, (∀ i' n s₀ s, meas i' < meas i → I i' n s₀ s → Seg M A R Y n s₀ c t fs s) → ∀ n s₀ s, I i n s₀ s → Seg M A R Y n s₀ c t fs s) (i : ι) (n : Nat) (s₀ s : Shared) (h : I i n s₀ s) : Seg M A R Y n s₀ c t fs s := by
  have key : ∀ k i, meas i < k → ∀ n s₀ s, I i n s₀ s → Seg M A R Y n s₀ c t fs s := by
    intro k
    induction k with
    | zero => intro i hi; exact absurd hi (Nat.not_lt_zero _)
    | succ k ih =>
      intro i hi
      exact turn i fun i' n s₀ s hlt hI => ih i' (by omega) n s₀ s hI
  exact key (meas i + 1) i (Nat.lt_succ_self _) n s₀ s h
/-- a generator that stands ready to give out -/
def GenFor (prog : Program) (w : World) (A : Around) (K : Frag) (cs : Scope) (outer : List Env) (base : Heap) (L cT : Addr) (news : List (Addr × Obj)) (gs : GenState) (C a : Addr) (oC : Obj) (out : List TokD) : Prop :=
  ∀ (h₁ : Heap) (m₁ : Str → Option Value) (led : List (Addr × Obj)) (h : Heap) (s'' : Shared), Cx K cs outer base h₁ L h m₁ led → (∀ p ∈ news, p ∈ led) → (C, oC) ∈ led → a < h.objs.size →
    (∀ b o, b ≠ h.objs.size → h.get? b = some o → s''.heap.get? b = some o) → (∃ o, s''.heap.get? h.objs.size = some o) → gs.Goes (model prog w) A (endG C h.objs.size) (protoG C h.objs.size out (TokRel h.objs.size cT)) out.length (.send .none) s''
section
variable {prog : Program} {w : World} {A : Around} {E : Value → Shared → Prop} {s : Shared} {base h₁ : Heap} {outer : List Env} {L cT C a : Addr} {m₁ : Str → Option Value} {cs : Scope} {news led : List (Addr × Obj)} {K : Frag} {gs : GenState} {g : Nat} {oC oa : Obj} {out : List TokD} {Q : Value → Shared → Prop}
theorem list_iter (X : Cx K cs outer base h₁ L s.heap m₁ led) (hh : A.handled = none) (hroom : A.depth < recursionLimit) (hnews : ∀ p ∈ news, p ∈ led) (hC : (C, oC) ∈ led) (ha : (a, oa) ∈ led) (hCa : C < a) (hLC : L < C) (hgen : s.heap.IsGen a g) (hgs : s.gens[g]? = some gs)
    (G : GenFor prog w A.in1.in1.in1 K cs outer base L cT news gs C a oC out) (hz : out.length ≤ 1000000) (hb : AllBare s.gens)
    (hQ : ∀ h' tk' gens' S vs n led', AllBare gens' → Cx K cs outer base h₁ L h' m₁ led' → (∀ p ∈ led, p ≠ (C, oC) → p ∈ led') → (S, listOf vs.toArray n) ∈ led' → S = s.heap.objs.size → ToksIn cT led' vs out → (∀ p ∈ led, p.1 < S) → Q (.ref S) { s with gens := gens', heap := h', toks := tk' }) :
    wpAny (model prog w) A (call (.type "list") [.ref a]) Q E s := by
  obtain ⟨⟨A₀, B⟩, F, XB, N, ⟨p, loose, mean, mg, mb, TB⟩, D, k⟩ := id X
  have hlim : s.heap.NoLimit := (TB.nolimit.keeps B.stays).keeps F.keep
  have hlt : ∀ q ∈ led, q.1 < s.heap.objs.size := fun q hq => Heap.lt_size (N q hq).1
  have hcC : cStatics ≠ C := by
    obtain ⟨o, ho⟩ := statics_in (TB.nolimit.keeps B.stays)
    intro e
    have := (N _ hC).2.2
    dsimp only at this
    rw [← e, ho] at this; cases this
  refine list_genD (C := C) (g := g) (out := out) (Rel := TokRel s.heap.objs.size cT) hh hroom (tokRel_ok _ _) hlim (hlt _ ha) hCa hcC hz ⟨hgen, hlim, fun j v hj => by simp at hj, fun b o e _ => e, GenOnly.refl' _ _, ⟨rfl, rfl⟩, gs, hgs, fun s'' hs hS => G h₁ m₁ led s.heap s'' X hnews hC (hlt _ ha) hs hS⟩ ?_
  intro s' vs c d hoS
  have hSn : ∀ b o, s.heap.get? b = some o → b ≠ s.heap.objs.size := fun b o e => Nat.ne_of_lt (Heap.lt_size e)
  have hLn : L ≠ C := Nat.ne_of_lt hLC
  have h0n : ∀ b o, h₁.get? b = some o → b ≠ C := fun b o e q => by
    have := (N _ hC).2.2
    dsimp only at this
    rw [q, this] at e; cases e
  have hup : ∀ b, s.heap.objs.size ≤ b → h₁.get? b = none := fun b hb => by
    cases q : h₁.get? b with
    | none => rfl
    | some o => exact absurd (Heap.lt_size (F.keep b o q)) (Nat.not_lt.mpr hb)
  have F' : Fr h₁ L s'.heap m₁ := ⟨F.ns.at' fun o e => d.keep L o e hLn, fun b o e => d.keep b o (F.keep b o e) (h0n b o e), F.above⟩
  have hLs : L < s.heap.objs.size := F.ns.lt
  have inL : ∀ {b : Addr} {o : Obj}, s'.heap.get? b = some o → s.heap.objs.size ≤ b → (b, o) ∈ restL h₁ L C s'.heap := fun {b o} e hb =>
    mem_restL.mpr ⟨Nat.ne_of_gt (Nat.lt_of_lt_of_le hLs hb), Nat.ne_of_gt (Nat.lt_of_lt_of_le (hlt _ hC) hb), hup b hb, e⟩
  have e : s' = { s with gens := s'.gens, heap := s'.heap, toks := s'.toks } := by
    have h1 := d.rest.1
    have h2 := d.rest.2
    cases s'; dsimp only at h1 h2 ⊢; rw [h1, h2]
  rw [e]
  refine hQ s'.heap s'.toks s'.gens _ vs c (restL h₁ L C s'.heap) (fun y hy => ?_) ⟨⟨A₀, B⟩, F', XB, fun q hq => ?_, ⟨p, loose, mean, mg, mb, TB⟩, D, k⟩ (fun q hq hne => ?_) (inL hoS (Nat.le_refl _)) rfl (toks_of d.len fun i v hv => ?_) hlt
  · obtain ⟨i, hi, rfl⟩ := Array.mem_iff_getElem.mp hy
    by_cases hig : i = g
    · subst hig
      have := d.fin
      rw [Array.getElem?_eq_getElem hi] at this
      rw [Option.some.inj this]; rfl
    · have h1 := d.gens.2 i hig
      rw [Array.getElem?_eq_getElem hi] at h1
      exact hb _ (Array.mem_of_getElem? h1.symm)
  · obtain ⟨h1, h2, h3, h4⟩ := mem_restL.mp hq
    exact ⟨h4, h1, h3⟩
  · obtain ⟨h1, h2, h3⟩ := N q hq
    have hqC : q.1 ≠ C := fun e => hne (by
      have h4 := (N _ hC).1
      dsimp only at h4
      rw [e, h4] at h1
      exact Prod.ext e (Option.some.inj h1).symm)
    exact mem_restL.mpr ⟨h2, hqC, h3, d.keep _ _ h1 hqC⟩
  · obtain ⟨x, hx, ta, dx, en, st, tx, vl, rfl, h1, h2, h3, h4, h5⟩ := d.at_ i v hv
    exact ⟨x, hx, ta, dx, en, st, tx, vl, rfl, inL h3 (Nat.le_of_lt h1), inL h4 (Nat.le_of_lt h2), h5⟩
end
end Mine
end
section
open PySem PySem.W PySem.Calls PyProof.Rows PyProof.V
namespace Mine
set_option maxRecDepth 100000
/-! rows of words, as lists -/
inductive LstsIn (led : List (Addr × Obj)) : List Value → List (List Str) → Prop
  | nil : LstsIn led [] []
  | cons {a : Addr} {wv : List Value} {n : Nat} {p : List Str} {vs : List Value} {ps : List (List Str)} : (a, listOf wv.toArray n) ∈ led → StrsAre wv p → LstsIn led vs ps → LstsIn led (.ref a :: vs) (p :: ps)
theorem lsts_mono {a b : List (Addr × Obj)} (k : ∀ p ∈ a, p ∈ b) : ∀ {vs : List Value} {ps : List (List Str)}, LstsIn a vs ps → LstsIn b vs ps
  | _, _, .nil => .nil
  | _, _, .cons h s r => .cons (k _ h) s (lsts_mono k r)
theorem lsts_off {d : Addr} {a b : List (Addr × Obj)} {o' : Obj} (hd : ∀ wv n, (d, listOf wv n) ∈ a → False) (k : ∀ p ∈ a, p.1 ≠ d → p ∈ b) : ∀ {vs : List Value} {ps : List (List Str)}, LstsIn a vs ps → LstsIn b vs ps
  | _, _, .nil => .nil
  | _, _, .cons (a := x) (wv := wv) (n := n) h s r => .cons (k _ h fun (e : x = d) => hd wv.toArray n (e ▸ h)) s (lsts_off (o' := o') hd k r)
theorem lsts_len {a : List (Addr × Obj)} : ∀ {vs : List Value} {ps : List (List Str)}, LstsIn a vs ps → vs.length = ps.length
  | _, _, .nil => rfl
  | _, _, .cons _ _ r => congrArg (· + 1) (lsts_len r)
theorem lsts_app {a : List (Addr × Obj)} : ∀ {vs us : List Value} {ps qs : List (List Str)}, LstsIn a vs ps → LstsIn a us qs → LstsIn a (vs ++ us) (ps ++ qs)
  | _, _, _, _, .nil, h => h
  | _, _, _, _, .cons h s r, k => .cons h s (lsts_app r k)
theorem lsts_at {a : List (Addr × Obj)} : ∀ {vs : List Value} {ps : List (List Str)}, LstsIn a vs ps → ∀ {i : Nat} {v : Value}, vs[i]? = some v → ∃ x wv n p, v = .ref x ∧ ps[i]? = some p ∧ (x, listOf wv.toArray n) ∈ a ∧ StrsAre wv p
  | _, _, .nil, _, _, h => by simp at h
  | _, _, .cons h s _, 0, _, e => ⟨_, _, _, _, (Option.some.inj e).symm, rfl, h, s⟩
  | _, _, .cons _ _ r, i + 1, _, e => by simpa using lsts_at r (i := i) (by simpa using e)
theorem rdAll_lsts {led : List (Addr × Obj)} : ∀ {vs : List Value} {ps : List (List Str)}, LstsIn led vs ps → RdAll led vs (ps.map fun p => .list (p.map PyData.str))
  | _, _, .nil => rdAll_nil
  | _, _, .cons h s r => rdAll_cons (rd_list h (rdAll_strs s)) (rdAll_lsts r)
def encL (p : List Str) : PyData := .list (p.map PyData.str)
theorem encL_inj {p q : List Str} (h : encL p = encL q) : p = q := by
  have h := PyData.list.inj h
  exact (List.map_inj_right (fun a b hab => by injection hab)).mp h
theorem encL_mem {p : List Str} {R : List (List Str)} : encL p ∈ R.map encL ↔ p ∈ R := by
  rw [List.mem_map]
  constructor
  · rintro ⟨q, hq, e⟩
    exact encL_inj e ▸ hq
  · intro h
    exact ⟨p, h, rfl⟩
theorem encL_plain {p : List Str} (h : StrsOk p) : plainD (encL p) = true := by unfold encL; rw [plainD]; exact plainAll_strs h
theorem encL_depth (p : List Str) : PyData.depth (encL p) ≤ 1 := by
  unfold encL
  rw [PyData.depth]
  have h : PyData.depthAll (p.map PyData.str) ≤ 0 := depthAll_le fun d hd => by
    obtain ⟨x, _, rfl⟩ := List.mem_map.mp hd
    rw [PyData.depth]; exact Nat.le_refl _
  omega
end Mine
end
section
open PySem PySem.W PySem.Calls PyProof.Rows PyProof.V
namespace Mine
set_option maxRecDepth 100000
/-! for a, b in enumerate(list) -/
def LoopAtT (prog : Program) (w : World) (A : Around) (env : Env) (target : PySem.Expr) (body : List Stmt) (Q : Flow → Shared → Prop) (E : Value → Shared → Prop) (it : Value) (s₂ : Shared) : Prop :=
  codeAny (model prog w) A (.forLoop target it body [] env) (fun r s' => match r with | .ok f => Q f s' | .error e => cameBackBy (model prog w) A env E e s') s₂
section
variable {prog : Program} {w : World} {A : Around} {E : Value → Shared → Prop} {s : Shared} {env : Env} {h₀ : Heap} {L : Addr} {iter : PySem.Expr} {body : List Stmt} {pos : Pos} {Q : Flow → Shared → Prop}
theorem For_T {target : PySem.Expr} (h : wpAny (model prog w) A (eval iter env) (fun xv s₁ => wpAny (model prog w) A (pyIter xv) (fun it s₂ => LoopAtT prog w A env target body Q E it s₂) E s₁) E s)
    (hs : ∀ x, foldedSetIterable iter env x = pure x := by intro _; rfl) : wpAny (model prog w) A (exec (.For target iter body [] pos) env) Q E s := wpAny_For h hs
theorem enum_callJ {elts : List PySem.Expr} {kx} {pt : Pos} {l : Addr} {vs : List Value} {n₀ : Nat} {m₀ : Str → Option Value} {news : List (Addr × Obj)} (J : Nat → (Str → Option Value) → List (Addr × Obj) → Prop)
    (hh : A.handled = none) (F : Fr h₀ L s.heap m₀) (N : News h₀ L s.heap news) (hlm : (l, listOf vs.toArray n₀) ∈ news) (hj : J 0 m₀ news)
    (turn : ∀ (i : Nat) v T t m₁ news₁ e e' own h tk, vs[i]? = some v → J i m₁ news₁ → (∀ p ∈ own, p.1 = e ∨ p.1 = e' ∨ p.1 = l) → (∀ p ∈ news₁, p.1 ≠ e ∧ p.1 ≠ e') → (∃ o, (e, o) ∈ own) → (∃ o, (e', o) ∈ own) → (∀ p ∈ news₁ ++ own, p.1 < T) →
      Fr h₀ L h m₁ → News h₀ L h ((T, tupO [.int (i : Nat) t, v]) :: (news₁ ++ own)) →
      wpAny (model prog w) A (assign (.Tuple elts kx pt) env (.ref T)) (fun _ s' => wpAny (model prog w) A (execs body env) (TurnPost h₀ L e own (fun m' nx => J (i + 1) m' nx ∧ ∀ p ∈ nx, p.1 ≠ e') { s with heap := h, toks := tk } Q) E s') E { s with heap := h, toks := tk })
    (done : ∀ m₁ news₁ h tk, J vs.length m₁ news₁ → Fr h₀ L h m₁ → News h₀ L h news₁ → Q .next { s with heap := h, toks := tk })
    (hE : PassesOwn (model prog w) A env E := by passes_own) :
    wpAny (model prog w) A (call (.type "enumerate") [.ref l]) (fun xv s₁ => wpAny (model prog w) A (pyIter xv) (fun it s₂ => LoopAtT prog w A env (.Tuple elts kx pt) body Q E it s₂) E s₁) E s := by
  have hl : s.heap.IsList l vs.toArray := PySem.IsL.isList (n := n₀) (N _ hlm).1
  have hln := (N _ hlm).2
  have hls : l < s.heap.objs.size := Heap.lt_size (N _ hlm).1
  have hLs : L < s.heap.objs.size := F.ns.lt
  refine call_enumerate_list hl fun h' he hit hsz hk => ?_
  refine wpAny_pyIter_enum he ?_
  generalize hS : s.heap.objs.size = S at *
  have hlt : ∀ p ∈ news, p.1 < S := fun p hp => hS ▸ Heap.lt_size (N p hp).1
  have h0S : ∀ b, S ≤ b → h₀.get? b = none := fun b hb => by
    cases q : h₀.get? b with
    | none => rfl
    | some o => exact absurd (Nat.lt_of_lt_of_le (Heap.lt_size q) (Nat.le_trans F.above (Nat.le_of_lt hLs))) (Nat.not_lt.mpr hb)
  have hei : S + 1 ≠ S := Nat.succ_ne_self _
  have hle : l ≠ S + 1 := Nat.ne_of_lt (Nat.lt_succ_of_lt hls)
  have hli : l ≠ S := Nat.ne_of_lt hls
  have hLe : L ≠ S + 1 := Nat.ne_of_lt (Nat.lt_succ_of_lt hLs)
  have hLi : L ≠ S := Nat.ne_of_lt hLs
  refine codeAny_forLoop_any (fun k s' => ∃ h' tk m' news' i old, s' = { s with heap := h', toks := tk } ∧ IsEnum h' (S + 1) S ((i : Nat) : Int) old ∧ h'.IsListIter S l i ∧ h'.IsList l vs.toArray ∧ Fr h₀ L h' m' ∧ News h₀ L h' news' ∧ (∀ p ∈ news', p.1 ≠ S + 1 ∧ p.1 ≠ S) ∧ J i m' news' ∧ i ≤ vs.length ∧ k = vs.length + 1 - i) ?_ (vs.length + 1)
    ⟨h', s.toks, m₀, news, 0, .none, rfl, he, hit, hl.at fun o e => hk l o e, ⟨F.ns.keeps hk, fun b o e => hk b o (F.keep b o e), F.above⟩, fun p hp => ⟨hk _ _ (N p hp).1, (N p hp).2⟩, fun p hp => ⟨Nat.ne_of_lt (Nat.lt_succ_of_lt (hlt p hp)), Nat.ne_of_lt (hlt p hp)⟩, hj, Nat.zero_le _, rfl⟩
  clear he hit hk hsz
  rintro k s' ⟨H, tk, m', news', i, old, rfl, he, hit, hl', F', N', hoff, hJ, hi, rfl⟩
  by_cases hlt' : i < vs.length
  rotate_left
  · have hin : i = vs.length := by omega
    subst hin
    refine wpAny_pyNext_enum_end hh he hit hl' (by simp) fun h₁ hx => wpAny_execs_nil ?_
    exact done m' news' h₁ tk hJ ⟨F'.ns.at' fun o e => hx L o hLi e, fun b o e => hx b o (fun q => by rw [q, h0S S (Nat.le_refl _)] at e; cases e) (F'.keep b o e), F'.above⟩ fun p hp => ⟨hx _ _ (hoff p hp).2 (N' p hp).1, (N' p hp).2⟩
  obtain ⟨v, hv⟩ : ∃ v, vs[i]? = some v := ⟨vs[i], by simp [hlt']⟩
  refine wpAny_pyNext_enum_item he hit hl' (x := v) (by simpa using hv) hei fun h₁ heo hit₁ hT hz₁ hk₁ => ?_
  refine wpAny_letOwnedTupleGo_enum heo fun h₂ he₂ hs₂ => ?_
  replace hs₂ : Heap.SameBut (S + 1) h₁ h₂ := hs₂
  have heH : S + 1 < H.objs.size := Heap.lt_size he
  have hup : ∀ b o, b ≠ S + 1 → b ≠ S → H.get? b = some o → h₂.get? b = some o := fun b o h1 h2 e => hs₂.extBut b o h1 (hk₁ b o h1 h2 e)
  have hT₂ := hs₂.extBut _ _ (Nat.ne_of_gt heH) hT
  have hit₂ : h₂.IsListIter S l (i + 1) := hit₁.at fun o e => hs₂.extBut _ _ hei.symm e
  have hl₂ : h₂.IsList l vs.toArray := hl'.at fun o e => hup l o hle hli e
  have F₂ : Fr h₀ L h₂ m' := ⟨F'.ns.at' fun o e => hup L o hLe hLi e, fun b o e => hup b o (fun q => by rw [q, h0S _ (Nat.le_succ _)] at e; cases e) (fun q => by rw [q, h0S S (Nat.le_refl _)] at e; cases e) (F'.keep b o e), F'.above⟩
  have hLH : L < H.objs.size := F'.ns.lt
  have hLfp : L ∉ [S + 1, S, l] := fun hm => by
    rcases List.mem_cons.mp hm with e | hm
    · exact hLe e
    rcases List.mem_cons.mp hm with e | hm
    · exact hLi e
    · exact hln.1 (List.mem_singleton.mp hm).symm
  have hltn : ∀ p ∈ news' ++ ownOf h₀ [S + 1, S, l] h₂, p.1 < H.objs.size := fun p hp => by
    rcases List.mem_append.mp hp with hp | hp
    · exact Heap.lt_size (N' p hp).1
    · have h1 := ownOf_sub p hp
      rcases List.mem_cons.mp h1 with e | h1
      · rw [e]; exact heH
      rcases List.mem_cons.mp h1 with e | h1
      · rw [e]; exact Nat.lt_trans (Nat.lt_succ_self _) heH
      · rw [List.mem_singleton.mp h1]
        obtain ⟨ol, hol, _⟩ := hl'
        exact Heap.lt_size hol
  have N₂ : News h₀ L h₂ ((H.objs.size, tupO [.int (i : Nat) tk, v]) :: (news' ++ ownOf h₀ [S + 1, S, l] h₂)) := fun p hp => by
    rcases List.mem_cons.mp hp with rfl | hp
    · exact ⟨hT₂, Nat.ne_of_gt hLH, h0S _ (Nat.le_trans (Nat.le_succ S) (Nat.le_of_lt heH))⟩
    rcases List.mem_append.mp hp with hp | hp
    · exact ⟨hup _ _ (hoff p hp).1 (hoff p hp).2 (N' p hp).1, (N' p hp).2⟩
    · exact news_ownOf hLfp p hp
  obtain ⟨oi, hoi, hic, hid⟩ := id hit₂
  have hown : ∀ p ∈ ownOf h₀ [S + 1, S, l] h₂, p.1 = S + 1 ∨ p.1 = S ∨ p.1 = l := fun p hp => by simpa using ownOf_sub p hp
  have me := mem_ownOf (fp := [S + 1, S, l]) (.head _) (h0S _ (Nat.le_succ S)) he₂
  have mi := mem_ownOf (fp := [S + 1, S, l]) (.tail _ (.head _)) (h0S _ (Nat.le_refl S)) hoi
  obtain ⟨ol, hol, hlc, hld⟩ := id hl₂
  have ml := mem_ownOf (h₀ := h₀) (fp := [S + 1, S, l]) (.tail _ (.tail _ (.head _))) hln.2 hol
  refine wpAny_mono (turn i v _ tk m' news' (S + 1) S _ h₂ (tk + 1) hv hJ hown hoff ⟨_, me⟩ ⟨_, mi⟩ hltn F₂ N₂) (fun _ s₄ h₄ => ?_) hE
  refine wpAny_mono h₄ (fun f s₃ h₃ => ?_) hE
  have fin : TurnEnd h₀ L (S + 1) (ownOf h₀ [S + 1, S, l] h₂) (fun m' nx => J (i + 1) m' nx ∧ ∀ p ∈ nx, p.1 ≠ S) { s with heap := h₂, toks := tk + 1 } s₃ → ∃ m, m < vs.length + 1 - i ∧ ∃ h' tk m' news' i old, s₃ = { s with heap := h', toks := tk } ∧ IsEnum h' (S + 1) S ((i : Nat) : Int) old ∧ h'.IsListIter S l i ∧ h'.IsList l vs.toArray ∧ Fr h₀ L h' m' ∧ News h₀ L h' news' ∧ (∀ p ∈ news', p.1 ≠ S + 1 ∧ p.1 ≠ S) ∧ J i m' news' ∧ i ≤ vs.length ∧ m = vs.length + 1 - i := by
    rintro ⟨h₃', tk₃, m₃, all, nx, rfl, F₃, N₃, ho, hn, hI, hJ₃, hS₃⟩
    refine ⟨vs.length + 1 - (i + 1), by omega, h₃', tk₃, m₃, nx, i + 1, v, rfl, ?_, ⟨oi, (N₃ _ (ho _ mi)).1, hic, hid⟩, ⟨ol, (N₃ _ (ho _ ml)).1, hlc, hld⟩, F₃, fun p hp => N₃ p (hn p hp), fun p hp => ⟨hI p hp, hS₃ p hp⟩, hJ₃, hlt', rfl⟩
    have e : ((i + 1 : Nat) : Int) = (i : Int) + 1 := by push_cast; rfl
    rw [e]
    exact (N₃ _ (ho _ me)).1
  cases f with
  | ret v => exact h₃
  | brk => exact h₃
  | cont => exact fin h₃
  | next => exact fin h₃
end
end Mine
end
section
open PySem PySem.W PySem.Calls PyProof.Rows PyProof.V
namespace Mine
set_option maxRecDepth 100000
theorem strs_drop : ∀ {vs : List Value} {ws : List Str}, StrsAre vs ws → ∀ k : Nat, StrsAre (vs.drop k) (ws.drop k)
  | _, _, h, 0 => h
  | _, _, .nil, _ + 1 => .nil
  | _, _, .cons _ _ h, k + 1 => strs_drop h k
section
variable {prog : Program} {w : World} {A : Around} {E : Value → Shared → Prop} {s : Shared} {h₀ : Heap} {L l : Addr} {m : Str → Option Value} {news : List (Addr × Obj)} {vs : List Value} {n : Nat} {Q : Value → Shared → Prop}
theorem slice_list_mid {value slice : PySem.Expr} {a b : Nat} {u u' : Tok} (F : Fr h₀ L s.heap m) (N : News h₀ L s.heap news) (hm : (l, listOf vs.toArray n) ∈ news) (hz : vs.length ≤ 1000000) (hb : b ≤ vs.length) (hab : a ≤ b)
    (h : ∀ D h', Fr h₀ L h' m → News h₀ L h' ((D, listOf ((vs.drop a).take (b - a)).toArray 0) :: news) → (∀ p ∈ news, p.1 < D) → Q (.ref D) { s with heap := h' })
    (hs : subscripted slice false (.ref l) (.ref s.heap.objs.size) = operate [.ref s.heap.objs.size, .ref l] (getItem (.ref l) (.ref s.heap.objs.size)) := by with_unfolding_all rfl) :
    wpAny (model prog w) A (subscriptTail value slice (.ref l) (.ref s.heap.objs.size)) Q E { s with heap := s.heap.push { cls := .type "slice", data := .fields #[.int a u', .int b u, .none] } } := by
  refine kba_turn (value' := PySem.Expr.Name "x" ⟨0, 0, 0, 0⟩) (fun _ => rfl) ?_
  refine kmk_slice F N (PySem.IsL.isList (n := n) (N _ hm).1) (lo := some (a : Int)) (hi := some (b : Int)) ?_ ?_ (fun D h' F' N' l1 => h D h' F' ?_ l1) hs (fun _ => rfl) (by rw [sizeLine_eq, List.size_toArray]; omega)
  · first | exact .int _ _ | exact rfl | constructor
  · first | exact .int _ _ | exact rfl | constructor
  · rw [slicePick_run _ a b (by simpa using hb) hab] at N'; exact N'
theorem slice_list_midI {value slice : PySem.Expr} {lo hi : Int} {a b : Nat} {u u' : Tok} (F : Fr h₀ L s.heap m) (N : News h₀ L s.heap news) (hm : (l, listOf vs.toArray n) ∈ news) (e1 : lo = a) (e2 : hi = b) (hz : vs.length ≤ 1000000) (hb : b ≤ vs.length) (hab : a ≤ b)
    (h : ∀ D h', Fr h₀ L h' m → News h₀ L h' ((D, listOf ((vs.drop a).take (b - a)).toArray 0) :: news) → (∀ p ∈ news, p.1 < D) → Q (.ref D) { s with heap := h' })
    (hs : subscripted slice false (.ref l) (.ref s.heap.objs.size) = operate [.ref s.heap.objs.size, .ref l] (getItem (.ref l) (.ref s.heap.objs.size)) := by with_unfolding_all rfl) :
    wpAny (model prog w) A (subscriptTail value slice (.ref l) (.ref s.heap.objs.size)) Q E { s with heap := s.heap.push { cls := .type "slice", data := .fields #[.int lo u', .int hi u, .none] } } := by
  subst e1
  subst e2
  exact slice_list_mid F N hm hz hb hab h hs
end
section
variable {prog : Program} {w : World} {A : Around} {E : Value → Shared → Prop} {s : Shared} {env : Env} {h₀ : Heap} {L : Addr} {body : List Stmt} {pos : Pos} {target : PySem.Expr} {Q : Flow → Shared → Prop}
theorem iter_tupleA {l : Addr} {vs : List Value} {m₀ : Str → Option Value} {news : List (Addr × Obj)} (J : Nat → (Str → Option Value) → List (Addr × Obj) → Prop)
    (hh : A.handled = none) (ho : ∀ I v, letOwnedTupleGo target (.ref I) v = pure ()) (hl : IsTup s.heap l vs.toArray) (hL : l ≠ L) (F : Fr h₀ L s.heap m₀) (N : News h₀ L s.heap news) (hj : J 0 m₀ news)
    (turn : ∀ i v m₁ news₁ I own h tk, vs[i]? = some v → J i m₁ news₁ → (∀ p ∈ own, p.1 = I ∨ p.1 = l) → (∀ p ∈ news₁, p.1 ≠ I) → (∃ o, (I, o) ∈ own) → l ≠ I →
      Fr h₀ L h m₁ → News h₀ L h (news₁ ++ own) →
      wpAny (model prog w) A (assign target env v) (fun _ s' => wpAny (model prog w) A (execs body env) (TurnPost h₀ L I own (J (i + 1)) { s with heap := h, toks := tk } Q) E s') E { s with heap := h, toks := tk })
    (done : ∀ m₁ news₁ h tk, J vs.length m₁ news₁ → Fr h₀ L h m₁ → News h₀ L h news₁ → Q .next { s with heap := h, toks := tk }) :
    wpAny (model prog w) A (pyIter (.ref l)) (fun it s₂ => LoopAtA prog w A h₀ L env target body Q E it s₂) E s := by
  obtain ⟨ol, hol, _⟩ := id hl
  have hlt : l < s.heap.objs.size := Heap.lt_size hol
  refine wpAny_pyIter_tuple hl ?_
  have hn := next_is_new F
  have W := Walks.tuple (prog := prog) (w := w) hh s.heap.objs.size l (Nat.ne_of_lt hlt) vs.toArray
  have hlen : vs.toArray.size = vs.length := by simp
  rw [hlen] at W
  refine loopA J W (ho _) ⟨⟨_, Heap.get?_push_size _ rfl, rfl, rfl⟩, hl.keeps fun _ _ e => Heap.get?_push_of_some _ e⟩ ?_ hn ?_ (F.push _) (fun p hp => ⟨Heap.get?_push_of_some _ (N p hp).1, (N p hp).2⟩) hj ?_ ?_
  · intro hm
    rcases List.mem_cons.mp hm with e | hm
    · exact absurd F.ns.lt (e ▸ Nat.lt_irrefl _)
    · exact hL (List.mem_singleton.mp hm).symm
  · intro p hp hI; exact absurd (Heap.lt_size (N p hp).1) (hI ▸ Nat.lt_irrefl _)
  · rintro i v m₁ news₁ own h tk _ hP hJ hown hoff hall ⟨⟨o, ho, hoc⟩, hl'⟩ F₁ N₁
    exact turn i v m₁ news₁ _ own h tk (by simpa using hP) hJ (fun p hp => by simpa using hown p hp) hoff ⟨o, hall _ (.head _) hn o ho⟩ (Nat.ne_of_lt hlt) F₁ N₁
  · intro m₁ news₁ h tk hJ _ F₁ N₁
    exact done m₁ news₁ h tk hJ F₁ N₁
end
end Mine
end
section
open PySem PySem.W PySem.Calls PyProof.Rows
namespace Mine
set_option maxRecDepth 100000
/-! ledgers that lie apart, in three parts: the head, the nodes, the rest -/
section
variable {X Y rest rest' : List (Addr × Obj)} {c a : Addr} {o o' : Obj}
theorem apart3 : Apart (X ++ (Y ++ rest)) ↔ Apart X ∧ Apart Y ∧ Apart rest ∧ (∀ p ∈ X, ∀ q ∈ Y, p.1 ≠ q.1) ∧ (∀ p ∈ X, ∀ q ∈ rest, p.1 ≠ q.1) ∧ ∀ p ∈ Y, ∀ q ∈ rest, p.1 ≠ q.1 := by
  rw [apart_app, apart_app]
  constructor
  · rintro ⟨h1, ⟨h2, h3, h4⟩, h5⟩
    exact ⟨h1, h2, h3, fun p hp q hq => h5 p hp q (List.mem_append_left _ hq), fun p hp q hq => h5 p hp q (List.mem_append_right _ hq), h4⟩
  · rintro ⟨h1, h2, h3, h4, h5, h6⟩
    exact ⟨h1, ⟨h2, h3, h6⟩, fun p hp q hq => (List.mem_append.mp hq).elim (h4 p hp q) (h5 p hp q)⟩
theorem apart_but {l : List (Addr × Obj)} (h : Apart l) : Apart (but c l) := by
  unfold Apart but at *
  exact h.sublist (List.Sublist.map _ List.filter_sublist)
theorem apart_put (h : Apart (X ++ (Y ++ rest))) (hc : (c, o) ∈ rest) : Apart (X ++ (Y ++ ((c, o') :: but c rest))) := by
  obtain ⟨h1, h2, h3, h4, h5, h6⟩ := apart3.mp h
  refine apart3.mpr ⟨h1, h2, apart_cons.mpr ⟨but_off, apart_but h3⟩, h4, fun p hp q hq => ?_, fun p hp q hq => ?_⟩
  · rcases List.mem_cons.mp hq with rfl | hq
    · exact h5 p hp (c, o) hc
    · exact h5 p hp q (mem_but.mp hq).1
  · rcases List.mem_cons.mp hq with rfl | hq
    · exact h6 p hp (c, o) hc
    · exact h6 p hp q (mem_but.mp hq).1
theorem apart_new (h : Apart (X ++ (Y ++ rest))) (ha : ∀ p ∈ X ++ (Y ++ rest), p.1 ≠ a) : Apart (X ++ (Y ++ ((a, o) :: rest))) := by
  obtain ⟨h1, h2, h3, h4, h5, h6⟩ := apart3.mp h
  refine apart3.mpr ⟨h1, h2, apart_cons.mpr ⟨fun p hp => ha p (List.mem_append_right _ (List.mem_append_right _ hp)), h3⟩, h4, fun p hp q hq => ?_, fun p hp q hq => ?_⟩
  · rcases List.mem_cons.mp hq with rfl | hq
    · exact ha p (List.mem_append_left _ hp)
    · exact h5 p hp q hq
  · rcases List.mem_cons.mp hq with rfl | hq
    · exact ha p (List.mem_append_right _ (List.mem_append_left _ hp))
    · exact h6 p hp q hq
theorem apart_less (h : Apart (X ++ (Y ++ rest))) : Apart (X ++ (Y ++ but c rest)) := by
  obtain ⟨h1, h2, h3, h4, h5, h6⟩ := apart3.mp h
  exact apart3.mpr ⟨h1, h2, apart_but h3, h4, fun p hp q hq => h5 p hp q (mem_but.mp hq).1, fun p hp q hq => h6 p hp q (mem_but.mp hq).1⟩
/-- an entry of the rest put anew: the ledger in its three parts -/
theorem put3 (h : Apart (X ++ (Y ++ rest))) (hc : (c, o) ∈ rest) : ∀ p ∈ X ++ (Y ++ ((c, o') :: but c rest)), p ∈ (c, o') :: but c (X ++ (Y ++ rest)) := by
  obtain ⟨h1, h2, h3, h4, h5, h6⟩ := apart3.mp h
  intro p hp
  rcases List.mem_append.mp hp with hp | hp
  · exact mem_put (List.mem_append_left _ hp) (h5 p hp _ hc)
  rcases List.mem_append.mp hp with hp | hp
  · exact mem_put (List.mem_append_right _ (List.mem_append_left _ hp)) (h6 p hp _ hc)
  rcases List.mem_cons.mp hp with rfl | hp
  · exact .head _
  · obtain ⟨a1, a2⟩ := mem_but.mp hp
    exact mem_put (List.mem_append_right _ (List.mem_append_right _ a1)) a2
theorem new3 : ∀ p ∈ X ++ (Y ++ ((a, o) :: rest)), p ∈ (a, o) :: (X ++ (Y ++ rest)) := fun p hp => by
  rcases List.mem_append.mp hp with hp | hp
  · exact .tail _ (List.mem_append_left _ hp)
  rcases List.mem_append.mp hp with hp | hp
  · exact .tail _ (List.mem_append_right _ (List.mem_append_left _ hp))
  rcases List.mem_cons.mp hp with rfl | hp
  · exact .head _
  · exact .tail _ (List.mem_append_right _ (List.mem_append_right _ hp))
theorem less3 : ∀ p ∈ X ++ (Y ++ but c rest), p ∈ X ++ (Y ++ rest) := fun p hp => by
  rcases List.mem_append.mp hp with hp | hp
  · exact List.mem_append_left _ hp
  rcases List.mem_append.mp hp with hp | hp
  · exact List.mem_append_right _ (List.mem_append_left _ hp)
  · exact List.mem_append_right _ (List.mem_append_right _ (mem_but.mp hp).1)
end
theorem apart_ne2 {l : List (Addr × Obj)} (h : Apart l) {a b : Addr} {o o' : Obj} (ha : (a, o) ∈ l) (hb : (b, o') ∈ l) (hne : o ≠ o') : a ≠ b := fun e => by
  have := apart_eq h ha hb e
  exact hne (congrArg Prod.snd this)
theorem own_one {h₀ h : Heap} {L I : Addr} {led own : List (Addr × Obj)} {oI : Obj} (N : News h₀ L h led) (hs : ∀ p ∈ own, p ∈ led) (ho : ∀ p ∈ own, p.1 = I) (hI : (I, oI) ∈ own) : ∀ p ∈ own, p = (I, oI) := fun p hp => by
  have h1 := (N p (hs p hp)).1
  have h2 := (N _ (hs _ hI)).1
  have e := ho p hp
  dsimp only at h2
  rw [e, h2] at h1
  exact Prod.ext e (Option.some.inj h1).symm
def CellIs (led : List (Addr × Obj)) (c : Addr) (v : Option Value) : Prop := ∃ o, (c, o) ∈ led ∧ o.data = .cell v
/-- rows of words, as tuples -/
inductive PathsIn (led : List (Addr × Obj)) : List Value → List (List Str) → Prop
  | nil : PathsIn led [] []
  | cons {a : Addr} {wv : List Value} {p : List Str} {vs : List Value} {ps : List (List Str)} : (a, tupO wv) ∈ led → StrsAre wv p → PathsIn led vs ps → PathsIn led (.ref a :: vs) (p :: ps)
theorem paths_mono {a b : List (Addr × Obj)} (k : ∀ p ∈ a, (∃ vs, p.2 = tupO vs) → p ∈ b) : ∀ {vs : List Value} {ps : List (List Str)}, PathsIn a vs ps → PathsIn b vs ps
  | _, _, .nil => .nil
  | _, _, .cons h s r => .cons (k _ h ⟨_, rfl⟩) s (paths_mono k r)
theorem paths_len {a : List (Addr × Obj)} : ∀ {vs : List Value} {ps : List (List Str)}, PathsIn a vs ps → vs.length = ps.length
  | _, _, .nil => rfl
  | _, _, .cons _ _ r => congrArg (· + 1) (paths_len r)
theorem paths_app {a : List (Addr × Obj)} : ∀ {vs us : List Value} {ps qs : List (List Str)}, PathsIn a vs ps → PathsIn a us qs → PathsIn a (vs ++ us) (ps ++ qs)
  | _, _, _, _, .nil, h => h
  | _, _, _, _, .cons h s r, k => .cons h s (paths_app r k)
theorem rdAll_paths {led : List (Addr × Obj)} : ∀ {vs : List Value} {ps : List (List Str)}, PathsIn led vs ps → RdAll led vs (ps.map fun p => .tuple (p.map PyData.str))
  | _, _, .nil => rdAll_nil
  | _, _, .cons h s r => rdAll_cons (rd_tup h (rdAll_strs s)) (rdAll_paths r)
theorem outs_keep {nilA : Addr} {nd : List Nd} {O : List (Option (Str × Str))} {a b : List (Addr × Obj)} (k : ∀ p ∈ a, (∃ vs, p.2 = tupO vs) → p ∈ b) (h : Outs nilA nd O a) : Outs nilA nd O b :=
  ⟨h.len, h.none_, fun i n x y hn hi => by
    obtain ⟨ta, t, u, h1, h2⟩ := h.some_ i n x y hn hi
    exact ⟨ta, t, u, h1, k _ h2 ⟨_, rfl⟩⟩⟩
theorem TrieS.keep {prog : Program} {w : World} {nilA cT cN : Addr} {H : TrieHd} {nd : List Nd} {P : List (List Str)} {O : List (Option (Str × Str))} {ks : List Str} {a b : List (Addr × Obj)} (k : ∀ p ∈ a, (∃ vs, p.2 = tupO vs) → p ∈ b) (h : TrieS prog w nilA cT cN H nd P O ks a)
    (hap : Apart (hdObjs w.params cT false H (adOf nd 0) ++ (objsOf cN nd ++ b))) : TrieS prog w nilA cT cN H nd P O ks b :=
  ⟨h.ok, h.known, outs_keep k h.outs, h.fails, hap⟩
theorem cell_not_tuple {o : Obj} {v : Option Value} (h : o.data = .cell v) : ∀ vs, o ≠ tupO vs := fun vs e => by rw [e] at h; cases h
theorem cell_not_list {o : Obj} {v : Option Value} (h : o.data = .cell v) : ∀ its n, o ≠ listOf its n := fun vs n e => by rw [e] at h; cases h
theorem cell_not_tab {o : Obj} {v : Option Value} (h : o.data = .cell v) : ∀ ps, o ≠ tabObj ps := fun vs e => by rw [e] at h; cases h
end Mine
end
section
open PySem PySem.W PySem.Calls PyProof.Rows
namespace Mine
set_option maxRecDepth 100000
/-! the library's sorting tree, read with a strict total order -/
def kev {α : Type} (lt : Nat → Nat → Bool) : KasT α → α
  | .ret a => a
  | .ask i j k => kev lt (k (lt i j))
theorem kev_bind {α β : Type} (lt : Nat → Nat → Bool) (f : α → KasT β) : ∀ t : KasT α, kev lt (t.bind f) = kev lt (f (kev lt t))
  | .ret _ => rfl
  | .ask i j k => kev_bind lt f (k (lt i j))
theorem kev_wp {α : Type} {lt : Nat → Nat → Bool} {cmp : Nat → Nat → (Bool → Shared → Prop) → Shared → Prop} {I : Shared → Prop} (hc : ∀ i j (Q : Bool → Shared → Prop) s, I s → (∀ s', I s' → Q (lt i j) s') → cmp i j Q s) {Q : α → Shared → Prop} : ∀ (t : KasT α) (s : Shared), I s → (∀ s', I s' → Q (kev lt t) s') → t.kasWp cmp Q s
  | .ret _, s, hs, h => h s hs
  | .ask i j k, s, hs, h => hc i j _ s hs fun s' hs' => kev_wp hc (k (lt i j)) s' hs' h
/-- a strict total order on the places below n -/
structure Ord (lt : Nat → Nat → Bool) (n : Nat) : Prop where
  total : ∀ i j, i < n → j < n → i ≠ j → lt i j = true ∨ lt j i = true
  asym : ∀ i j, lt i j = true → lt j i = false
  trans : ∀ i j k, lt i j = true → lt j k = true → lt i k = true
def Placed (p : Array Nat) (n : Nat) : Prop := p.Perm (List.range n).toArray
def Up (lt : Nat → Nat → Bool) (p : Array Nat) (m : Nat) : Prop := ∀ a b, a < b → b < m → lt (p.getD a 0) (p.getD b 0) = true
theorem placed_size {p : Array Nat} {n : Nat} (h : Placed p n) : p.size = n := by
  have := h.size_eq
  simpa using this
theorem placed_lt {p : Array Nat} {n a : Nat} (h : Placed p n) (ha : a < n) : p.getD a 0 < n := by
  have hs := placed_size h
  have hm : p.getD a 0 ∈ p := by
    rw [Array.getD_eq_getD_getElem?, Array.getElem?_eq_getElem (by omega)]
    exact Array.getElem_mem _
  have := h.mem_iff.mp hm
  simpa using this
theorem placed_ne {p : Array Nat} {n a b : Nat} (h : Placed p n) (ha : a < n) (hb : b < n) (hab : a ≠ b) : p.getD a 0 ≠ p.getD b 0 := by
  have hs := placed_size h
  have hn : p.toList.Nodup := (Array.perm_iff_toList_perm.mp h).nodup_iff.mpr (by simpa using List.nodup_range)
  rw [Array.getD_eq_getD_getElem?, Array.getD_eq_getD_getElem?, Array.getElem?_eq_getElem (by omega), Array.getElem?_eq_getElem (by omega)]
  intro e
  have e2 : p.toList[a]? = p.toList[b]? := by
    rw [Array.getElem?_toList, Array.getElem?_toList, Array.getElem?_eq_getElem (by omega), Array.getElem?_eq_getElem (by omega)]
    exact congrArg some e
  exact hab ((List.getElem?_inj (by rw [Array.length_toList]; omega) hn).mp e2)
theorem up_ext {lt : Nat → Nat → Bool} {p : Array Nat} {n m : Nat} (O : Ord lt n) (h : Placed p n) (hu : Up lt p m) (hm1 : 1 ≤ m) (hm : m < n) (hl : lt (p.getD m 0) (p.getD (m - 1) 0) = false) : Up lt p (m + 1) := fun a b hab hb => by
  by_cases hbm : b < m
  · exact hu a b hab hbm
  · have e : b = m := by omega
    subst e
    have h1 : lt (p.getD (b - 1) 0) (p.getD b 0) = true := by
      rcases O.total _ _ (placed_lt h (a := b - 1) (by omega)) (placed_lt h hm) (placed_ne h (by omega) hm (by omega)) with h1 | h1
      · exact h1
      · rw [h1] at hl; cases hl
    by_cases ha : a = b - 1
    · rw [ha]; exact h1
    · exact O.trans _ _ _ (hu a (b - 1) (by omega) (by omega)) h1
theorem kas_asc_up {lt : Nat → Nat → Bool} {p : Array Nat} {n : Nat} (O : Ord lt n) (h : Placed p n) : ∀ (f m : Nat), 1 ≤ m → m + f = n → Up lt p m → m ≤ kev lt (kas_asc p f m) ∧ kev lt (kas_asc p f m) ≤ n ∧ Up lt p (kev lt (kas_asc p f m))
  | 0, m, _, hf, hu => ⟨Nat.le_refl _, by show m ≤ n; omega, hu⟩
  | f + 1, m, h1, hf, hu => by
    show _ ≤ kev lt (if lt (p.getD m 0) (p.getD (m - 1) 0) = true then .ret m else kas_asc p f (m + 1)) ∧ kev lt (if lt (p.getD m 0) (p.getD (m - 1) 0) = true then .ret m else kas_asc p f (m + 1)) ≤ n ∧ Up lt p (kev lt (if lt (p.getD m 0) (p.getD (m - 1) 0) = true then .ret m else kas_asc p f (m + 1)))
    by_cases hc : lt (p.getD m 0) (p.getD (m - 1) 0) = true
    · rw [if_pos hc]
      exact ⟨Nat.le_refl _, by show m ≤ n; omega, hu⟩
    · rw [if_neg hc]
      obtain ⟨a1, a2, a3⟩ := kas_asc_up O h f (m + 1) (by omega) (by omega) (up_ext O h hu h1 (by omega) (by simpa using hc))
      exact ⟨by omega, a2, a3⟩
theorem kas_place_ok {lt : Nat → Nat → Bool} {p : Array Nat} {n k : Nat} (O : Ord lt n) (h : Placed p n) (hk : k < n) (hu : Up lt p k) : ∀ (f l r : Nat), l ≤ r → r ≤ k → r - l ≤ f → (∀ a, a < l → lt (p.getD a 0) (p.getD k 0) = true) → (∀ a, r ≤ a → a < k → lt (p.getD k 0) (p.getD a 0) = true) →
    kev lt (kas_place p k f l r) ≤ k ∧ (∀ a, a < kev lt (kas_place p k f l r) → lt (p.getD a 0) (p.getD k 0) = true) ∧ (∀ a, kev lt (kas_place p k f l r) ≤ a → a < k → lt (p.getD k 0) (p.getD a 0) = true)
  | 0, l, r, hlr, hrk, hf, h1, h2 => ⟨by show l ≤ k; omega, h1, fun a ha => h2 a (by have ha : l ≤ a := ha; omega)⟩
  | f + 1, l, r, hlr, hrk, hf, h1, h2 => by
    by_cases hge : l ≥ r
    · have e : kas_place p k (f + 1) l r = .ret l := by
        show (if l ≥ r then KasT.ret l else _) = _
        rw [if_pos hge]
      rw [e]
      exact ⟨by show l ≤ k; omega, h1, fun a ha => h2 a (by have ha : l ≤ a := ha; omega)⟩
    · have e : kev lt (kas_place p k (f + 1) l r) = kev lt (if lt (p.getD k 0) (p.getD ((l + r) / 2) 0) = true then kas_place p k f l ((l + r) / 2) else kas_place p k f ((l + r) / 2 + 1) r) := by
        show kev lt (if l ≥ r then KasT.ret l else _) = _
        rw [if_neg hge]; rfl
      rw [e]
      have hm : (l + r) / 2 < r := by omega
      by_cases hc : lt (p.getD k 0) (p.getD ((l + r) / 2) 0) = true
      · rw [if_pos hc]
        refine kas_place_ok O h hk hu f l _ (by omega) (by omega) (by omega) h1 fun a ha hak => ?_
        by_cases he : a = (l + r) / 2
        · rw [he]; exact hc
        · exact O.trans _ _ _ hc (hu _ a (by omega) hak)
      · rw [if_neg hc]
        refine kas_place_ok O h hk hu f _ r (by omega) hrk (by omega) (fun a ha => ?_) h2
        have hmid : lt (p.getD ((l + r) / 2) 0) (p.getD k 0) = true := by
          rcases O.total _ _ (placed_lt h (a := (l + r) / 2) (by omega)) (placed_lt h hk) (placed_ne h (by omega) hk (by omega)) with q | q
          · exact q
          · exact absurd q hc
        by_cases he : a = (l + r) / 2
        · rw [he]; exact hmid
        · exact O.trans _ _ _ (hu a _ (by omega) (by omega)) hmid
theorem bubble_getD {p : Array Nat} {k l : Nat} (hk : k < p.size) (hl : l ≤ k) (a : Nat) : (bubble p k (k - l)).getD a 0 = if a = l then p.getD k 0 else if l < a ∧ a ≤ k then p.getD (a - 1) 0 else p.getD a 0 := by
  simp only [Array.getD_eq_getD_getElem?]
  rw [getElem?_bubble hk (k - l) (by omega) a, show k - (k - l) = l by omega]
  by_cases h1 : a = l
  · rw [if_pos h1, if_pos h1]
  · rw [if_neg h1, if_neg h1]
    by_cases h2 : l < a ∧ a ≤ k
    · rw [if_pos h2, if_pos h2]
    · rw [if_neg h2, if_neg h2]
theorem kas_bin_up {lt : Nat → Nat → Bool} {n : Nat} (O : Ord lt n) : ∀ (f k : Nat) (p : Array Nat), k + f = n → Placed p n → Up lt p k → Placed (kev lt (kas_bin f p k)) n ∧ Up lt (kev lt (kas_bin f p k)) n
  | 0, k, p, hf, hp, hu => ⟨hp, by have e : k = n := by omega
                                   rw [← e]; exact hu⟩
  | f + 1, k, p, hf, hp, hu => by
    have e : kev lt (kas_bin (f + 1) p k) = kev lt (kas_bin f (bubble p k (k - kev lt (kas_place p k k 0 k))) (k + 1)) := kev_bind lt _ _
    obtain ⟨h1, h2, h3⟩ := kas_place_ok O hp (by omega) hu k 0 k (by omega) (by omega) (by omega) (fun a ha => absurd ha (by omega)) (fun a ha hk => absurd hk (by omega))
    rw [e]
    generalize kev lt (kas_place p k k 0 k) = l at *
    have hs := placed_size hp
    refine kas_bin_up O f (k + 1) _ (by omega) ((bubble_perm p k (k - l)).trans hp) fun a b hab hb => ?_
    rw [bubble_getD (by omega) h1, bubble_getD (by omega) h1]
    by_cases ha : a = l
    · rw [if_pos ha]
      by_cases hb2 : b = l
      · omega
      · rw [if_neg hb2, if_pos (by omega)]
        exact h3 _ (by omega) (by omega)
    · rw [if_neg ha]
      by_cases hb2 : b = l
      · rw [if_pos hb2, if_neg (by omega)]
        exact h2 a (by omega)
      · rw [if_neg hb2]
        split <;> split
        · exact hu _ _ (by omega) (by omega)
        · omega
        · exact hu _ _ (by omega) (by omega)
        · exact hu _ _ (by omega) (by omega)
def Down (lt : Nat → Nat → Bool) (p : Array Nat) (m : Nat) : Prop := ∀ a b, a < b → b < m → lt (p.getD b 0) (p.getD a 0) = true
theorem down_ext {lt : Nat → Nat → Bool} {p : Array Nat} {n m : Nat} (O : Ord lt n) (hu : Down lt p m) (hm1 : 1 ≤ m) (hl : lt (p.getD m 0) (p.getD (m - 1) 0) = true) : Down lt p (m + 1) := fun a b hab hb => by
  by_cases hbm : b < m
  · exact hu a b hab hbm
  · have e : b = m := by omega
    subst e
    by_cases ha : a = b - 1
    · rw [ha]; exact hl
    · exact O.trans _ _ _ hl (hu a (b - 1) (by omega) (by omega))
theorem kas_desc_down {lt : Nat → Nat → Bool} {p : Array Nat} {n : Nat} (O : Ord lt n) (h : Placed p n) : ∀ (f m : Nat), 1 ≤ m → m + f = n → Down lt p m → ∃ m', kev lt (kas_desc f p m 0) = (p, m', 0) ∧ m ≤ m' ∧ m' ≤ n ∧ Down lt p m'
  | 0, m, _, hf, hu => ⟨m, rfl, Nat.le_refl _, by omega, hu⟩
  | f + 1, m, h1, hf, hu => by
    by_cases hc : lt (p.getD m 0) (p.getD (m - 1) 0) = true
    · obtain ⟨m', e, a1, a2, a3⟩ := kas_desc_down O h f (m + 1) (by omega) (by omega) (down_ext O hu h1 hc)
      refine ⟨m', ?_, by omega, a2, a3⟩
      rw [← e]
      show kev lt (if lt (p.getD m 0) (p.getD (m - 1) 0) = true then (if 0 > 0 then _ else kas_desc f p (m + 1) 0) else _) = _
      rw [if_pos hc, if_neg (by decide)]
    · have hd : lt (p.getD (m - 1) 0) (p.getD m 0) = true := by
        rcases O.total _ _ (placed_lt h (a := m - 1) (by omega)) (placed_lt h (a := m) (by omega)) (placed_ne h (by omega) (by omega) (by omega)) with q | q
        · exact q
        · exact absurd q hc
      refine ⟨m, ?_, Nat.le_refl _, by omega, hu⟩
      show kev lt (if lt (p.getD m 0) (p.getD (m - 1) 0) = true then _ else KasT.ask (p.getD (m - 1) 0) (p.getD m 0) fun d => if d = true then .ret (p, m, 0) else kas_desc f p (m + 1) (0 + 1)) = _
      rw [if_neg hc]
      show kev lt (if lt (p.getD (m - 1) 0) (p.getD m 0) = true then KasT.ret (p, m, 0) else _) = _
      rw [if_pos hd]; rfl
theorem rev_up {lt : Nat → Nat → Bool} {p : Array Nat} {n m : Nat} (h : Placed p n) (hm : m ≤ n) (hd : Down lt p m) : Placed (kas_rev p 0 m) n ∧ Up lt (kas_rev p 0 m) m := by
  have hs := placed_size h
  refine ⟨(mirror_perm _ _ _ _).trans h, fun a b hab hb => ?_⟩
  have e : ∀ k, k < m → (kas_rev p 0 m).getD k 0 = p.getD (m - 1 - k) 0 := fun k hk => by
    simp only [Array.getD_eq_getD_getElem?]
    unfold kas_rev
    rw [getElem?_mirror_all (by omega) k, if_pos (by omega), show 0 + m - 1 - k = m - 1 - k by omega]
  rw [e a (by omega), e b hb]
  exact hd _ _ (by omega) (by omega)
theorem kas_count_up {lt : Nat → Nat → Bool} {p : Array Nat} {n : Nat} (O : Ord lt n) (h : Placed p n) (h2 : 2 ≤ n) : ∃ m p', kev lt (kas_count n p) = (m, p') ∧ 1 ≤ m ∧ m ≤ n ∧ Placed p' n ∧ Up lt p' m := by
  obtain ⟨a1, a2, a3⟩ := kas_asc_up O h (n - 1) 1 (by omega) (by omega) (fun a b hab hb => absurd hb (by omega))
  have e : kev lt (kas_count n p) = kev lt (if (kev lt (kas_asc p (n - 1) 1) == n) = true then KasT.ret (kev lt (kas_asc p (n - 1) 1), p) else if kev lt (kas_asc p (n - 1) 1) > 1 then KasT.ask (p.getD 0 0) (p.getD (kev lt (kas_asc p (n - 1) 1) - 1) 0) fun c => if c = true then .ret (kev lt (kas_asc p (n - 1) 1), p) else kas_descPart (kev lt (kas_asc p (n - 1) 1)) n (kas_rev p 0 (kev lt (kas_asc p (n - 1) 1))) else kas_descPart (kev lt (kas_asc p (n - 1) 1)) n p) := kev_bind lt _ _
  rw [e]
  generalize hk : kev lt (kas_asc p (n - 1) 1) = k at *
  by_cases hkn : (k == n) = true
  · rw [if_pos hkn]; exact ⟨k, p, rfl, a1, a2, h, a3⟩
  · rw [if_neg hkn]
    by_cases hk1 : k > 1
    · rw [if_pos hk1]
      refine ⟨k, p, ?_, a1, a2, h, a3⟩
      show kev lt (if lt (p.getD 0 0) (p.getD (k - 1) 0) = true then KasT.ret (k, p) else _) = _
      rw [if_pos (a3 0 (k - 1) (by omega) (by omega))]; rfl
    · have hk2 : k = 1 := by omega
      rw [if_neg hk1]
      have hlt : lt (p.getD 1 0) (p.getD 0 0) = true := by
        cases hc : lt (p.getD 1 0) (p.getD (1 - 1) 0) with
        | true => rfl
        | false =>
          obtain ⟨f, hf⟩ : ∃ f, n - 1 = f + 1 := ⟨n - 2, by omega⟩
          have e2 : kev lt (kas_asc p (n - 1) 1) = kev lt (kas_asc p f 2) := by
            rw [hf]
            show kev lt (if lt (p.getD 1 0) (p.getD (1 - 1) 0) = true then _ else kas_asc p f 2) = _
            rw [hc, if_neg (by decide)]
          obtain ⟨b1, _, _⟩ := kas_asc_up O h f 2 (by omega) (by omega) (up_ext O h (fun a b hab hb => absurd hb (by omega)) (by omega) (by omega) hc)
          rw [← e2, hk] at b1
          omega
      obtain ⟨m', e3, c1, c2, c3⟩ := kas_desc_down O h (n - 2) 2 (by omega) (by omega) (fun a b hab hb => by
        have ha : a = 0 := by omega
        have hb2 : b = 1 := by omega
        rw [ha, hb2]; exact hlt)
      obtain ⟨d1, d2⟩ := rev_up h c2 c3
      obtain ⟨g1, g2, g3⟩ := kas_asc_up O d1 (n - m') m' (by omega) (by omega) d2
      refine ⟨kev lt (kas_asc (kas_rev p 0 m') (n - m') m'), kas_rev p 0 m', ?_, by omega, g2, d1, g3⟩
      rw [hk2]
      unfold kas_descPart
      rw [kev_bind]
      rw [show n - (1 + 1) = n - 2 by omega, show 1 + 1 = 2 from rfl, e3]
      show kev lt (if (0 : Nat) > 0 then _ else kas_tail3 m' n p) = _
      rw [if_neg (by decide)]
      unfold kas_tail3
      rw [kev_bind]; rfl
theorem kas_sort_up {lt : Nat → Nat → Bool} {n : Nat} (O : Ord lt n) (h2 : 2 ≤ n) : Placed (kev lt (kas_sort n)) n ∧ Up lt (kev lt (kas_sort n)) n := by
  obtain ⟨m, p', e, h1, hm, hp, hu⟩ := kas_count_up O (p := (List.range n).toArray) (Array.Perm.refl _) h2
  unfold kas_sort
  rw [kev_bind, e]
  by_cases hmn : m < n
  · show Placed (kev lt (if m < n then kas_bin (n - max m 1) p' (max m 1) else .ret p')) n ∧ Up lt (kev lt (if m < n then kas_bin (n - max m 1) p' (max m 1) else .ret p')) n
    rw [if_pos hmn, show max m 1 = m by omega]
    exact kas_bin_up O (n - m) m p' (by omega) hp hu
  · show Placed (kev lt (if m < n then kas_bin (n - max m 1) p' (max m 1) else .ret p')) n ∧ Up lt (kev lt (if m < n then kas_bin (n - max m 1) p' (max m 1) else .ret p')) n
    rw [if_neg hmn]
    have e2 : m = n := by omega
    exact ⟨hp, e2 ▸ hu⟩
end Mine
end
section
open Lean Elab Tactic Meta PySem PySem.W PySem.Calls PyProof.Rows PyProof.V PySem.Builtin PySem.SeqAt
namespace Mine
set_option maxRecDepth 100000
/-! sorted(.., key=..): the keys are tuples of two ints, all different -/
def askIn {α : Type} (n : Nat) (P : α → Prop) : KasT α → Prop
  | .ret a => P a
  | .ask i j k => i < n ∧ j < n ∧ ∀ b, askIn n P (k b)
theorem askIn_bind {α β : Type} {n : Nat} {P : α → Prop} {R : β → Prop} {f : α → KasT β} (hf : ∀ a, P a → askIn n R (f a)) : ∀ t : KasT α, askIn n P t → askIn n R (t.bind f)
  | .ret a, h => hf a h
  | .ask i j k, h => ⟨h.1, h.2.1, fun b => askIn_bind hf (k b) (h.2.2 b)⟩
def Small (n : Nat) (p : Array Nat) : Prop := 0 < n ∧ ∀ x ∈ p, x < n
theorem small_at {n : Nat} {p : Array Nat} (h : Small n p) (a : Nat) : p.getD a 0 < n := by
  rw [Array.getD_eq_getD_getElem?]
  cases q : p[a]? with
  | none => exact h.1
  | some x => exact h.2 x (Array.mem_of_getElem? q)
theorem small_perm {n : Nat} {p q : Array Nat} (h : Small n p) (e : q.Perm p) : Small n q := ⟨h.1, fun x hx => h.2 x (e.mem_iff.mp hx)⟩
theorem small_rev {n : Nat} {p : Array Nat} (h : Small n p) (i j : Nat) : Small n (kas_rev p i j) := small_perm h (mirror_perm _ _ _ _)
theorem asc_in {n : Nat} {p : Array Nat} (h : Small n p) : ∀ f m, askIn n (fun _ => True) (kas_asc p f m)
  | 0, _ => trivial
  | f + 1, m => ⟨small_at h _, small_at h _, fun b => by
      cases b with
      | true => exact trivial
      | false => exact asc_in h f (m + 1)⟩
theorem desc_in {n : Nat} : ∀ (f : Nat) (p : Array Nat) (m q : Nat), Small n p → askIn n (fun r => Small n r.1) (kas_desc f p m q)
  | 0, p, _, _, h => h
  | f + 1, p, m, q, h => ⟨small_at h _, small_at h _, fun b => by
      cases b with
      | true =>
        show askIn n _ (if q > 0 then kas_desc f (kas_rev p (m - (q + 1)) m) (m + 1) 0 else kas_desc f p (m + 1) 0)
        split
        · exact desc_in f _ _ _ (small_rev h _ _)
        · exact desc_in f _ _ _ h
      | false =>
        refine ⟨small_at h _, small_at h _, fun d => ?_⟩
        cases d with
        | true => exact h
        | false => exact desc_in f _ _ _ h⟩
theorem tail3_in {n m k : Nat} {p : Array Nat} (h : Small n p) : askIn n (fun r => Small n r.2) (kas_tail3 m k p) := askIn_bind (n := n) (P := fun _ => True) (R := fun r : Nat × Array Nat => Small n r.2) (f := fun a => .ret (a, kas_rev p 0 m)) (fun _ _ => (small_rev h _ _ : Small n (kas_rev p 0 m))) _ (asc_in (small_rev h _ _) _ _)
theorem descPart_in {n m k : Nat} {p : Array Nat} (h : Small n p) : askIn n (fun r => Small n r.2) (kas_descPart m k p) := askIn_bind (fun r hr => by
  try dsimp only
  split
  · exact tail3_in (small_rev hr _ _)
  · exact tail3_in hr) _ (desc_in _ _ _ _ h)
theorem count_in {n k : Nat} {p : Array Nat} (h : Small n p) : askIn n (fun r => Small n r.2) (kas_count k p) := askIn_bind (fun m _ => by
  try dsimp only
  split
  · exact h
  · split
    · refine ⟨small_at h _, small_at h _, fun b => ?_⟩
      cases b with
      | true => exact h
      | false => exact descPart_in (small_rev h _ _)
    · exact descPart_in h) _ (asc_in h _ _)
theorem place_in {n k : Nat} {p : Array Nat} (h : Small n p) : ∀ f l r, askIn n (fun _ => True) (kas_place p k f l r)
  | 0, _, _ => trivial
  | f + 1, l, r => by
    show askIn n _ (if l ≥ r then KasT.ret l else _)
    split
    · exact trivial
    · refine ⟨small_at h _, small_at h _, fun b => ?_⟩
      cases b with
      | true => exact place_in h f _ _
      | false => exact place_in h f _ _
theorem bin_in {n : Nat} : ∀ (f : Nat) (p : Array Nat) (k : Nat), Small n p → askIn n (fun _ => True) (kas_bin f p k)
  | 0, _, _, _ => trivial
  | f + 1, p, k, h => askIn_bind (fun l _ => bin_in f _ _ (small_perm h (bubble_perm _ _ _))) _ (place_in h _ _ _)
theorem sort_in {n : Nat} (hn : 0 < n) : askIn n (fun _ => True) (kas_sort n) := askIn_bind (fun r hr => by
  try dsimp only
  split
  · exact bin_in _ _ _ hr
  · exact trivial) _ (count_in (p := (List.range n).toArray) ⟨hn, fun x hx => by simpa using hx⟩)
theorem kev_in {α : Type} {n : Nat} {lt : Nat → Nat → Bool} {cmp : Nat → Nat → (Bool → Shared → Prop) → Shared → Prop} {s : Shared} {P : α → Prop} (hc : ∀ i j (C : Bool → Shared → Prop), i < n → j < n → C (lt i j) s → cmp i j C s) {Q : α → Shared → Prop} : ∀ t : KasT α, askIn n P t → Q (kev lt t) s → t.kasWp cmp Q s
  | .ret _, _, h => h
  | .ask i j k, ha, h => hc i j _ ha.1 ha.2.1 (kev_in hc (k (lt i j)) (ha.2.2 _) h)
/-! the keys -/
abbrev I2 := Int × Int
def lt2 (p q : I2) : Bool := decide (p.1 < q.1 ∨ (p.1 = q.1 ∧ p.2 < q.2))
theorem lt2_total {p q : I2} (h : p ≠ q) : lt2 p q = true ∨ lt2 q p = true := by
  unfold lt2
  simp only [decide_eq_true_eq]
  by_cases h1 : p.1 = q.1
  · have h2 : p.2 ≠ q.2 := fun e => h (Prod.ext h1 e)
    omega
  · omega
theorem lt2_asym {p q : I2} (h : lt2 p q = true) : lt2 q p = false := by
  unfold lt2 at *
  simp only [decide_eq_true_eq, decide_eq_false_iff_not] at *
  omega
theorem lt2_trans {p q r : I2} (h : lt2 p q = true) (h2 : lt2 q r = true) : lt2 p r = true := by
  unfold lt2 at *
  simp only [decide_eq_true_eq] at *
  omega
def PairI (led : List (Addr × Obj)) (v : Value) (k : I2) : Prop := ∃ a t u, v = .ref a ∧ (a, tupO [.int k.1 t, .int k.2 u]) ∈ led
inductive PairsI (led : List (Addr × Obj)) : List Value → List I2 → Prop
  | nil : PairsI led [] []
  | cons {v : Value} {k : I2} {vs : List Value} {ks : List I2} : PairI led v k → PairsI led vs ks → PairsI led (v :: vs) (k :: ks)
theorem pairs2_mono {a b : List (Addr × Obj)} (h : ∀ p ∈ a, p ∈ b) : ∀ {vs : List Value} {ks : List I2}, PairsI a vs ks → PairsI b vs ks
  | _, _, .nil => .nil
  | _, _, .cons ⟨x, t, u, e, h1⟩ r => .cons ⟨x, t, u, e, h _ h1⟩ (pairs2_mono h r)
theorem pairs2_len {a : List (Addr × Obj)} : ∀ {vs : List Value} {ks : List I2}, PairsI a vs ks → vs.length = ks.length
  | _, _, .nil => rfl
  | _, _, .cons _ r => congrArg (· + 1) (pairs2_len r)
theorem pairs2_snoc {a : List (Addr × Obj)} {v : Value} {k : I2} (hv : PairI a v k) : ∀ {vs : List Value} {ks : List I2}, PairsI a vs ks → PairsI a (vs ++ [v]) (ks ++ [k])
  | _, _, .nil => .cons hv .nil
  | _, _, .cons h r => .cons h (pairs2_snoc hv r)
theorem pairs2_at {a : List (Addr × Obj)} : ∀ {vs : List Value} {ks : List I2}, PairsI a vs ks → ∀ {i : Nat}, i < vs.length → PairI a (vs.getD i Value.none) (ks.getD i (0, 0))
  | _, _, .nil, _, h => absurd h (Nat.not_lt_zero _)
  | _, _, .cons h _, 0, _ => h
  | _, _, .cons _ r, i + 1, h => by simpa using pairs2_at r (i := i) (by simpa using h)
section
variable {prog : Program} {w : World} {A : Around} {E : Value → Shared → Prop} {s : Shared} {h₀ : Heap} {L l : Addr} {m : Str → Option Value} {led news : List (Addr × Obj)} {vs ks : List Value} {n : Nat} {kz : List I2}
theorem pair_lt {C : Bool → Shared → Prop} {i j : Nat} {k q : I2} (N : ∀ p ∈ led, s.heap.get? p.1 = some p.2) (hi : PairI led (ks.getD i Value.none) k) (hj : PairI led (ks.getD j Value.none) q) (h : C (lt2 k q) s) : kas_ask prog w A (tuples' true) ks i j C s := by
  unfold kas_ask
  obtain ⟨a, t, u, e1, h1⟩ := hi
  obtain ⟨b, t', u', e2, h2⟩ := hj
  rw [e1, e2]
  refine kat_lt (N _ h1) rfl (N _ h2) rfl ?_
  refine kat_cons (wpAny_eqBool_int ?_)
  by_cases c1 : k.1 = q.1
  · rw [c1, beq_self_eq_true]
    refine kat_yes (kat_cons (wpAny_eqBool_int ?_))
    by_cases c2 : k.2 = q.2
    · rw [c2, beq_self_eq_true]
      refine kat_yes (kat_nil ?_)
      have : lt2 k q = false := by unfold lt2; simp only [decide_eq_false_iff_not]; omega
      rw [this] at h; exact h
    · have : (k.2 == q.2) = false := by simpa using c2
      rw [this]
      refine kat_no (kat_one _ _ (wpAny_lt_int ?_))
      have : lt2 k q = decide (k.2 < q.2) := by unfold lt2; rw [decide_eq_decide]; omega
      rw [this] at h; exact h
  · have : (k.1 == q.1) = false := by simpa using c1
    rw [this]
    refine kat_no (oneLt_int ?_)
    have : lt2 k q = decide (k.1 < q.1) := by unfold lt2; rw [decide_eq_decide]; omega
    rw [this] at h; exact h
theorem pairs2_tups {h : Heap} (N : ∀ p ∈ led, h.get? p.1 = some p.2) : ∀ {ks : List Value} {kz : List I2}, PairsI led ks kz → ∃ fs, KatTups h ks fs ∧ fs.length = ks.length ∧ ∀ f ∈ fs, ∃ x t, f = .int x t
  | _, _, .nil => ⟨[], KatTups.nil, rfl, fun f hf => nomatch hf⟩
  | _, _, .cons ⟨a, t, u, e, h1⟩ r => by
    obtain ⟨fs, k1, k2, k3⟩ := pairs2_tups N r
    subst e
    refine ⟨_ :: fs, KatTups.cons (N _ h1) rfl rfl rfl k1, by simp [k2], fun f hf => ?_⟩
    rcases List.mem_cons.mp hf with rfl | hf
    · exact ⟨_, _, rfl⟩
    · exact k3 f hf
def KeyEnd (h₀ : Heap) (L : Addr) (m : Str → Option Value) (led : List (Addr × Obj)) (k : I2) (s : Shared) (v : Value) (s' : Shared) : Prop :=
  ∃ h' tk' a t u, v = .ref a ∧ s' = { s with heap := h', toks := tk' } ∧ Fr h₀ L h' m ∧ News h₀ L h' ((a, tupO [.int k.1 t, .int k.2 u]) :: led) ∧ ∀ p ∈ led, p.1 ≠ a
/-- the calls of the key -/
theorem keys_all {f : Value} {kS : Addr} {bs : List (Addr × Obj)} {Fin : List Value → Nat → Shared → Prop} (hbs : ∀ p ∈ bs, p.1 ≠ kS)
    (turn : ∀ (i : Nat) v k, vs[i]? = some v → kz[i]? = some k → ∀ h tk led, Fr h₀ L h m → News h₀ L h led → (∀ p ∈ bs, p ∈ led) → wpAny (model prog w) A (call f [v]) (KeyEnd h₀ L m led k { s with heap := h, toks := tk }) (fun _ _ => False) { s with heap := h, toks := tk }) (hl : vs.length = kz.length)
    (fin : ∀ ks e h tk led, Fr h₀ L h m → News h₀ L h ((kS, seqObj "list" (List.toArray ks) e) :: led) → (∀ p ∈ led, p.1 ≠ kS) → (∀ p ∈ bs, p ∈ led) → PairsI led ks kz → Fin ks e { s with heap := h, toks := tk }) :
    ∀ (r : List Value) (i : Nat) (ks : List Value) (e : Nat) (h : Heap) (tk : Nat) (led : List (Addr × Obj)), r = vs.drop i → i ≤ vs.length → Fr h₀ L h m → News h₀ L h ((kS, seqObj "list" (List.toArray ks) e) :: led) → (∀ p ∈ led, p.1 ≠ kS) → (∀ p ∈ bs, p ∈ led) → PairsI led ks (kz.take i) →
      KatKeys prog w A h₀ L m kS f Fin r ks e { s with heap := h, toks := tk }
  | [], i, ks, e, h, tk, led, hr, hi, F, N, h1, h2, hp => by
    refine KatKeys.nil (fin ks e h tk led F N h1 h2 ?_)
    have : vs.length ≤ i := by
      have := congrArg List.length hr
      rw [List.length_drop, List.length_nil] at this; omega
    rw [List.take_of_length_le (by omega)] at hp; exact hp
  | v :: r, i, ks, e, h, tk, led, hr, hi, F, N, h1, h2, hp => by
    have hlt : i < vs.length := by
      have := congrArg List.length hr
      rw [List.length_drop, List.length_cons] at this; omega
    have hv : vs[i]? = some v := by
      rw [List.drop_eq_getElem_cons hlt] at hr
      rw [List.getElem?_eq_getElem hlt, (List.cons.inj hr).1]
    have hr' : r = vs.drop (i + 1) := by
      rw [List.drop_eq_getElem_cons hlt] at hr
      exact (List.cons.inj hr).2
    have hk : kz[i]? = some (kz[i]'(by omega)) := List.getElem?_eq_getElem (by omega)
    generalize kz[i]'(by omega) = k at hk
    refine KatKeys.cons (wpAny_mono (turn i v k hv hk h tk _ F N (fun p hp => .tail _ (h2 p hp))) (fun v' s' he => ?_) fun _ _ x => x)
    obtain ⟨h', tk', a, t, u, rfl, rfl, F', N', hoff⟩ := he
    have hka : a ≠ kS := fun e => hoff _ (.head _) e.symm
    have hoff' : ∀ p ∈ (a, tupO [.int k.1 t, .int k.2 u]) :: led, p.1 ≠ kS := fun p hp => by
      rcases List.mem_cons.mp hp with rfl | hp
      · exact hka
      · exact h1 p hp
    have N'' : News h₀ L h' ((kS, seqObj "list" (List.toArray ks) e) :: (a, tupO [.int k.1 t, .int k.2 u]) :: led) := News.sub N' fun p hp => by
      rcases List.mem_cons.mp hp with rfl | hp
      · exact .tail _ (.head _)
      rcases List.mem_cons.mp hp with rfl | hp
      · exact .head _
      · exact .tail _ (.tail _ hp)
    refine KatBack.intro F' N'' (UpdF.head hoff') fun h2' c F2 N2 => ?_
    have ek : kz.take (i + 1) = kz.take i ++ [k] := by rw [List.take_add_one, hk]; rfl
    refine keys_all hbs turn hl fin r (i + 1) (ks ++ [.ref a]) c h2' tk' _ hr' hlt F2 N2 hoff' (fun p hp => .tail _ (h2 p hp)) ?_
    rw [ek]
    exact pairs2_snoc ⟨a, t, u, rfl, .head _⟩ (pairs2_mono (fun p hp => .tail _ hp) hp)
def SortedP (kz : List I2) (p : List Nat) : Prop := p.Perm (List.range kz.length) ∧ p.Pairwise fun i j => lt2 (kz.getD i (0, 0)) (kz.getD j (0, 0)) = true
theorem getD_inj {kz : List I2} (h : kz.Nodup) {i j : Nat} (hi : i < kz.length) (hj : j < kz.length) (e : kz.getD i (0, 0) = kz.getD j (0, 0)) : i = j := by
  rw [List.getD_eq_getElem?_getD, List.getD_eq_getElem?_getD, List.getElem?_eq_getElem hi, List.getElem?_eq_getElem hj] at e
  refine (List.getElem?_inj hi h).mp ?_
  rw [List.getElem?_eq_getElem hi, List.getElem?_eq_getElem hj]
  exact congrArg some e
def ltK (kz : List I2) (i j : Nat) : Bool := decide (i < kz.length) && decide (j < kz.length) && lt2 (kz.getD i (0, 0)) (kz.getD j (0, 0))
theorem ltK_ord {kz : List I2} (h : kz.Nodup) : Ord (ltK kz) kz.length := by
  refine ⟨fun i j hi hj hij => ?_, fun i j h1 => ?_, fun i j k h1 h2 => ?_⟩
  · unfold ltK
    simp only [Bool.and_eq_true, decide_eq_true_eq, hi, hj, true_and]
    exact lt2_total fun e => hij (getD_inj h hi hj e)
  · unfold ltK at *
    simp only [Bool.and_eq_true, decide_eq_true_eq] at h1
    rw [lt2_asym h1.2, Bool.and_false]
  · unfold ltK at *
    simp only [Bool.and_eq_true, decide_eq_true_eq] at *
    exact ⟨⟨h1.1.1, h2.1.2⟩, lt2_trans h1.2 h2.2⟩
theorem ltK_lt {kz : List I2} {i j : Nat} (h : ltK kz i j = true) : lt2 (kz.getD i (0, 0)) (kz.getD j (0, 0)) = true := by
  unfold ltK at h
  simp only [Bool.and_eq_true] at h
  exact h.2
theorem sortedP_of {kz : List I2} (hn : kz.Nodup) (h2 : 2 ≤ kz.length) : SortedP kz (kev (ltK kz) (kas_sort kz.length)).toList := by
  obtain ⟨h1, h3⟩ := kas_sort_up (ltK_ord hn) h2
  refine ⟨by simpa using Array.perm_iff_toList_perm.mp h1, ?_⟩
  rw [List.pairwise_iff_getElem]
  intro i j hi hj hij
  have hs := placed_size h1
  have := ltK_lt (h3 i j hij (by rw [Array.length_toList] at hj; omega))
  have e : ∀ k (hk : k < (kev (ltK kz) (kas_sort kz.length)).toList.length), (kev (ltK kz) (kas_sort kz.length)).getD k 0 = (kev (ltK kz) (kas_sort kz.length)).toList[k] := fun k hk => by
    have hk' : k < (kev (ltK kz) (kas_sort kz.length)).size := by simpa using hk
    rw [Array.getD_eq_getD_getElem?, Array.getElem?_eq_getElem hk']; simp
  rw [e i hi, e j hj] at this
  exact this
theorem sorted_key {f : Addr} {Q : Value → Shared → Prop} (F : Fr h₀ L s.heap m) (N : News h₀ L s.heap news) (hl : (l, listOf vs.toArray n) ∈ news) (hk : vs.length = kz.length) (h2 : 2 ≤ vs.length) (h64 : vs.length < 64) (hn : kz.Nodup)
    (turn : ∀ (i : Nat) v k, vs[i]? = some v → kz[i]? = some k → ∀ h tk led, Fr h₀ L h m → News h₀ L h led → (∀ p ∈ news, p ∈ led) → wpAny (model prog w) A.in1.in1 (call (.ref f) [v]) (KeyEnd h₀ L m led k { s with heap := h, toks := tk }) (fun _ _ => False) { s with heap := h, toks := tk })
    (hQ : ∀ D c h' tk p, Fr h₀ L h' m → News h₀ L h' ((D, listOf (p.map fun i => vs.getD i Value.none).toArray c) :: news) → (∀ q ∈ news, q.1 < D) → SortedP kz p → Q (.ref D) { s with heap := h', toks := tk }) :
    wpAny (model prog w) A (call (.builtin "sorted") [.ref l] [(Str.ofString "key", .ref f)]) Q E s := by
  refine kat_sortedK (b := false) F N (PySem.IsL.isList (n := n) (N _ hl).1) h2 h64 (ksk_s1 _ _) (fun x => ksk_l1 _ _) (fun x => ksk_t1 _ _) fun D kS e1 h' F' N' hDk hlt => ?_
  have hDkn : D ≠ kS := Nat.ne_of_lt hDk
  have hoff : ∀ p ∈ (D, seqObj "list" #[] e1) :: news, p.1 ≠ kS := fun p hp => by
    rcases List.mem_cons.mp hp with rfl | hp
    · exact hDkn
    · exact Nat.ne_of_lt (Nat.lt_trans (hlt p hp) hDk)
  refine keys_all (bs := (D, seqObj "list" #[] e1) :: news) hoff (fun i v k hv hk' h tk led F N hb => turn i v k hv hk' h tk led F N fun p hp => hb p (.tail _ hp)) hk (fun ks e h tk led F2 N2 hoff2 hb2 hp2 => ?_) vs 0 [] 0 h' s.toks _ rfl (Nat.zero_le _) F' N' hoff (fun p hp => hp) .nil
  have hlen := pairs2_len hp2
  obtain ⟨fs, k1, k2, k3⟩ := pairs2_tups (fun p hp => (N2 p (.tail _ hp)).1) hp2
  refine kat_kind (T := .type "int") k1 (by omega) (fun v hv => ?_) (by decide) ?_
  · obtain ⟨x, t, rfl⟩ := k3 v hv
    exact Looks.now
  rw [hk]
  refine kev_in (n := kz.length) (lt := ltK kz) (P := fun _ => True) (fun i j C hi hj hC => ?_) _ (sort_in (by omega)) ?_
  · have e : ltK kz i j = lt2 (kz.getD i (0, 0)) (kz.getD j (0, 0)) := by unfold ltK; simp [hi, hj]
    rw [e] at hC
    exact pair_lt (led := led) (fun p hp => (N2 p (.tail _ hp)).1) (pairs2_at hp2 (by omega)) (pairs2_at hp2 (by omega)) hC
  · have hs := sortedP_of hn (by omega)
    generalize kev (ltK kz) (kas_sort kz.length) = p at hs
    refine KatFin.intro F2 N2 (UpdF.head hoff2) fun h3 c3 F3 N3 => ?_
    have N4 : News h₀ L h3 ((D, seqObj "list" #[] e1) :: but D ((kS, seqObj "list" #[] c3) :: led)) := News.sub N3 fun q hq => by
      rcases List.mem_cons.mp hq with rfl | hq
      · exact .tail _ (hb2 _ (.head _))
      · exact (mem_but.mp hq).1
    refine KasFin.intro F3 N4 (UpdF.head but_off) fun h5 c5 F5 N5 => ?_
    refine hQ D c5 h5 tk p.toList F5 (News.sub N5 fun q hq => ?_) hlt hs
    rcases List.mem_cons.mp hq with rfl | hq
    · exact .head _
    · exact mem_put (.tail _ (hb2 _ (.tail _ hq))) (Nat.ne_of_lt (hlt q hq))
end
end Mine
end
section
open Lean Elab Tactic Meta PySem PySem.W PySem.Calls PyProof.Rows PyProof.V PySem.Builtin PySem.SeqAt
namespace Mine
set_option maxRecDepth 100000
set_option maxHeartbeats 1000000
section
variable {prog : Program} {w : World} {A : Around} {E : Value → Shared → Prop} {s : Shared} {h₀ : Heap} {L l : Addr} {m : Str → Option Value} {news : List (Addr × Obj)} {n : Nat}
/-- sorted(.., key=..) of a list of one item -/
theorem sorted_key1 {f : Addr} {v : Value} {k : I2} {Q : Value → Shared → Prop} (F : Fr h₀ L s.heap m) (N : News h₀ L s.heap news) (hl : (l, listOf [v].toArray n) ∈ news)
    (turn : ∀ h tk led, Fr h₀ L h m → News h₀ L h led → (∀ p ∈ news, p ∈ led) → wpAny (model prog w) A.in1.in1 (call (.ref f) [v]) (KeyEnd h₀ L m led k { s with heap := h, toks := tk }) (fun _ _ => False) { s with heap := h, toks := tk })
    (hQ : ∀ D c h' tk, Fr h₀ L h' m → News h₀ L h' ((D, listOf [v].toArray c) :: news) → (∀ q ∈ news, q.1 < D) → Q (.ref D) { s with heap := h', toks := tk }) :
    wpAny (model prog w) A (call (.builtin "sorted") [.ref l] [(Str.ofString "key", .ref f)]) Q E s := by
  have hl' : s.heap.IsList l [v].toArray := PySem.IsL.isList (n := n) (N _ hl).1
  refine call_function_entry_kw kind_sorted plain_sorted entry_sorted (ksk_s1 _ _) ?_
  unfold Builtin.«sorted»
  refine wpAny_bind (m := checkCount "sorted" 1 1 _) (wpAny_pure ?_)
  refine wpAny_bind (collect_list hl' ?_ (by rw [sizeLine_eq]; simp))
  refine wpAny_bind (wpAny_newList ?_ (by rw [sizeLine_eq]; simp))
  have hsz : ((s.heap.push (seqObj "list" #[] 0)).update s.heap.objs.size (Obj.mapSeq (· ++ [v].toArray))).objs.size = s.heap.objs.size + 1 := by
    rw [Heap.size_update, size_push']
  have hoL : (((s.heap.push (seqObj "list" #[] 0)).update s.heap.objs.size (Obj.mapSeq (· ++ [v].toArray))).push (seqObj "list" [v].toArray 0)).get? (s.heap.objs.size + 1) = some (seqObj "list" [v].toArray 0) := by
    rw [← hsz]; exact Heap.get?_push_size _ rfl
  have keep : ∀ b o, s.heap.get? b = some o → (((s.heap.push (seqObj "list" #[] 0)).update s.heap.objs.size (Obj.mapSeq (· ++ [v].toArray))).push (seqObj "list" [v].toArray 0)).get? b = some o := fun b o q => by
    have hlt : b < s.heap.objs.size := Heap.lt_size q
    rw [Heap.get?_push_ne _ _ _ (by rw [hsz]; exact Nat.ne_of_lt (Nat.lt_succ_of_lt hlt)), Heap.get?_update_ne _ _ _ _ (Nat.ne_of_lt hlt), Heap.get?_push_ne _ _ _ (Nat.ne_of_lt hlt)]
    exact q
  have hL : L < s.heap.objs.size := F.ns.lt
  show wpAny _ _ _ _ _ { s with heap := ((s.heap.push (seqObj "list" #[] 0)).update s.heap.objs.size (Obj.mapSeq (· ++ [v].toArray))).push (seqObj "list" [v].toArray 0) }
  rw [hsz]
  refine wpAny_bind (wpAny_holding (wpAny_call_entry_kw slot_list_sort ⟨_, hoL, rfl⟩ entry_list_sort ?body (ksk_l1 _ _)))
  case body =>
    generalize hH : ((s.heap.push (seqObj "list" #[] 0)).update s.heap.objs.size (Obj.mapSeq (· ++ [v].toArray))).push (seqObj "list" [v].toArray 0) = H at *
    have FH : Fr h₀ L H m := F.kept keep
    have NH : News h₀ L H news := N.grown keep
    generalize hD : s.heap.objs.size + 1 = D at *
    have hnew : h₀.get? D = none := Heap.get?_none_of_le (Nat.le_trans F.above (by rw [← hD]; exact Nat.le_succ_of_le (Nat.le_of_lt hL)))
    have hLne : D ≠ L := by rw [← hD]; exact Nat.ne_of_gt (Nat.lt_succ_of_lt hL)
    have hoff : ∀ q ∈ news, q.1 < D := fun q hq => by rw [← hD]; exact Nat.lt_succ_of_lt (Heap.lt_size (N q hq).1)
    have hHlt : D < H.objs.size := Heap.lt_size hoL
    show wpAny (model prog w) A.in1.in1 (Builtin.«list.sort» ⟨[.ref D], [(Str.ofString "key", .ref f)]⟩) _ _ _
    rw [ksk_t1]
    unfold ksk_tree
    refine wpAny_bind (listItems_at hoL rfl ?_)
    refine wpAny_bind (listUpdate_at hoL rfl ?_ (by rw [sizeLine_eq]; simp) (Nat.zero_le _))
    obtain ⟨e1, ho1⟩ : ∃ e1, (H.update D (Obj.mapSeq fun _ => (#[] : Array Value))).get? D = some (seqObj "list" #[] e1) := ⟨_, get?_update_seq hoL fun _ => #[]⟩
    refine wpAny_bind (seqEpoch_at ho1 rfl ?_)
    refine wpAny_bind (wpAny_newTuple ?_ (by rw [sizeLine_eq]; simp))
    refine wpAny_bind (wpAny_newList ?_ (Nat.zero_le _))
    refine wpAny_holding ?_
    have s1 := Heap.SameBut.update H D (Obj.mapSeq fun _ => (#[] : Array Value))
    have F1 := kas_fr FH s1 hLne hnew
    have N1 := kas_news NH s1 fun p hp => Nat.ne_of_lt (hoff p hp)
    have hz1 : ((H.update D (Obj.mapSeq fun _ => (#[] : Array Value))).push (seqObj "tuple" [v].toArray 0)).objs.size = H.objs.size + 1 := by rw [size_push', Heap.size_update]
    show wpAny (model prog w) _ (ksk_rest D (.ref f) false _ _ (.ref ((H.update D (Obj.mapSeq fun _ => (#[] : Array Value))).push (seqObj "tuple" [v].toArray 0)).objs.size)) _ E { s with heap := ((H.update D (Obj.mapSeq fun _ => (#[] : Array Value))).push (seqObj "tuple" [v].toArray 0)).push (seqObj "list" #[] 0) }
    have F2 := (F1.push (seqObj "tuple" [v].toArray 0)).push (seqObj "list" #[] 0)
    have N2 : News h₀ L (((H.update D (Obj.mapSeq fun _ => (#[] : Array Value))).push (seqObj "tuple" [v].toArray 0)).push (seqObj "list" #[] 0)) news := N1.grown fun b x e => Heap.get?_push_of_some _ (Heap.get?_push_of_some _ e)
    have ho2 : (((H.update D (Obj.mapSeq fun _ => (#[] : Array Value))).push (seqObj "tuple" [v].toArray 0)).push (seqObj "list" #[] 0)).get? D = some (seqObj "list" #[] e1) := Heap.get?_push_of_some _ (Heap.get?_push_of_some _ ho1)
    have hok : (((H.update D (Obj.mapSeq fun _ => (#[] : Array Value))).push (seqObj "tuple" [v].toArray 0)).push (seqObj "list" #[] 0)).get? (H.objs.size + 1) = some (seqObj "list" #[] 0) := by rw [← hz1]; exact Heap.get?_push_size _ rfl
    rw [hz1]
    generalize hkS : H.objs.size + 1 = kS at *
    generalize ((H.update D (Obj.mapSeq fun _ => (#[] : Array Value))).push (seqObj "tuple" [v].toArray 0)).push (seqObj "list" #[] 0) = H2 at *
    have hDk : D < kS := by rw [← hkS]; exact Nat.lt_succ_of_lt hHlt
    have hkL : kS ≠ L := by rw [← hkS]; exact Nat.ne_of_gt (Nat.lt_succ_of_lt FH.ns.lt)
    have hk0 : h₀.get? kS = none := Heap.get?_none_of_le (Nat.le_trans FH.above (by rw [← hkS]; exact Nat.le_succ_of_le (Nat.le_of_lt FH.ns.lt)))
    have hnk : ∀ p ∈ news, p.1 ≠ kS := fun p hp => Nat.ne_of_lt (Nat.lt_trans (hoff p hp) hDk)
    have N3 : News h₀ L H2 ((kS, seqObj "list" #[] 0) :: (D, seqObj "list" #[] e1) :: news) := fun p hp => by
      rcases List.mem_cons.mp hp with rfl | hp
      · exact ⟨hok, hkL, hk0⟩
      rcases List.mem_cons.mp hp with rfl | hp
      · exact ⟨ho2, hLne, hnew⟩
      · exact N2 p hp
    unfold ksk_rest
    refine wpAny_bind (wpAny_rule ?_)
    rw [List.forIn_toArray, List.forIn_cons]
    refine wpAny_bind (wpAny_bind (wpAny_bind (wpAny_attempt (wpAny_mono (turn H2 s.toks _ F2 N3 fun p hp => .tail _ (.tail _ hp)) (fun v' s' he => ?_) fun _ _ x => x.elim))))
    obtain ⟨h', tk', a, t, u, rfl, rfl, F', N', hoffa⟩ := he
    try dsimp only
    have hak : kS ≠ a := hoffa _ (.head _)
    have haD : D ≠ a := hoffa _ (.tail _ (.head _))
    have nk := N' (kS, seqObj "list" #[] 0) (.tail _ (.head _))
    have nD := N' (D, seqObj "list" #[] e1) (.tail _ (.tail _ (.head _)))
    have s3 := Heap.SameBut.update h' kS (Obj.mapSeq (·.push (Value.ref a)))
    obtain ⟨c2, hc2⟩ : ∃ c2, (h'.update kS (Obj.mapSeq (·.push (Value.ref a)))).get? kS = some (seqObj "list" (List.toArray [Value.ref a]) c2) := ⟨_, get?_update_seq nk.1 (·.push (Value.ref a))⟩
    refine wpAny_bind (listUpdate_at nk.1 rfl ?_ (show (#[] : Array Value).size ≤ sizeLine by rw [sizeLine_eq]; decide) (Nat.le_trans (Nat.le_of_eq (Array.size_push ..)) (Nat.le_add_left _ _)))
    refine wpAny_pure ?_
    try dsimp only
    rw [List.forIn_nil]
    refine wpAny_pure ?_
    refine wpAny_bind (listItems_at hc2 rfl ?_)
    have F5 := kas_fr F' s3 nk.2.1 nk.2.2
    have N5 : News h₀ L (h'.update kS (Obj.mapSeq (·.push (Value.ref a)))) ((kS, seqObj "list" (List.toArray [Value.ref a]) c2) :: (D, seqObj "list" #[] e1) :: news) := fun p hp => by
      rcases List.mem_cons.mp hp with rfl | hp
      · exact ⟨hc2, nk.2⟩
      rcases List.mem_cons.mp hp with rfl | hp
      · exact kas_news (news := [(D, seqObj "list" #[] e1)]) (fun p hp => by rw [List.mem_singleton.mp hp]; exact nD) s3 (fun p hp => by rw [List.mem_singleton.mp hp]; exact Nat.ne_of_lt hDk) _ (.head _)
      · exact kas_news (fun p hp => N' p (.tail _ (.tail _ (.tail _ hp)))) s3 hnk p hp
    generalize h'.update kS (Obj.mapSeq (·.push (Value.ref a))) = h5 at *
    unfold ksk_end
    try dsimp only
    have h12 : [v].toArray.size < 2 := by simp
    simp only [Bool.false_eq_true, if_false]
    rw [if_pos h12, if_pos h12]
    refine wpAny_bind (wpAny_pure ?_)
    rw [StateT.run_pure]
    refine wpAny_bind (wpAny_pure ?_)
    try dsimp only
    refine kat_tail (h₀ := h₀) (L := L) (m := m) (b := false) (e := c2) (ks := [Value.ref a]) (out := [v]) ?hout (Nat.le_of_ble_eq_true rfl) (Nat.le_of_ble_eq_true rfl) rfl ?_
    case hout =>
      show ([Value.ref a].toArray.zip [v].toArray).map (·.2) = [v].toArray
      simp
    have hoffD : ∀ p ∈ news, p.1 ≠ D := fun p hp => Nat.ne_of_lt (hoff p hp)
    refine KatFin.intro F5 N5 (UpdF.head fun p hp => ?_) fun h6 c6 F6 N6 => ?_
    · rcases List.mem_cons.mp hp with rfl | hp
      · exact Nat.ne_of_lt hDk
      · exact hnk p hp
    refine KasFin.intro F6 (News.sub N6 fun p hp => .tail _ hp) (UpdF.head hoffD) fun h7 c7 F7 N7 => ?_
    exact ⟨_, rfl, wpAny_pure ⟨_, rfl, hQ D c7 h7 tk' F7 N7 hoff⟩⟩
end
end Mine
end
section
open Lean Elab Tactic Meta PySem PySem.W PySem.Calls PyProof.Rows PyProof.V PySem.Builtin
namespace Mine
set_option maxRecDepth 100000
/-! a while whose turn may go on, leave or break; del of a list's item -/
def WStep (h₀ : Heap) (L : Addr) (s : Shared) (J : Nat → (Str → Option Value) → List (Addr × Obj) → Prop) (Q : Flow → Shared → Prop) (n : Nat) (f : Flow) (s₃ : Shared) : Prop :=
  match f with
  | .ret v => Q (.ret v) s₃
  | .brk => Q .next s₃
  | _ => ∃ h' tk m₂ news₂ n', s₃ = { s with heap := h', toks := tk } ∧ Fr h₀ L h' m₂ ∧ News h₀ L h' news₂ ∧ n' < n ∧ J n' m₂ news₂
theorem WStep.next {h₀ h' : Heap} {L : Addr} {s : Shared} {J : Nat → (Str → Option Value) → List (Addr × Obj) → Prop} {Q : Flow → Shared → Prop} {n n' tk : Nat} {m₂ : Str → Option Value} {news₂ : List (Addr × Obj)} (F : Fr h₀ L h' m₂) (N : News h₀ L h' news₂) (hn : n' < n) (hJ : J n' m₂ news₂) :
    WStep h₀ L s J Q n .next { s with heap := h', toks := tk } := ⟨h', tk, m₂, news₂, n', rfl, F, N, hn, hJ⟩
theorem WStep.cont {h₀ h' : Heap} {L : Addr} {s : Shared} {J : Nat → (Str → Option Value) → List (Addr × Obj) → Prop} {Q : Flow → Shared → Prop} {n n' tk : Nat} {m₂ : Str → Option Value} {news₂ : List (Addr × Obj)} (F : Fr h₀ L h' m₂) (N : News h₀ L h' news₂) (hn : n' < n) (hJ : J n' m₂ news₂) :
    WStep h₀ L s J Q n .cont { s with heap := h', toks := tk } := ⟨h', tk, m₂, news₂, n', rfl, F, N, hn, hJ⟩
section
variable {prog : Program} {w : World} {A : Around} {E : Value → Shared → Prop} {s : Shared} {env : Env} {h₀ : Heap} {L : Addr}
theorem While_J {Q : Flow → Shared → Prop} {test : PySem.Expr} {body : List Stmt} {pos : Pos} {m : Str → Option Value} {news : List (Addr × Obj)} (J : Nat → (Str → Option Value) → List (Addr × Obj) → Prop) {n₀ : Nat}
    (F : Fr h₀ L s.heap m) (N : News h₀ L s.heap news) (hJ : J n₀ m news)
    (turn : ∀ n m₁ news₁ h₁ tk₁, Fr h₀ L h₁ m₁ → News h₀ L h₁ news₁ → J n m₁ news₁ →
      wpAny (model prog w) A (isTrue test env (eval test env)) (fun b s₂ =>
        if b = true then wpAny (model prog w) A (execs body env) (WStep h₀ L s J Q n) E s₂ else Q .next s₂) E { s with heap := h₁, toks := tk₁ })
    (hE : PassesOwn (model prog w) A env E := by passes_own) :
    wpAny (model prog w) A (exec (.While test body [] pos) env) Q E s := by
  refine wpAny_While (codeAny_whileLoop (fun n s' => ∃ h₁ tk₁ m₁ news₁, s' = { s with heap := h₁, toks := tk₁ } ∧ Fr h₀ L h₁ m₁ ∧ News h₀ L h₁ news₁ ∧ J n m₁ news₁) ?_ n₀ ⟨s.heap, s.toks, m, news, rfl, F, N, hJ⟩)
  rintro n s' ⟨h₁, tk₁, m₁, news₁, rfl, F₁, N₁, J₁⟩
  refine wpAny_mono (turn n m₁ news₁ h₁ tk₁ F₁ N₁ J₁) (fun b s₂ h₂ => ?_) hE
  cases b with
  | false =>
    simp only [Bool.false_eq_true, if_false] at h₂ ⊢
    exact wpAny_execs_nil h₂
  | true =>
    simp only [if_true] at h₂ ⊢
    refine wpAny_mono h₂ (fun f s₃ h₃ => ?_) hE
    cases f with
    | next =>
      obtain ⟨h', tk, m₂, news₂, n', rfl, F₂, N₂, hn, J₂⟩ := h₃
      exact ⟨n', hn, h', tk, m₂, news₂, rfl, F₂, N₂, J₂⟩
    | cont =>
      obtain ⟨h', tk, m₂, news₂, n', rfl, F₂, N₂, hn, J₂⟩ := h₃
      exact ⟨n', hn, h', tk, m₂, news₂, rfl, F₂, N₂, J₂⟩
    | brk => exact h₃
    | ret v => exact h₃
theorem del_B {i : Int} {D : Addr} {m : Str → Option Value} {news : List (Addr × Obj)} {vs : List Value} {n k : Nat} {t : Tok} {Q : Unit → Shared → Prop} (F : Fr h₀ L s.heap m) (N : News h₀ L s.heap news) (hm : (D, listOf vs.toArray n) ∈ news) (hi : i = (k : Int)) (hk : k < vs.length) (hz : vs.length ≤ 1000)
    (h : ∀ h', Fr h₀ L h' m → News h₀ L h' ((D, listOf (vs.eraseIdx k).toArray (n + 1)) :: but D news) → Q () { s with heap := h' }) : wpAny (model prog w) A (delItem (.ref D) (.int i t)) Q E s := by
  subst hi
  have z := N _ hm
  refine delItem_at (its := vs.toArray) (n := n) (k := k) z.1 ?_ ?_ (fun h' hs ho => h h' (F.change hs z.2.1 z.2.2) fun p hp => ?_) (by rw [List.size_toArray, sizeLine_eq]; omega)
  · unfold Builtin.List.listFitsIndex
    simp; omega
  · have := PySem.seqIndex_of (k := (k : Int)) (n := vs.length) (by omega) (by omega)
    simpa using this
  · rcases List.mem_cons.mp hp with rfl | hp
    · exact ⟨by simpa using ho, z.2⟩
    · obtain ⟨h1, h2⟩ := mem_but.mp hp
      exact ⟨(hs.2 p.1 h2).trans (N p h1).1, (N p h1).2⟩
end
end Mine
end
section
open Lean Elab Tactic Meta PySem PySem.W PySem.Calls PyProof.Rows PyProof.V PySem.Spec PyProof.Rows.LCg
namespace Mine
set_option maxRecDepth 100000
/-! a comprehension over pairs, its turns making nothing -/
def PEnd (h₀ : Heap) (L : Addr) (m : Str → Option Value) (led : List (Addr × Obj)) (j : Prop) (s₁ s₂ : Shared) : Prop := ∃ h' tk, s₂ = { s₁ with heap := h', toks := tk } ∧ Fr h₀ L h' m ∧ News h₀ L h' led ∧ j
theorem PEnd.intro {h₀ h' : Heap} {L : Addr} {m : Str → Option Value} {led : List (Addr × Obj)} {j : Prop} {s₁ : Shared} {tk : Nat} (F : Fr h₀ L h' m) (N : News h₀ L h' led) (hj : j) : PEnd h₀ L m led j s₁ { s₁ with heap := h', toks := tk } := ⟨h', tk, rfl, F, N, hj⟩
section
variable {prog : Program} {w : World} {A : Around} {E : Value → Shared → Prop} {s : Shared} {h₀ : Heap} {L : Addr} {m : Str → Option Value} {env : Env}
theorem block_PT {elt iter c : PySem.Expr} {a b : Str} {pa pb tp : Pos} {kk : Nat} {scope : Scope} {cl : List (Str × Addr)} {pos : Pos} {s₂ : Shared} {I : Addr} {fp wr : List Addr} {n : Nat} {P Md : Nat → Value → Heap → Prop} {St : Nat → Heap → Prop} {news : List (Addr × Obj)} {RR : Value → Addr → Result → Shared → Prop}
    (PV : Nat → Value → Value → Prop) (J : Nat → List Value → Prop) (hh : A.handled = none) (W : KTurns prog w A (.Tuple [.Name a pa, .Name b pb] kk tp) I fp wr n P Md St) (hP : ∀ i v h, P i v h → ∃ T x y, v = .ref T ∧ h.IsTuple T #[x, y] ∧ PV i x y)
    (hself : ∀ (s : Shared) (Q : Value → Shared → Prop) (E : Value → Shared → Prop), St 0 s.heap → Q (.ref I) s → wpAny (model prog w) A (pyIter (.ref I)) Q E s)
    (hfp : ∀ b ∈ fp, b < s₂.heap.objs.size) (hwr : ∀ b ∈ wr, h₀.get? b = none) (hLf : L ∉ fp) (hnw : ∀ p ∈ news, p.1 ∉ wr) (hsz : n ≤ sizeLine)
    (hcell : ∀ y ∈ scope.names, y.2 ≠ .cell) (hkind : scope.kind = .function) (hxa : scope.names.lookup a = some .local) (hxb : scope.names.lookup b = some .local) (hab : ¬ a = b)
    (hst : St 0 s₂.heap) (F : Fr h₀ L s₂.heap m) (N : News h₀ L s₂.heap news) (hj : J 0 [])
    (turn : ∀ i ys x y own C oC D m₂ h tk (E' : Value → Shared → Prop), i < n → PV i x y → J i ys → ys.length ≤ i → NsObj oC m₂ → m₂ a = some x → m₂ b = some y → Fr h₀ L h m → News h₀ L h ((C, oC) :: (D, lst ys) :: (own ++ news)) → (∀ p ∈ own, p.1 ∈ fp) →
      wpAny (model prog w) A (isTrue c (compEnvC scope cl C env) (eval c (compEnvC scope cl C env))) (fun ok s' => if ok = true then wpAny (model prog w) A (eval elt (compEnvC scope cl C env)) (fun v s'' => PEnd h₀ L m ((C, oC) :: (D, lst ys) :: (own ++ news)) (J (i + 1) (ys ++ [v])) { s₂ with heap := h, toks := tk } s'') E'  s' else PEnd h₀ L m ((C, oC) :: (D, lst ys) :: (own ++ news)) (J (i + 1) ys) { s₂ with heap := h, toks := tk } s') E' { s₂ with heap := h, toks := tk })
    (hRR : ∀ D C h tk m' ys, J n ys → Fr h₀ L h m → News h₀ L h ((D, lst ys) :: news) → h.Ns C m' → h₀.get? C = none → h₀.get? D = none → C ≠ L → D ≠ L → C ≠ D → (∀ p ∈ news, p.1 ≠ C) → (∀ p ∈ news, p.1 < D) → RR (.ref D) C (.ok .next) { s₂ with heap := h, toks := tk }) :
    wpAny (model prog w) A (newList []) (fun acc s₃ => wpAny (model prog w) A (newFunctionEnv scope env.globals cl [] env.qual none .none (some env)) (fun cenv s₄ =>
      codeAny (model prog w) A (.compStart (.ListComp elt [⟨.Tuple [.Name a pa, .Name b pb] kk tp, iter, [c], 0⟩] scope pos) 0 (.ref I) acc { cenv with scope := relabel scope env }) (RR acc cenv.locals) s₄) E s₃) E s₂ := by
  refine wpAny_newObj_type (wpAny_newFunctionEnv hcell (by intro y hy; simp at hy) (fun h₁ hns₁ hsb₁ => ?_) hkind)
  dsimp only at hns₁ hsb₁ ⊢
  generalize hH2 : s₂.heap.push { cls := .type "list", dict := none, data := .seq ([] : List Value).toArray } = H2 at hns₁ hsb₁ ⊢
  have hC : H2.objs.size = s₂.heap.objs.size + 1 := by rw [← hH2, Heap.size_push]
  have hDC : s₂.heap.objs.size ≠ H2.objs.size := by rw [hC]; exact Nat.ne_of_lt (Nat.lt_succ_self _)
  have below : ∀ b, b < s₂.heap.objs.size → b ≠ H2.objs.size ∧ b ≠ s₂.heap.objs.size := fun b hb => ⟨by rw [hC]; exact Nat.ne_of_lt (Nat.lt_succ_of_lt hb), Nat.ne_of_lt hb⟩
  have old : ∀ b o, s₂.heap.get? b = some o → h₁.get? b = some o := fun b o e => hsb₁.extBut b o (below b (Heap.lt_size e)).1 (Heap.get?_push_of_some _ (hH2 ▸ Heap.get?_push_of_some _ e))
  have hacc : h₁.get? s₂.heap.objs.size = some (lst []) := hsb₁.extBut _ _ hDC (Heap.get?_push_of_some _ (hH2 ▸ Heap.get?_push_size _ rfl))
  have hst₁ : St 0 h₁ := W.frame _ _ _ hst fun b _ o e => old b o e
  have fresh₀ : ∀ a, s₂.heap.objs.size ≤ a → h₀.get? a = none := fun a ha => by
    cases e : h₀.get? a with
    | none => rfl
    | some o' => exact absurd (Heap.lt_size (F.keep a o' e)) (Nat.not_lt.mpr ha)
  have hD₀ : h₀.get? s₂.heap.objs.size = none := fresh₀ _ (Nat.le_refl _)
  have hC₀ : h₀.get? H2.objs.size = none := fresh₀ _ (by rw [hC]; exact Nat.le_succ _)
  have hLlt : L < s₂.heap.objs.size := F.ns.lt
  have hDL : s₂.heap.objs.size ≠ L := Ne.symm (below L hLlt).2
  have hCL : H2.objs.size ≠ L := Ne.symm (below L hLlt).1
  have hnl : ∀ p ∈ news, p.1 < s₂.heap.objs.size := fun p hp => Heap.lt_size (N p hp).1
  have hCw : H2.objs.size ∉ wr := fun hm => (below _ (hfp _ (W.sub _ hm))).1 rfl
  have hDw : s₂.heap.objs.size ∉ wr := fun hm => (below _ (hfp _ (W.sub _ hm))).2 rfl
  have hLw : L ∉ wr := fun hm => hLf (W.sub _ hm)
  have h0w : ∀ b o, h₀.get? b = some o → b ∉ wr := fun b o e hb => by rw [hwr b hb] at e; cases e
  have loop : ∀ s₃ : Shared, s₃ = { s₂ with heap := h₁, toks := s₂.toks + ([] : List (Str × Value)).length } →
      codeAny (model prog w) A (.compLoop (.ListComp elt [⟨.Tuple [.Name a pa, .Name b pb] kk tp, iter, [c], 0⟩] scope pos) 0 (.ref I) (.ref s₂.heap.objs.size) (compEnvC scope cl H2.objs.size env))
        (RR (.ref s₂.heap.objs.size) H2.objs.size) s₃ := by
    rintro s₃ rfl
    refine kct_loop
      (fun k s' => ∃ h' tk i ys m', s' = { s₂ with heap := h', toks := tk } ∧ i ≤ n ∧ k = n + 1 - i ∧ ys.length ≤ i ∧ St i h' ∧ Fr h₀ L h' m ∧ h'.Ns H2.objs.size m' ∧ News h₀ L h' ((s₂.heap.objs.size, lst ys) :: news) ∧ J i ys) ?_ (n + 1)
      ⟨h₁, _, 0, [], _, rfl, Nat.zero_le _, rfl, Nat.le_refl _, hst₁, F.keeps old, hns₁, fun p hp => ?_, hj⟩
    · rintro k s' ⟨h', tk, i, ys, m', rfl, hi, rfl, hyl, hst', F', hn', N', hj'⟩
      have base : ∀ h₂ : Heap, (∀ b o, b ∉ wr → h'.get? b = some o → h₂.get? b = some o) → Fr h₀ L h₂ m ∧ News h₀ L h₂ ((s₂.heap.objs.size, lst ys) :: news) ∧ h₂.Ns H2.objs.size m' := fun h₂ hk =>
        ⟨⟨F'.ns.at' fun o e => hk _ o hLw e, fun b o e => hk b o (h0w b o e) (F'.keep b o e), F'.above⟩, fun p hp => ⟨hk _ _ (by
          rcases List.mem_cons.mp hp with rfl | hp
          · exact hDw
          · exact hnw p hp) (N' p hp).1, (N' p hp).2⟩, hn'.at' fun o e => hk _ o hCw e⟩
      by_cases hlt : i < n
      · refine W.item i _ _ _ hlt hst' fun v h₂ tk₂ hMd hk₂ => ?_
        refine W.go i v _ _ _ hMd fun h₃ hPv hst₃ hk₃ => ?_
        obtain ⟨F₃, N₃, hn₃⟩ := base h₃ fun b o hb e => hk₃ b o hb (hk₂ b o hb e)
        obtain ⟨T, x, y, rfl, hT, hPV⟩ := hP i v h₃ hPv
        refine kcp_assign (env := compEnvC scope cl H2.objs.size env) hh hT (lookup_relabel_local hxa) (lookup_relabel_local hxb) (by simp [compEnvC, relabel, hkind]) hn₃ fun h₄ tk₄ hn₄ hs₄ => ?_
        obtain ⟨oC, heC, hoC⟩ := ns_obj hn₄
        have F₄ : Fr h₀ L h₄ m := ⟨F₃.ns.at' fun o e => hs₄ _ o (Ne.symm hCL) e, fun c o e => hs₄ c o (fun q => by rw [show c = H2.objs.size from q, hC₀] at e; cases e) (F₃.keep c o e), F₃.above⟩
        have hst₄ : St (i + 1) h₄ := W.frame _ _ _ hst₃ fun b hb o e => hs₄ b o (below b (hfp b hb)).1 e
        generalize hown : ownOf h₀ fp h₄ = own
        have ownOf_sub : ∀ p ∈ own, p.1 ∈ fp := hown ▸ PyProof.Rows.ownOf_sub
        have mem_ownOf : ∀ {b : Addr} {o : Obj}, b ∈ fp → h₀.get? b = none → h₄.get? b = some o → (b, o) ∈ own := fun hb hn e => hown ▸ PyProof.Rows.mem_ownOf hb hn e
        have N₄ : News h₀ L h₄ ((H2.objs.size, oC) :: (s₂.heap.objs.size, lst ys) :: (own ++ news)) := fun q hq => by
          rcases List.mem_cons.mp hq with rfl | hq
          · exact ⟨heC, hCL, hC₀⟩
          rcases List.mem_cons.mp hq with rfl | hq
          · have z := N₃ _ (List.mem_cons_self ..)
            exact ⟨hs₄ _ _ hDC z.1, z.2⟩
          rcases List.mem_append.mp hq with hq | hq
          · exact news_ownOf hLf q (hown ▸ hq)
          · have z := N₃ q (List.mem_cons_of_mem _ hq)
            exact ⟨hs₄ _ _ (below _ (hnl q hq)).1 z.1, z.2⟩
        have fin : ∀ (ys' : List Value) (h₅ : Heap) (tk₅ : Nat), ys'.length ≤ i + 1 → Fr h₀ L h₅ m → News h₀ L h₅ ((H2.objs.size, oC) :: (s₂.heap.objs.size, lst ys') :: (own ++ news)) → J (i + 1) ys' →
            ∃ q', q' < n + 1 - i ∧ (∃ h' tk i ys m', ({ s₂ with heap := h₅, toks := tk₅ } : Shared) = { s₂ with heap := h', toks := tk } ∧ i ≤ n ∧ q' = n + 1 - i ∧ ys.length ≤ i ∧ St i h' ∧ Fr h₀ L h' m ∧ h'.Ns H2.objs.size m' ∧ News h₀ L h' ((s₂.heap.objs.size, lst ys) :: news) ∧ J i ys) := by
          intro ys' h₅ tk₅ hl F₅ N₅ hj₅
          have zC := (N₅ (H2.objs.size, oC) List.mem_cons_self).1
          refine ⟨n + 1 - (i + 1), by omega, h₅, tk₅, i + 1, ys', _, rfl, hlt, rfl, hl, W.frame _ _ _ hst₄ fun b hb o e => ?_, F₅, hoC.ns zC, fun q hq => ?_, hj₅⟩
          · cases hz : h₀.get? b with
            | some o₀ =>
              have : o₀ = o := by have q := F₄.keep b o₀ hz; rw [e] at q; exact (Option.some.inj q).symm
              exact this ▸ F₅.keep b o₀ hz
            | none => exact (N₅ _ (.tail _ (.tail _ (List.mem_append_left _ (mem_ownOf hb hz e))))).1
          · rcases List.mem_cons.mp hq with rfl | hq
            · exact N₅ _ (.tail _ (.head _))
            · exact N₅ _ (.tail _ (.tail _ (List.mem_append_right _ hq)))
        refine wpAny_mono (turn i ys x y own H2.objs.size oC s₂.heap.objs.size _ h₄ _ _ hlt hPV hj' hyl hoC (by simp [hab]) (by simp) F₄ N₄ ownOf_sub) (fun okb s₅ h₅ => ?_) fun _ _ e => e
        cases okb with
        | false =>
          simp only [Bool.false_eq_true, if_false] at h₅ ⊢
          obtain ⟨h₅, tk₅, rfl, F₅, N₅, hj₅⟩ := h₅
          exact fin ys h₅ tk₅ (Nat.le_succ_of_le hyl) F₅ N₅ hj₅
        | true =>
          simp only [if_true] at h₅ ⊢
          refine wpAny_mono h₅ (fun y' s₆ h₅ => ?_) fun _ _ e => e
          obtain ⟨h₅, tk₅, rfl, F₅, N₅, hj₅⟩ := h₅
          have zD := (N₅ (s₂.heap.objs.size, lst ys) (.tail _ (.head _))).1
          have zC := (N₅ (H2.objs.size, oC) (.head _)).1
          refine append_at (hsz := by show ys.toArray.size ≤ sizeLine; rw [List.size_toArray]; exact Nat.le_trans hyl (Nat.le_trans hi hsz)) zD fun h₆ hs₆ hD₆ => ?_
          refine fin (ys ++ [y']) h₆ _ (by rw [List.length_append, List.length_singleton]; exact Nat.succ_le_succ hyl) (F₅.change hs₆ hDL hD₀) (fun q hq => ?_) hj₅
          rcases List.mem_cons.mp hq with rfl | hq
          · exact ⟨hs₆.extBut _ oC (Ne.symm hDC) zC, hCL, hC₀⟩
          rcases List.mem_cons.mp hq with rfl | hq
          · exact ⟨hD₆.trans (congrArg some (lst_snoc ys y')), hDL, hD₀⟩
          · have z := N₅ q (.tail _ (.tail _ hq))
            refine ⟨hs₆.extBut _ _ (fun e => ?_) z.1, z.2⟩
            have e : q.1 = s₂.heap.objs.size := e
            rcases List.mem_append.mp hq with hq | hq
            · exact Nat.lt_irrefl _ (e ▸ hfp _ (ownOf_sub q hq))
            · exact Nat.lt_irrefl _ (e ▸ hnl q hq)
      · obtain rfl : i = n := Nat.le_antisymm hi (Nat.not_lt.mp hlt)
        refine W.done _ _ _ hst' fun h₂ tk₂ hk₂ => ?_
        obtain ⟨F₂, N₂, hn₂⟩ := base h₂ hk₂
        exact hRR _ _ h₂ tk₂ _ ys hj' F₂ N₂ hn₂ hC₀ hD₀ hCL hDL (Ne.symm hDC) (fun p hp => (below _ (hnl p hp)).1) hnl
    · rcases List.mem_cons.mp hp with rfl | hp
      · exact ⟨hacc, hDL, hD₀⟩
      · exact ⟨old _ _ (N p hp).1, (N p hp).2⟩
  exact codeAny_compStart_list (loop _ rfl) (hself _ _ _ hst₁ (loop _ rfl))
theorem block_P {elt iter : PySem.Expr} {a b : Str} {pa pb tp : Pos} {kk : Nat} {scope : Scope} {cl : List (Str × Addr)} {pos : Pos} {s₂ : Shared} {I : Addr} {fp wr : List Addr} {n : Nat} {P Md : Nat → Value → Heap → Prop} {St : Nat → Heap → Prop} {news : List (Addr × Obj)} {RR : Value → Addr → Result → Shared → Prop}
    (PV : Nat → Value → Value → Prop) (J : Nat → List Value → Prop) (hh : A.handled = none) (W : KTurns prog w A (.Tuple [.Name a pa, .Name b pb] kk tp) I fp wr n P Md St) (hP : ∀ i v h, P i v h → ∃ T x y, v = .ref T ∧ h.IsTuple T #[x, y] ∧ PV i x y)
    (hself : ∀ (s : Shared) (Q : Value → Shared → Prop) (E : Value → Shared → Prop), St 0 s.heap → Q (.ref I) s → wpAny (model prog w) A (pyIter (.ref I)) Q E s)
    (hfp : ∀ b ∈ fp, b < s₂.heap.objs.size) (hwr : ∀ b ∈ wr, h₀.get? b = none) (hLf : L ∉ fp) (hnw : ∀ p ∈ news, p.1 ∉ wr) (hsz : n ≤ sizeLine)
    (hcell : ∀ y ∈ scope.names, y.2 ≠ .cell) (hkind : scope.kind = .function) (hxa : scope.names.lookup a = some .local) (hxb : scope.names.lookup b = some .local) (hab : ¬ a = b)
    (hst : St 0 s₂.heap) (F : Fr h₀ L s₂.heap m) (N : News h₀ L s₂.heap news) (hj : J 0 [])
    (turn : ∀ i ys x y own C oC D m₂ h tk (E' : Value → Shared → Prop), i < n → PV i x y → J i ys → ys.length ≤ i → NsObj oC m₂ → m₂ a = some x → m₂ b = some y → Fr h₀ L h m → News h₀ L h ((C, oC) :: (D, lst ys) :: (own ++ news)) → (∀ p ∈ own, p.1 ∈ fp) →
      wpAny (model prog w) A (eval elt (compEnvC scope cl C env)) (fun v s'' => PEnd h₀ L m ((C, oC) :: (D, lst ys) :: (own ++ news)) (J (i + 1) (ys ++ [v])) { s₂ with heap := h, toks := tk } s'') E' { s₂ with heap := h, toks := tk })
    (hRR : ∀ D C h tk m' ys, J n ys → Fr h₀ L h m → News h₀ L h ((D, lst ys) :: news) → h.Ns C m' → h₀.get? C = none → h₀.get? D = none → C ≠ L → D ≠ L → C ≠ D → (∀ p ∈ news, p.1 ≠ C) → (∀ p ∈ news, p.1 < D) → RR (.ref D) C (.ok .next) { s₂ with heap := h, toks := tk }) :
    wpAny (model prog w) A (newList []) (fun acc s₃ => wpAny (model prog w) A (newFunctionEnv scope env.globals cl [] env.qual none .none (some env)) (fun cenv s₄ =>
      codeAny (model prog w) A (.compStart (.ListComp elt [⟨.Tuple [.Name a pa, .Name b pb] kk tp, iter, [], 0⟩] scope pos) 0 (.ref I) acc { cenv with scope := relabel scope env }) (RR acc cenv.locals) s₄) E s₃) E s₂ := by
  refine wpAny_newObj_type (wpAny_newFunctionEnv hcell (by intro y hy; simp at hy) (fun h₁ hns₁ hsb₁ => ?_) hkind)
  dsimp only at hns₁ hsb₁ ⊢
  generalize hH2 : s₂.heap.push { cls := .type "list", dict := none, data := .seq ([] : List Value).toArray } = H2 at hns₁ hsb₁ ⊢
  have hC : H2.objs.size = s₂.heap.objs.size + 1 := by rw [← hH2, Heap.size_push]
  have hDC : s₂.heap.objs.size ≠ H2.objs.size := by rw [hC]; exact Nat.ne_of_lt (Nat.lt_succ_self _)
  have below : ∀ b, b < s₂.heap.objs.size → b ≠ H2.objs.size ∧ b ≠ s₂.heap.objs.size := fun b hb => ⟨by rw [hC]; exact Nat.ne_of_lt (Nat.lt_succ_of_lt hb), Nat.ne_of_lt hb⟩
  have old : ∀ b o, s₂.heap.get? b = some o → h₁.get? b = some o := fun b o e => hsb₁.extBut b o (below b (Heap.lt_size e)).1 (Heap.get?_push_of_some _ (hH2 ▸ Heap.get?_push_of_some _ e))
  have hacc : h₁.get? s₂.heap.objs.size = some (lst []) := hsb₁.extBut _ _ hDC (Heap.get?_push_of_some _ (hH2 ▸ Heap.get?_push_size _ rfl))
  have hst₁ : St 0 h₁ := W.frame _ _ _ hst fun b _ o e => old b o e
  have fresh₀ : ∀ a, s₂.heap.objs.size ≤ a → h₀.get? a = none := fun a ha => by
    cases e : h₀.get? a with
    | none => rfl
    | some o' => exact absurd (Heap.lt_size (F.keep a o' e)) (Nat.not_lt.mpr ha)
  have hD₀ : h₀.get? s₂.heap.objs.size = none := fresh₀ _ (Nat.le_refl _)
  have hC₀ : h₀.get? H2.objs.size = none := fresh₀ _ (by rw [hC]; exact Nat.le_succ _)
  have hLlt : L < s₂.heap.objs.size := F.ns.lt
  have hDL : s₂.heap.objs.size ≠ L := Ne.symm (below L hLlt).2
  have hCL : H2.objs.size ≠ L := Ne.symm (below L hLlt).1
  have hnl : ∀ p ∈ news, p.1 < s₂.heap.objs.size := fun p hp => Heap.lt_size (N p hp).1
  have hCw : H2.objs.size ∉ wr := fun hm => (below _ (hfp _ (W.sub _ hm))).1 rfl
  have hDw : s₂.heap.objs.size ∉ wr := fun hm => (below _ (hfp _ (W.sub _ hm))).2 rfl
  have hLw : L ∉ wr := fun hm => hLf (W.sub _ hm)
  have h0w : ∀ b o, h₀.get? b = some o → b ∉ wr := fun b o e hb => by rw [hwr b hb] at e; cases e
  have loop : ∀ s₃ : Shared, s₃ = { s₂ with heap := h₁, toks := s₂.toks + ([] : List (Str × Value)).length } →
      codeAny (model prog w) A (.compLoop (.ListComp elt [⟨.Tuple [.Name a pa, .Name b pb] kk tp, iter, [], 0⟩] scope pos) 0 (.ref I) (.ref s₂.heap.objs.size) (compEnvC scope cl H2.objs.size env))
        (RR (.ref s₂.heap.objs.size) H2.objs.size) s₃ := by
    rintro s₃ rfl
    refine kcp_loop
      (fun k s' => ∃ h' tk i ys m', s' = { s₂ with heap := h', toks := tk } ∧ i ≤ n ∧ k = n + 1 - i ∧ ys.length ≤ i ∧ St i h' ∧ Fr h₀ L h' m ∧ h'.Ns H2.objs.size m' ∧ News h₀ L h' ((s₂.heap.objs.size, lst ys) :: news) ∧ J i ys) ?_ (n + 1)
      ⟨h₁, _, 0, [], _, rfl, Nat.zero_le _, rfl, Nat.le_refl _, hst₁, F.keeps old, hns₁, fun p hp => ?_, hj⟩
    · rintro k s' ⟨h', tk, i, ys, m', rfl, hi, rfl, hyl, hst', F', hn', N', hj'⟩
      have base : ∀ h₂ : Heap, (∀ b o, b ∉ wr → h'.get? b = some o → h₂.get? b = some o) → Fr h₀ L h₂ m ∧ News h₀ L h₂ ((s₂.heap.objs.size, lst ys) :: news) ∧ h₂.Ns H2.objs.size m' := fun h₂ hk =>
        ⟨⟨F'.ns.at' fun o e => hk _ o hLw e, fun b o e => hk b o (h0w b o e) (F'.keep b o e), F'.above⟩, fun p hp => ⟨hk _ _ (by
          rcases List.mem_cons.mp hp with rfl | hp
          · exact hDw
          · exact hnw p hp) (N' p hp).1, (N' p hp).2⟩, hn'.at' fun o e => hk _ o hCw e⟩
      by_cases hlt : i < n
      · refine W.item i _ _ _ hlt hst' fun v h₂ tk₂ hMd hk₂ => ?_
        refine W.go i v _ _ _ hMd fun h₃ hPv hst₃ hk₃ => ?_
        obtain ⟨F₃, N₃, hn₃⟩ := base h₃ fun b o hb e => hk₃ b o hb (hk₂ b o hb e)
        obtain ⟨T, x, y, rfl, hT, hPV⟩ := hP i v h₃ hPv
        refine kcp_assign (env := compEnvC scope cl H2.objs.size env) hh hT (lookup_relabel_local hxa) (lookup_relabel_local hxb) (by simp [compEnvC, relabel, hkind]) hn₃ fun h₄ tk₄ hn₄ hs₄ => ?_
        obtain ⟨oC, heC, hoC⟩ := ns_obj hn₄
        have F₄ : Fr h₀ L h₄ m := ⟨F₃.ns.at' fun o e => hs₄ _ o (Ne.symm hCL) e, fun c o e => hs₄ c o (fun q => by rw [show c = H2.objs.size from q, hC₀] at e; cases e) (F₃.keep c o e), F₃.above⟩
        have hst₄ : St (i + 1) h₄ := W.frame _ _ _ hst₃ fun b hb o e => hs₄ b o (below b (hfp b hb)).1 e
        generalize hown : ownOf h₀ fp h₄ = own
        have ownOf_sub : ∀ p ∈ own, p.1 ∈ fp := hown ▸ PyProof.Rows.ownOf_sub
        have mem_ownOf : ∀ {b : Addr} {o : Obj}, b ∈ fp → h₀.get? b = none → h₄.get? b = some o → (b, o) ∈ own := fun hb hn e => hown ▸ PyProof.Rows.mem_ownOf hb hn e
        have N₄ : News h₀ L h₄ ((H2.objs.size, oC) :: (s₂.heap.objs.size, lst ys) :: (own ++ news)) := fun q hq => by
          rcases List.mem_cons.mp hq with rfl | hq
          · exact ⟨heC, hCL, hC₀⟩
          rcases List.mem_cons.mp hq with rfl | hq
          · have z := N₃ _ (List.mem_cons_self ..)
            exact ⟨hs₄ _ _ hDC z.1, z.2⟩
          rcases List.mem_append.mp hq with hq | hq
          · exact news_ownOf hLf q (hown ▸ hq)
          · have z := N₃ q (List.mem_cons_of_mem _ hq)
            exact ⟨hs₄ _ _ (below _ (hnl q hq)).1 z.1, z.2⟩
        have fin : ∀ (ys' : List Value) (h₅ : Heap) (tk₅ : Nat), ys'.length ≤ i + 1 → Fr h₀ L h₅ m → News h₀ L h₅ ((H2.objs.size, oC) :: (s₂.heap.objs.size, lst ys') :: (own ++ news)) → J (i + 1) ys' →
            ∃ q', q' < n + 1 - i ∧ (∃ h' tk i ys m', ({ s₂ with heap := h₅, toks := tk₅ } : Shared) = { s₂ with heap := h', toks := tk } ∧ i ≤ n ∧ q' = n + 1 - i ∧ ys.length ≤ i ∧ St i h' ∧ Fr h₀ L h' m ∧ h'.Ns H2.objs.size m' ∧ News h₀ L h' ((s₂.heap.objs.size, lst ys) :: news) ∧ J i ys) := by
          intro ys' h₅ tk₅ hl F₅ N₅ hj₅
          have zC := (N₅ (H2.objs.size, oC) List.mem_cons_self).1
          refine ⟨n + 1 - (i + 1), by omega, h₅, tk₅, i + 1, ys', _, rfl, hlt, rfl, hl, W.frame _ _ _ hst₄ fun b hb o e => ?_, F₅, hoC.ns zC, fun q hq => ?_, hj₅⟩
          · cases hz : h₀.get? b with
            | some o₀ =>
              have : o₀ = o := by have q := F₄.keep b o₀ hz; rw [e] at q; exact (Option.some.inj q).symm
              exact this ▸ F₅.keep b o₀ hz
            | none => exact (N₅ _ (.tail _ (.tail _ (List.mem_append_left _ (mem_ownOf hb hz e))))).1
          · rcases List.mem_cons.mp hq with rfl | hq
            · exact N₅ _ (.tail _ (.head _))
            · exact N₅ _ (.tail _ (.tail _ (List.mem_append_right _ hq)))
        refine wpAny_mono (turn i ys x y own H2.objs.size oC s₂.heap.objs.size _ h₄ _ _ hlt hPV hj' hyl hoC (by simp [hab]) (by simp) F₄ N₄ ownOf_sub) (fun y' s₅ h₅ => ?_) fun _ _ e => e
        obtain ⟨h₅, tk₅, rfl, F₅, N₅, hj₅⟩ := h₅
        have zD := (N₅ (s₂.heap.objs.size, lst ys) (.tail _ (.head _))).1
        have zC := (N₅ (H2.objs.size, oC) (.head _)).1
        refine append_at (hsz := by show ys.toArray.size ≤ sizeLine; rw [List.size_toArray]; exact Nat.le_trans hyl (Nat.le_trans hi hsz)) zD fun h₆ hs₆ hD₆ => ?_
        refine fin (ys ++ [y']) h₆ _ (by rw [List.length_append, List.length_singleton]; exact Nat.succ_le_succ hyl) (F₅.change hs₆ hDL hD₀) (fun q hq => ?_) hj₅
        rcases List.mem_cons.mp hq with rfl | hq
        · exact ⟨hs₆.extBut _ oC (Ne.symm hDC) zC, hCL, hC₀⟩
        rcases List.mem_cons.mp hq with rfl | hq
        · exact ⟨hD₆.trans (congrArg some (lst_snoc ys y')), hDL, hD₀⟩
        · have z := N₅ q (.tail _ (.tail _ hq))
          refine ⟨hs₆.extBut _ _ (fun e => ?_) z.1, z.2⟩
          have e : q.1 = s₂.heap.objs.size := e
          rcases List.mem_append.mp hq with hq | hq
          · exact Nat.lt_irrefl _ (e ▸ hfp _ (ownOf_sub q hq))
          · exact Nat.lt_irrefl _ (e ▸ hnl q hq)
      · obtain rfl : i = n := Nat.le_antisymm hi (Nat.not_lt.mp hlt)
        refine W.done _ _ _ hst' fun h₂ tk₂ hk₂ => ?_
        obtain ⟨F₂, N₂, hn₂⟩ := base h₂ hk₂
        exact hRR _ _ h₂ tk₂ _ ys hj' F₂ N₂ hn₂ hC₀ hD₀ hCL hDL (Ne.symm hDC) (fun p hp => (below _ (hnl p hp)).1) hnl
    · rcases List.mem_cons.mp hp with rfl | hp
      · exact ⟨hacc, hDL, hD₀⟩
      · exact ⟨old _ _ (N p hp).1, (N p hp).2⟩
  exact codeAny_compStart_list (loop _ rfl) (hself _ _ _ hst₁ (loop _ rfl))
end
end Mine
end
section
open Lean Elab Tactic Meta PySem PySem.W PySem.Calls PyProof.Rows PyProof.V PySem.Spec PyProof.Rows.LCg
namespace Mine
set_option maxRecDepth 100000
/-! x = [.. for a, b in enumerate(list) if ..], x = [.. for a, b in zip(list, list)] -/
def CompAt (prog : Program) (w : World) (A : Around) (E : Value → Shared → Prop) (elt target iter : PySem.Expr) (ifs : List PySem.Expr) (scope : Scope) (cl : List (Str × Addr)) (pos : Pos) (env : Env) (y : Str) (py : Pos) (Q : Flow → Shared → Prop) (xv : Value) (s₁ : Shared) : Prop :=
  wpAny (model prog w) A (pyIter xv) (fun it s₂ => wpAny (model prog w) A (newList []) (fun acc s₃ => wpAny (model prog w) A (newFunctionEnv scope env.globals cl [] env.qual none .none (some env)) (fun cenv s₄ =>
    codeAny (model prog w) A (.compStart (.ListComp elt [⟨target, iter, ifs, 0⟩] scope pos) 0 it acc { cenv with scope := relabel scope env }) (compPost (model prog w) A E (some (assign (.Name y py) env)) (fun _ s' => Q .next s') acc cenv.locals) s₄) E s₃) E s₂) E s₁
section
variable {prog : Program} {w : World} {A : Around} {E : Value → Shared → Prop} {s : Shared} {h₀ : Heap} {L : Addr} {m : Str → Option Value} {env : Env}
theorem Assign_CompP {elt target iter : PySem.Expr} {ifs : List PySem.Expr} {y : Str} {py : Pos} {scope : Scope} {cl : List (Str × Addr)} {pos spos : Pos} {Q : Flow → Shared → Prop}
    (hsw : swapsWith (.ListComp elt [⟨target, iter, ifs, 0⟩] scope pos) (some (.Name y py)) spos.line env = pure true)
    (hclos : closureFor scope env = pure cl) (hkind : scope.kind = .function) (hnames : ∀ z ∈ scope.names, z.2 = .local → scope.names.lookup z.1 = some .local)
    (h : wpAny (model prog w) A (eval iter env) (CompAt prog w A E elt target iter ifs scope cl pos env y py Q) E s)
    (hs : ∀ x, foldedSetIterable iter env x = pure x := by intro _; rfl) :
    wpAny (model prog w) A (exec (.Assign [.Name y py] (.ListComp elt [⟨target, iter, ifs, 0⟩] scope pos) spos) env) Q E s := by
  rw [exec_Assign_Name_used _ _ _ _ hsw]
  refine wpAny_bind (wpAny_standAt (wpAny_bind ?_))
  show wpAny _ A (do let _ ← comprehension (.ListComp elt [⟨target, iter, ifs, 0⟩] scope pos) scope env _ (newList []) false (eval iter env) (some (assign (.Name y py) env))) _ _ s
  exact wpAny_bind (wpAny_mono (wpAny_comprehension_free (use := some (assign (.Name y py) env)) (Q := fun _ s' => Q .next s') rfl hs hclos hkind hnames
    (wpAny_mono h (fun xv s₁ h₁ => h₁) fun _ _ e => e)) (fun _ s' hq => wpAny_pure (wpAny_pure hq)) fun _ _ e => e)
theorem comp_done {y : Str} {py : Pos} {Q : Flow → Shared → Prop} {D C : Addr} {h : Heap} {tk : Nat} {m' : Str → Option Value} {ys : List Value} {news : List (Addr × Obj)} (hLe : env.locals = L)
    (hy : env.kindOf y = some .local) (hp : (env.scope.kind == .class || (env.scope.kind == .module && env.locals != env.globals)) = false)
    (F : Fr h₀ L h m) (N : News h₀ L h ((D, lst ys) :: news)) (hn : h.Ns C m') (hC₀ : h₀.get? C = none) (hCL : C ≠ L) (hCD : C ≠ D) (hoff : ∀ p ∈ news, p.1 ≠ C)
    (done : ∀ h tk, Fr h₀ L h (fun z => if z = y then some (.ref D) else m z) → News h₀ L h ((D, lst ys) :: news) → Q .next { s with heap := h, toks := tk }) :
    compPost (model prog w) A E (some (assign (.Name y py) env)) (fun _ s' => Q .next s') (.ref D) C (.ok .next) { s with heap := h, toks := tk } := by
  subst hLe
  show wpAny _ A (assign (.Name y py) env (.ref D)) _ _ _
  refine wpAny_assign_Name (wpAny_storeName_local hy F.ns (fun h₂ hn₂ hs₂ => ?_) hp)
  have hL₀ : h₀.get? env.locals = none := Heap.get?_none_of_le F.above
  have F₂ : Fr h₀ env.locals h₂ (fun z => if z = y then some (.ref D) else m z) := ⟨hn₂, fun b o e => hs₂.extBut b o (fun q => by rw [q, hL₀] at e; cases e) (F.keep b o e), F.above⟩
  refine ⟨m', hn.sameBut hs₂ hCL, fun h'' hs'' => done h'' _ (F₂.change hs'' hCL hC₀) (fun p hp => ?_)⟩
  have z : h₂.get? p.1 = some p.2 := hs₂.extBut _ _ (N p hp).2.1 (N p hp).1
  refine ⟨hs''.extBut _ _ ?_ z, (N p hp).2⟩
  rcases List.mem_cons.mp hp with rfl | hp
  · exact Ne.symm hCD
  · exact hoff p hp
theorem enum_comp {elt iter c : PySem.Expr} {a b y : Str} {pa pb tp py : Pos} {kk : Nat} {scope : Scope} {cl : List (Str × Addr)} {pos : Pos} {Q : Flow → Shared → Prop} {l : Addr} {vs : List Value} {n₀ : Nat} {news : List (Addr × Obj)} (J : Nat → List Value → Prop)
    (hh : A.handled = none) (hLe : env.locals = L) (hcell : ∀ z ∈ scope.names, z.2 ≠ .cell) (hkind : scope.kind = .function) (hxa : scope.names.lookup a = some .local) (hxb : scope.names.lookup b = some .local) (hab : ¬ a = b)
    (hy : env.kindOf y = some .local) (hp : (env.scope.kind == .class || (env.scope.kind == .module && env.locals != env.globals)) = false)
    (F : Fr h₀ L s.heap m) (N : News h₀ L s.heap news) (hl : (l, listOf vs.toArray n₀) ∈ news) (hz : vs.length ≤ 1000) (hj : J 0 [])
    (turn : ∀ (i : Nat) (ys : List Value) (x y : Value) (own : List (Addr × Obj)) (C : Addr) (oC : Obj) (D : Addr) (m₂ : Str → Option Value) (h : Heap) (tk : Nat) (E' : Value → Shared → Prop), i < vs.length → (∃ t, x = .int (i : Int) t ∧ vs[i]? = some y) → J i ys → ys.length ≤ i → NsObj oC m₂ → m₂ a = some x → m₂ b = some y → Fr h₀ L h m → News h₀ L h ((C, oC) :: (D, lst ys) :: (own ++ news)) →
      wpAny (model prog w) A (isTrue c (compEnvC scope cl C env) (eval c (compEnvC scope cl C env))) (fun ok s' => if ok = true then wpAny (model prog w) A (eval elt (compEnvC scope cl C env)) (fun v s'' => PEnd h₀ L m ((C, oC) :: (D, lst ys) :: (own ++ news)) (J (i + 1) (ys ++ [v])) { s with heap := h, toks := tk } s'') E'  s' else PEnd h₀ L m ((C, oC) :: (D, lst ys) :: (own ++ news)) (J (i + 1) ys) { s with heap := h, toks := tk } s') E' { s with heap := h, toks := tk })
    (done : ∀ D h tk ys, J (vs.length) ys → Fr h₀ L h (fun z => if z = y then some (.ref D) else m z) → News h₀ L h ((D, lst ys) :: news) → (∀ p ∈ news, p.1 < D) → Q .next { s with heap := h, toks := tk }) :
    wpAny (model prog w) A (call (.type "enumerate") [.ref l]) (CompAt prog w A E elt (.Tuple [.Name a pa, .Name b pb] kk tp) iter [c] scope cl pos env y py Q) E s := by
  have hls : s.heap.IsList l vs.toArray := PySem.IsL.isList (n := n₀) (N _ hl).1
  have hlt : l < s.heap.objs.size := Heap.lt_size (N _ hl).1
  have hLs : L < s.heap.objs.size := F.ns.lt
  have hln := (N _ hl).2
  refine call_enumerate_list hls fun h' hE hI hsz hk => ?_
  refine wpAny_pyIter_enum hE ?_
  have fresh₀ : ∀ a, s.heap.objs.size ≤ a → h₀.get? a = none := fun a ha => by
    cases e : h₀.get? a with
    | none => rfl
    | some o' => exact absurd (Heap.lt_size (F.keep a o' e)) (Nat.not_lt.mpr ha)
  have WT := WalksT.enumerate (prog := prog) (w := w) (A := A) hh (s.heap.objs.size + 1) s.heap.objs.size l (Nat.succ_ne_self _) (Nat.ne_of_lt (Nat.lt_succ_of_lt hlt)) (Nat.ne_of_lt hlt) vs.toArray
  refine block_PT (s₂ := { s with heap := h' }) (fun i x y => ∃ t, x = .int (i : Int) t ∧ vs[i]? = some y) J hh (KTurns.ofWalksU WT.toU) ?_ (fun s Q E hst hq => ?_) (fun b hb => ?_) (fun b hb => ?_) ?_ (fun p hp hb => ?_) (by rw [List.size_toArray, sizeLine_eq]; omega) hcell hkind hxa hxb hab
    ⟨⟨.none, hE⟩, hI, hls.at fun o e => hk l o e⟩ (F.keeps hk) (N.grown hk) hj (fun i ys x y own C oC D m₂ h tk E' hi hpv hj' hyl hC h1 h2 F' N' _ => turn i ys x y own C oC D m₂ h tk E' (by simpa using hi) hpv hj' hyl hC h1 h2 F' N') ?_
  · rintro i v h ⟨T, vals, rfl, ⟨t, x, hx, rfl⟩, hT⟩
    exact ⟨T, _, x, rfl, hT, t, rfl, by simpa using hx⟩
  · obtain ⟨⟨old, he⟩, _⟩ := hst
    exact wpAny_pyIter_enum he hq
  · show b < h'.objs.size
    rw [hsz]
    have hb' : b = s.heap.objs.size + 1 ∨ b = s.heap.objs.size ∨ b = l := by simpa using hb
    rcases hb' with rfl | rfl | rfl
    · exact Nat.lt_succ_self _
    · exact Nat.lt_succ_of_lt (Nat.lt_succ_self _)
    · exact Nat.lt_succ_of_lt (Nat.lt_succ_of_lt hlt)
  · have hb' : b = s.heap.objs.size + 1 ∨ b = s.heap.objs.size := by simpa using hb
    rcases hb' with rfl | rfl
    · exact fresh₀ _ (Nat.le_succ _)
    · exact fresh₀ _ (Nat.le_refl _)
  · intro hm
    have hb' : L = s.heap.objs.size + 1 ∨ L = s.heap.objs.size ∨ L = l := by simpa using hm
    rcases hb' with e | e | e
    · exact absurd (e ▸ hLs) (Nat.not_lt.mpr (Nat.le_succ _))
    · exact absurd (e ▸ hLs) (Nat.lt_irrefl _)
    · exact hln.1 e.symm
  · have hp' := Heap.lt_size (N p hp).1
    have hb' : p.1 = s.heap.objs.size + 1 ∨ p.1 = s.heap.objs.size := by simpa using hb
    rcases hb' with e | e
    · rw [e] at hp'; exact absurd hp' (Nat.not_lt.mpr (Nat.le_succ _))
    · rw [e] at hp'; exact absurd hp' (Nat.lt_irrefl _)
  · intro D C h tk m' ys hj' F' N' hn hC₀ hD₀ hCL hDL hCD hoff hlD
    refine comp_done (s := s) hLe hy hp F' N' hn hC₀ hCL hCD hoff fun h2 tk2 F2 N2 => done D h2 tk2 ys (by simpa using hj') F2 N2 hlD
theorem zip_comp {elt iter : PySem.Expr} {a b y : Str} {pa pb tp py : Pos} {kk : Nat} {scope : Scope} {cl : List (Str × Addr)} {pos : Pos} {Q : Flow → Shared → Prop} {l1 l2 : Addr} {vs us : List Value} {n1 n2 : Nat} {news : List (Addr × Obj)} (J : Nat → List Value → Prop)
    (hh : A.handled = none) (hLe : env.locals = L) (hcell : ∀ z ∈ scope.names, z.2 ≠ .cell) (hkind : scope.kind = .function) (hxa : scope.names.lookup a = some .local) (hxb : scope.names.lookup b = some .local) (hab : ¬ a = b)
    (hy : env.kindOf y = some .local) (hp : (env.scope.kind == .class || (env.scope.kind == .module && env.locals != env.globals)) = false)
    (F : Fr h₀ L s.heap m) (N : News h₀ L s.heap news) (hl1 : (l1, listOf vs.toArray n1) ∈ news) (hl2 : (l2, listOf us.toArray n2) ∈ news) (hz : vs.length ≤ 1000) (hj : J 0 [])
    (turn : ∀ (i : Nat) (ys : List Value) (x y : Value) (own : List (Addr × Obj)) (C : Addr) (oC : Obj) (D : Addr) (m₂ : Str → Option Value) (h : Heap) (tk : Nat) (E' : Value → Shared → Prop), i < min vs.length us.length → (vs[i]? = some x ∧ us[i]? = some y) → J i ys → ys.length ≤ i → NsObj oC m₂ → m₂ a = some x → m₂ b = some y → Fr h₀ L h m → News h₀ L h ((C, oC) :: (D, lst ys) :: (own ++ news)) →
      wpAny (model prog w) A (eval elt (compEnvC scope cl C env)) (fun v s'' => PEnd h₀ L m ((C, oC) :: (D, lst ys) :: (own ++ news)) (J (i + 1) (ys ++ [v])) { s with heap := h, toks := tk } s'') E' { s with heap := h, toks := tk })
    (done : ∀ D h tk ys, J (min vs.length us.length) ys → Fr h₀ L h (fun z => if z = y then some (.ref D) else m z) → News h₀ L h ((D, lst ys) :: news) → (∀ p ∈ news, p.1 < D) → Q .next { s with heap := h, toks := tk }) :
    wpAny (model prog w) A (call (.type "zip") [.ref l1, .ref l2]) (CompAt prog w A E elt (.Tuple [.Name a pa, .Name b pb] kk tp) iter [] scope cl pos env y py Q) E s := by
  have hs1 : s.heap.IsList l1 vs.toArray := PySem.IsL.isList (n := n1) (N _ hl1).1
  have hs2 : s.heap.IsList l2 us.toArray := PySem.IsL.isList (n := n2) (N _ hl2).1
  have hlt1 : l1 < s.heap.objs.size := Heap.lt_size (N _ hl1).1
  have hlt2 : l2 < s.heap.objs.size := Heap.lt_size (N _ hl2).1
  have hLs : L < s.heap.objs.size := F.ns.lt
  have hln1 := (N _ hl1).2
  have hln2 := (N _ hl2).2
  refine call_zip_2 hs1 hs2 fun h' hzp hTI hTO hi1 hi2 hsz hk => ?_
  refine wpAny_pyIter_zip hzp ?_
  have fresh₀ : ∀ a, s.heap.objs.size ≤ a → h₀.get? a = none := fun a ha => by
    cases e : h₀.get? a with
    | none => rfl
    | some o' => exact absurd (Heap.lt_size (F.keep a o' e)) (Nat.not_lt.mpr ha)
  have WT := WalksT.zip2 (prog := prog) (w := w) (A := A) hh _ _ _ _ _ _ _ (ktu_apart s.heap.objs.size l1 l2 hlt1 hlt2) vs.toArray us.toArray
  have hmin : min vs.toArray.size us.toArray.size = min vs.length us.length := by simp
  refine block_P (s₂ := { s with heap := h' }) (fun i x y => vs[i]? = some x ∧ us[i]? = some y) J hh (KTurns.ofWalksU WT.toU) ?_ (fun s Q E hst hq => ?_) (fun b hb => ?_) (fun b hb => ?_) ?_ (fun p hp hb => ?_) (by rw [hmin, sizeLine_eq]; omega) hcell hkind hxa hxb hab
    ⟨hzp, hTI, ⟨_, _, hTO⟩, hi1, hi2, hs1.at fun o e => hk l1 o e, hs2.at fun o e => hk l2 o e⟩ (F.keeps hk) (N.grown hk) hj (fun i ys x y own C oC D m₂ h tk E' hi hpv hj' hyl hC h1 h2 F' N' _ => turn i ys x y own C oC D m₂ h tk E' (by rw [hmin] at hi; exact hi) hpv hj' hyl hC h1 h2 F' N') ?_
  · rintro i v h ⟨T, vals, rfl, ⟨x, y, hx, hy, rfl⟩, hT⟩
    exact ⟨T, x, y, rfl, hT, by simpa using hx, by simpa using hy⟩
  · obtain ⟨he, _⟩ := hst
    exact wpAny_pyIter_zip he hq
  · show b < h'.objs.size
    rw [hsz]
    have hb' : b = s.heap.objs.size + 4 ∨ b = s.heap.objs.size + 2 ∨ b = s.heap.objs.size + 3 ∨ b = s.heap.objs.size ∨ b = s.heap.objs.size + 1 ∨ b = l1 ∨ b = l2 := by simpa using hb
    rcases hb' with rfl | rfl | rfl | rfl | rfl | rfl | rfl
    · exact Nat.lt_succ_self _
    · exact Nat.add_lt_add_left (by decide) _
    · exact Nat.add_lt_add_left (by decide) _
    · exact Nat.lt_add_of_pos_right (by decide)
    · exact Nat.add_lt_add_left (by decide) _
    · exact Nat.lt_of_lt_of_le hlt1 (Nat.le_add_right _ _)
    · exact Nat.lt_of_lt_of_le hlt2 (Nat.le_add_right _ _)
  · have hb' : b = s.heap.objs.size + 4 ∨ b = s.heap.objs.size + 3 ∨ b = s.heap.objs.size ∨ b = s.heap.objs.size + 1 := by simpa using hb
    rcases hb' with rfl | rfl | rfl | rfl
    all_goals first | exact fresh₀ _ (Nat.le_refl _) | exact fresh₀ _ (Nat.le_add_right _ _)
  · intro hm
    have hb' : L = s.heap.objs.size + 4 ∨ L = s.heap.objs.size + 2 ∨ L = s.heap.objs.size + 3 ∨ L = s.heap.objs.size ∨ L = s.heap.objs.size + 1 ∨ L = l1 ∨ L = l2 := by simpa using hm
    have hge : ∀ k, L ≠ s.heap.objs.size + k := fun k e => absurd (e ▸ hLs) (Nat.not_lt.mpr (Nat.le_add_right _ _))
    rcases hb' with e | e | e | e | e | e | e
    · exact hge 4 e
    · exact hge 2 e
    · exact hge 3 e
    · exact hge 0 e
    · exact hge 1 e
    · exact hln1.1 e.symm
    · exact hln2.1 e.symm
  · have hp' := Heap.lt_size (N p hp).1
    have hge : ∀ k, p.1 ≠ s.heap.objs.size + k := fun k e => absurd (e ▸ hp') (Nat.not_lt.mpr (Nat.le_add_right _ _))
    have hb' : p.1 = s.heap.objs.size + 4 ∨ p.1 = s.heap.objs.size + 3 ∨ p.1 = s.heap.objs.size ∨ p.1 = s.heap.objs.size + 1 := by simpa using hb
    rcases hb' with e | e | e | e
    · exact hge 4 e
    · exact hge 3 e
    · exact hge 0 e
    · exact hge 1 e
  · intro D C h tk m' ys hj' F' N' hn hC₀ hD₀ hCL hDL hCD hoff hlD
    refine comp_done (s := s) hLe hy hp F' N' hn hC₀ hCL hCD hoff fun h2 tk2 F2 N2 => done D h2 tk2 ys (by rw [hmin] at hj'; exact hj') F2 N2 hlD
end
end Mine
end
section
open Lean Elab Tactic Meta PySem PySem.W PySem.Calls PyProof.Rows PyProof.V PySem.Builtin PySem.Spec PySem.SeqAt
namespace Mine
set_option maxRecDepth 100000
/-! the same, with None -/
mutual
def plainN : PyData → Bool
  | .int _ => true
  | .str x => PyData.strOk x
  | .list xs => plainAllN xs
  | .tuple xs => plainAllN xs
  | .none => true
  | .bool _ => false
  | .dict _ => false
def plainAllN : List PyData → Bool
  | [] => true
  | x :: xs => plainN x && plainAllN xs
end
mutual
theorem plainN_canLay : ∀ d, plainN d = true → PyData.canLay0 d = true
  | .int _, _ => by rw [PyData.canLay0]
  | .str x, h => by rw [PyData.canLay0]; rw [plainN] at h; exact h
  | .list xs, h => by rw [PyData.canLay0]; rw [plainN] at h; exact plainN_canLayAll xs h
  | .tuple xs, h => by rw [PyData.canLay0]; rw [plainN] at h; exact plainN_canLayAll xs h
  | .none, _ => by rw [PyData.canLay0]
  | .bool _, h => by rw [plainN] at h; cases h
  | .dict _, h => by rw [plainN] at h; cases h
theorem plainN_canLayAll : ∀ ds, plainAllN ds = true → PyData.canLayAll0 ds = true
  | [], _ => by rw [PyData.canLayAll0]
  | x :: xs, h => by
    rw [plainAllN, Bool.and_eq_true] at h
    rw [PyData.canLayAll0, Bool.and_eq_true]
    exact ⟨plainN_canLay x h.1, plainN_canLayAll xs h.2⟩
end
mutual
theorem plainN_noMix : ∀ d d', plainN d = true → plainN d' = true → noMix d d' = true
  | .int _, d', _, h' => by cases d' <;> first | (simp only [plainN] at h'; cases h'; done) | simp only [noMix]
  | .str _, d', _, h' => by cases d' <;> first | (simp only [plainN] at h'; cases h'; done) | simp only [noMix]
  | .list xs, d', h, h' => by
    cases d' with
    | list ys => rw [noMix]; rw [plainN] at h h'; exact plainN_noMixAll xs ys h h'
    | _ => first | (simp only [plainN] at h'; cases h'; done) | simp only [noMix]
  | .tuple xs, d', h, h' => by
    cases d' with
    | tuple ys => rw [noMix]; rw [plainN] at h h'; exact plainN_noMixAll xs ys h h'
    | _ => first | (simp only [plainN] at h'; cases h'; done) | simp only [noMix]
  | .none, d', _, h' => by cases d' <;> first | (simp only [plainN] at h'; cases h'; done) | simp only [noMix]
  | .bool _, _, h, _ => by rw [plainN] at h; cases h
  | .dict _, _, h, _ => by rw [plainN] at h; cases h
theorem plainN_noMixAll : ∀ xs ys, plainAllN xs = true → plainAllN ys = true → noMixAll xs ys = true
  | [], [], _, _ => by simp only [noMixAll]
  | [], _ :: _, _, _ => by simp only [noMixAll]
  | _ :: _, [], _, _ => by simp only [noMixAll]
  | x :: xs, y :: ys, h, h' => by
    rw [plainAllN, Bool.and_eq_true] at h h'
    rw [noMixAll, Bool.and_eq_true]
    exact ⟨plainN_noMix x y h.1 h'.1, plainN_noMixAll xs ys h.2 h'.2⟩
end
mutual
theorem plainN_same : ∀ d d', plainN d = true → plainN d' = true → (Spec.same d d' = true ↔ d = d')
  | .int a, d', _, h' => by cases d' <;> first | (simp only [plainN] at h'; cases h'; done) | simp [Spec.same]
  | .str a, d', _, h' => by cases d' <;> first | (simp only [plainN] at h'; cases h'; done) | simp [Spec.same]
  | .list xs, d', h, h' => by
    cases d' with
    | list ys =>
      rw [plainN] at h h'
      rw [Spec.same, plainN_sameAll xs ys h h']; simp
    | _ => first | (simp only [plainN] at h'; cases h'; done) | simp [Spec.same]
  | .tuple xs, d', h, h' => by
    cases d' with
    | tuple ys =>
      rw [plainN] at h h'
      rw [Spec.same, plainN_sameAll xs ys h h']; simp
    | _ => first | (simp only [plainN] at h'; cases h'; done) | simp [Spec.same]
  | .none, d', _, h' => by cases d' <;> first | (simp only [plainN] at h'; cases h'; done) | simp [Spec.same]
  | .bool _, _, h, _ => by rw [plainN] at h; cases h
  | .dict _, _, h, _ => by rw [plainN] at h; cases h
theorem plainN_sameAll : ∀ xs ys, plainAllN xs = true → plainAllN ys = true → (Spec.sameAll xs ys = true ↔ xs = ys)
  | [], [], _, _ => by simp [Spec.sameAll]
  | [], _ :: _, _, _ => by simp [Spec.sameAll]
  | _ :: _, [], _, _ => by simp [Spec.sameAll]
  | x :: xs, y :: ys, h, h' => by
    rw [plainAllN, Bool.and_eq_true] at h h'
    rw [Spec.sameAll, Bool.and_eq_true, plainN_same x y h.1 h'.1, plainN_sameAll xs ys h.2 h'.2]; simp
end
theorem plainAllN_of {ds : List PyData} (h : ∀ d ∈ ds, plainN d = true) : plainAllN ds = true := by
  induction ds with
  | nil => rw [plainAllN]
  | cons x xs ih => rw [plainAllN, h x (.head _), ih fun d hd => h d (.tail _ hd)]; rfl
theorem plainN_shaped {d : PyData} (h : plainN d = true) (hd : PyData.depth d ≤ 64) : shaped d = true := by
  unfold shaped; rw [plainN_canLay d h, Bool.true_and]; exact decide_eq_true hd
theorem rd_none {led : List (Addr × Obj)} : Rd led .none .none := fun _ _ => ⟨_, .none⟩
section
variable {prog : Program} {w : World} {A : Around} {E : Value → Shared → Prop} {s : Shared} {h₀ : Heap} {L a b : Addr} {m : Str → Option Value} {led : List (Addr × Obj)} {x y : Value} {d d' : PyData} {ds : List PyData} {vs : List Value} {n : Nat} {Q : Value → Shared → Prop} {c : Bool}
theorem ne_rdN (N : News h₀ L s.heap led) (r : Rd led x d) (r' : Rd led y d') (hp : plainN d = true) (hp' : plainN d' = true) (hd : PyData.depth d ≤ 60) (hd' : PyData.depth d' ≤ 60) (hu : A.units + 64 < cLine) (hc : c = true ↔ d = d') (h : Q (.bool (!c)) s) :
    wpAny (model prog w) A (compareOp .NotEq x y) Q E s := by
  obtain ⟨as, r⟩ := r s.heap fun p hp => (N p hp).1
  obtain ⟨bs, r'⟩ := r' s.heap fun p hp => (N p hp).1
  refine ne_dataH_same r r' (plainN_shaped hp (by omega)) (plainN_shaped hp' (by omega)) hu (plainN_noMix d d' hp hp') ?_
  have e : Spec.same d d' = c := by rw [Bool.eq_iff_iff, plainN_same d d' hp hp', hc]
  rw [e]; exact h
end
end Mine
end
section
open Lean Elab Tactic Meta PySem PySem.W PySem.Calls PyProof.Rows PyProof.V PySem.Builtin
namespace Mine
set_option maxRecDepth 100000
/-! for a, b in list -/
section
variable {prog : Program} {w : World} {A : Around} {E : Value → Shared → Prop} {s : Shared} {env : Env} {h₀ : Heap} {L : Addr} {body : List Stmt} {Q : Flow → Shared → Prop}
theorem go_listiter {elts : List PySem.Expr} {kx : Nat} {pt : Pos} {I l : Addr} {i : Nat} {v : Value} {Q : Unit → Shared → Prop} (hit : s.heap.IsListIter I l i) (hQ : Q () s) : wpAny (model prog w) A (letOwnedTupleGo (.Tuple elts kx pt) (.ref I) v) Q E s := by
  cases v with
  | ref T => exact wpAny_letOwnedTupleGo_listiter hit hQ
  | _ => exact wpAny_pure hQ
theorem tuple_iterJ {elts : List PySem.Expr} {kx : Nat} {pt : Pos} {l : Addr} {vs : List Value} {n₀ : Nat} {m₀ : Str → Option Value} {news : List (Addr × Obj)} (J : Nat → (Str → Option Value) → List (Addr × Obj) → Prop)
    (hh : A.handled = none) (hLe : env.locals = L) (F : Fr h₀ L s.heap m₀) (N : News h₀ L s.heap news) (hlm : (l, listOf vs.toArray n₀) ∈ news) (hj : J 0 m₀ news)
    (turn : ∀ (i : Nat) v m₁ news₁ I own h tk, vs[i]? = some v → J i m₁ news₁ → (∀ p ∈ own, p.1 = I ∨ p.1 = l) → (∀ p ∈ news₁, p.1 ≠ I) → (∃ o, (I, o) ∈ own) → Fr h₀ L h m₁ → News h₀ L h (news₁ ++ own) →
      wpAny (model prog w) A (assign (.Tuple elts kx pt) env v) (fun _ s' => wpAny (model prog w) A (execs body env) (TurnPost h₀ L I own (J (i + 1)) { s with heap := h, toks := tk } Q) E s') E { s with heap := h, toks := tk })
    (done : ∀ m₁ news₁ h tk, J vs.length m₁ news₁ → Fr h₀ L h m₁ → News h₀ L h news₁ → Q .next { s with heap := h, toks := tk }) :
    wpAny (model prog w) A (pyIter (.ref l)) (fun it s₂ => TurnsAt prog w A h₀ env (.Tuple elts kx pt) body Q E it s₂) E s := by
  subst hLe
  have hl : s.heap.IsList l vs.toArray := PySem.IsL.isList (n := n₀) (N _ hlm).1
  have hln := (N _ hlm).2
  have hls : l < s.heap.objs.size := Heap.lt_size (N _ hlm).1
  have hLs : env.locals < s.heap.objs.size := F.ns.lt
  have hnew := next_is_new F
  refine wpAny_pyIter_list hl ?_
  have W := Walks.list (prog := prog) (w := w) hh s.heap.objs.size l (Nat.ne_of_lt hls) vs.toArray
  have hlen : vs.toArray.size = vs.length := by simp
  rw [hlen] at W
  refine ⟨_, _, _, _, _, _, _, m₀, news, fun i m' nx => J i m' nx, rfl, KTurns.ofWalks W fun i v s Q E hst hq => go_listiter hst.1 hq, ?_, ?_, ?_, ⟨⟨_, Heap.get?_push_size _ rfl, rfl, rfl⟩, hl.push _⟩, F.push _, fun p hp => ⟨Heap.get?_push_of_some _ (N p hp).1, (N p hp).2⟩, hj, ?_, ?_⟩
  · intro hm
    rcases List.mem_cons.mp hm with e | hm
    · exact absurd (e ▸ hLs) (Nat.lt_irrefl _)
    · exact hln.1 (List.mem_singleton.mp hm).symm
  · intro b hb
    rw [List.mem_singleton.mp hb]; exact hnew
  · intro p hp hb
    exact absurd (Heap.lt_size (N p hp).1) ((List.mem_singleton.mp hb) ▸ Nat.lt_irrefl _)
  · rintro i v m₁ news₁ h₁ tk₁ own hi hP hJ hoff hown hget hall hst F₁ N₁
    have hoff' : ∀ p ∈ news₁, p.1 ≠ s.heap.objs.size := fun p hp e => hoff p hp (List.mem_singleton.mpr e)
    have N₂ : News h₀ env.locals h₁ (news₁ ++ own) := fun p hp => N₁ p ((List.mem_append.mp hp).elim (fun h => List.mem_append.mpr (.inr h)) fun h => List.mem_append.mpr (.inl h))
    obtain ⟨⟨o, ho, _⟩, _⟩ := hst
    refine wpAny_mono (turn i v m₁ news₁ s.heap.objs.size own h₁ tk₁ (by simpa using hP) hJ (fun p hp => by simpa using hown p hp) hoff' ⟨o, hall _ (.head _) hnew o ho⟩ F₁ N₂) (fun _ s₃ h₃ => wpAny_mono h₃ (fun f s₂ p => ?_) fun _ _ e => e) fun _ _ e => e
    have fin : TurnEnd h₀ env.locals s.heap.objs.size own (J (i + 1)) { s with heap := h₁, toks := tk₁ } s₂ → LoopStepU h₀ env.locals [s.heap.objs.size] own (J (i + 1)) { s with heap := h₁, toks := tk₁ } .next s₂ := by
      rintro ⟨h', tk, m', all, nx, e, F', N', ho, hn, hI, hm⟩
      exact ⟨rfl, h', tk, m', nx, e, F', fun p hp => N' p ((List.mem_append.mp hp).elim (ho p) (hn p)), fun p hp hq => hI p hp (List.mem_singleton.mp hq), hm⟩
    cases f with
    | ret v => exact p
    | brk => exact p
    | next => exact LoopStepV.next (fin p)
    | cont => exact LoopStepV.cont (fin p)
  · rintro h' tk m' news' F' N' hoff hJ
    exact done m' news' h' tk hJ F' N'
end
end Mine
end
section
open PySem PySem.W PySem.Calls PyProof.Rows PyProof.V
namespace Mine
set_option maxRecDepth 100000
/-! a list's end from a place on -/
section
variable {prog : Program} {w : World} {A : Around} {E : Value → Shared → Prop} {s : Shared} {h₀ : Heap} {L l : Addr} {m : Str → Option Value} {news : List (Addr × Obj)} {vs : List Value} {n : Nat} {Q : Value → Shared → Prop}
theorem pick_list_from (vs : List Value) (a : Nat) (ha : a ≤ vs.length) : slicePick vs.toArray (some (a : Int)) none none = (vs.drop a).toArray := by
  have e : sliceBounds (some (a : Int)) none none vs.toArray.size = ((a : Int), ((vs.toArray.size : Nat) : Int), 1) := by
    have hs : vs.toArray.size = vs.length := by simp
    simp only [sliceBounds, Option.getD_none, show (1 : Int) > 0 by decide, if_true, if_neg (show ¬ ((a : Int) < 0) by omega)]
    congr 1
    omega
  rw [kmk_pick_nat _ e]
  show ((vs.drop a).take (vs.toArray.size - a)).toArray = _
  rw [List.size_toArray, List.take_of_length_le (by rw [List.length_drop]; exact Nat.le_refl _)]
theorem slice_list_from {value slice : PySem.Expr} {a : Nat} {i : Int} {u : Tok} (F : Fr h₀ L s.heap m) (N : News h₀ L s.heap news) (hm : (l, listOf vs.toArray n) ∈ news) (hz : vs.length ≤ 1000000) (hi : i = (a : Int)) (ha : a ≤ vs.length)
    (h : ∀ D h', Fr h₀ L h' m → News h₀ L h' ((D, listOf (vs.drop a).toArray 0) :: news) → (∀ p ∈ news, p.1 < D) → Q (.ref D) { s with heap := h' })
    (hs : subscripted slice false (.ref l) (.ref s.heap.objs.size) = operate [.ref s.heap.objs.size, .ref l] (getItem (.ref l) (.ref s.heap.objs.size)) := by with_unfolding_all rfl) :
    wpAny (model prog w) A (subscriptTail value slice (.ref l) (.ref s.heap.objs.size)) Q E { s with heap := s.heap.push { cls := .type "slice", data := .fields #[.int i u, .none, .none] } } := by
  subst hi
  refine kba_turn (value' := PySem.Expr.Name "x" ⟨0, 0, 0, 0⟩) (fun _ => rfl) ?_
  refine kmk_slice F N (PySem.IsL.isList (n := n) (N _ hm).1) (lo := some (a : Int)) (hi := none) ?_ ?_ (fun D h' F' N' l1 => h D h' F' ?_ l1) hs (fun _ => rfl) (by rw [sizeLine_eq, List.size_toArray]; omega)
  · first | exact .int _ _ | exact rfl | constructor
  · first | exact .none | exact rfl | constructor
  · rw [pick_list_from _ _ ha] at N'; exact N'
end
end Mine
end
section
theorem Mine.switch_S1 : True := by
  w_top off
  trivial
open Lean Elab Tactic Meta PySem PySem.W PySem.Calls PyProof.Rows
set_option pp.deepTerms false
set_option pp.maxSteps 800
set_option pp.deepTerms.threshold 5
namespace Mine
theorem fill_split : Mine.hd.heap_39 = Mine.hd.heap_39 ∧ PySem.Challenge.rw_ew0015_03 = PySem.Challenge.rw_ew0015_03 := by k_fill; exact ⟨rfl, rfl⟩
local macro_rules | `(tactic| walk_at "exec For Name Name cons nil") => `(tactic| (refine Mine.Stop.on ?_))
local macro_rules | `(tactic| walk_at "exec For Name Call cons nil") => `(tactic| (refine Mine.Stop.on ?_))
local macro_rules | `(tactic| walk_at "exec Assign cons ListComp") => `(tactic| (refine Mine.Stop.on ?_))
local macro_rules | `(tactic| walk_at "LeaveC") => `(tactic| fail "here")
local macro_rules | `(tactic| k_room) => `(tactic| first | ktr_room | ((simp only [Mine.mark_depth, depth_under_make, depth_under_kw, depth_in1, depth_deeper, depth_caller]); (try dsimp only [ktrTop]); (try simp only [recursionLimit] at *); omega))
local macro_rules | `(tactic| k_all) => `(tactic| first | assumption | exact Mine.offLt (by assumption) | exact Mine.offLt2 (by assumption) (by assumption) | (refine List.forall_mem_append.mpr ⟨?a, ?b⟩; (case a => k_all); (case b => k_all)))
local macro_rules | `(tactic| walk_at "setItem ref str") => `(tactic| (k_here; k_dflt (refine' kda_setB (knd := PySem.strKind _ _) ?F ?N ?hm ?d (strKind_is _ _ _ _) ?z ?_; (case F => k_asm); (case N => k_asm); (case hm => k_mem); (case d => k_asm); (case z => k_asm)); intro h' o' F' N' hd'))
local macro_rules | `(tactic| walk_at "compareOp Is str ref") => `(tactic| (k_here; refine wpAny_is_other (by rfl) (by intro x; cases x) ?_))
local macro_rules | `(tactic| k_mem) => `(tactic| assumption)
local macro_rules | `(tactic| walk_at "eval Name") => `(tactic| (k_here; (with_reducible show wpAny _ _ (eval (Expr.Name _ _) (envOf _ _ _ _ _)) _ _ _); k_dflt (refine' ld ?k1 ?k2 ?_; (case k1 => k_asm); (case k2 => first | exact rfl | assumption); k_whole)))
local macro_rules | `(tactic| walk_at "eval Name") => `(tactic| (k_here; (with_reducible show wpAny _ _ (eval (Expr.Name _ _) (envOfC _ _ _ _ _)) _ _ _); k_dflt (refine' nameX_L ?F ?v ?_ ?a ?b; (case F => k_asm); (case a => rfl); (case b => rfl); (case v => first | rfl | assumption); k_whole)))
local macro_rules | `(tactic| walk_at "subscriptTail") => `(tactic| (k_here; (with_reducible show wpAny _ _ (subscriptTail _ _ (Value.ref _) (Value.int (-1) _)) _ _ _); k_dflt (refine' neg1_get ?k1 ?k2 ?k3 ?_ ?k4; (case k1 => k_asm); (case k2 => k_mem); (case k3 => k_asm); (case k4 => with_unfolding_all rfl); k_whole)))
local macro_rules | `(tactic| walk_at "setItem ref int") => `(tactic| (k_here; (with_reducible show wpAny _ _ (setItem (Value.ref _) (Value.int (-1) _) _) _ _ _); k_dflt (refine' neg1_set ?k1 ?k2 ?k3 ?k4 ?_; (case k1 => k_asm); (case k2 => k_asm); (case k3 => k_upd); (case k4 => k_asm); k_whole); intro h' F' N'; (try k_sweep)))
def isSp (c : Nat) : Bool := Txt.isspace ⟨#[c]⟩
def kindOf (c : Nat) : Str := if c = 40 ∨ c = 41 then "parens" else if isSp c = true then "space" else "text"
def splitStep (st : List Str × Str) (c : Nat) : List Str × Str :=
  if kindOf c = st.2 ∧ kindOf c ≠ "parens" then (st.1.dropLast ++ [st.1.getLastD "" ++ ⟨#[c]⟩], kindOf c) else (st.1 ++ [⟨#[c]⟩], kindOf c)
def splitAt (x : Str) (i : Nat) : List Str × Str := (x.cps.toList.take i).foldl splitStep ([], "")
def splitTok (x : Str) : List Str := (splitAt x x.cps.size).1
theorem splitAt_succ {x : Str} {i c : Nat} (h : x.cps[i]? = some c) : splitAt x (i + 1) = splitStep (splitAt x i) c := by
  unfold splitAt
  have : x.cps.toList[i]? = some c := by simpa using h
  rw [List.take_add_one, this, List.foldl_append]; rfl

def tot (l : List Str) : Nat := (l.map Str.length).sum
theorem str_app_len (a b : Str) : (a ++ b).length = a.length + b.length := by
  show (a.cps ++ b.cps).size = _
  simp [Str.length]
theorem tot_step (st : List Str × Str) (c : Nat) : tot (splitStep st c).1 = tot st.1 + 1 := by
  have e1 : Str.length ⟨#[c]⟩ = 1 := rfl
  unfold splitStep
  split
  · rcases List.eq_nil_or_concat st.1 with h | ⟨us, u, h⟩
    · rw [h]; rfl
    · rw [h]
      simp [tot, str_app_len, e1]; omega
  · simp [tot, e1]
theorem len_step (st : List Str × Str) (c : Nat) : (splitStep st c).1.length ≤ st.1.length + 1 := by
  unfold splitStep
  split <;> simp
theorem fold_tot (cs : List Nat) : ∀ st : List Str × Str, tot (cs.foldl splitStep st).1 = tot st.1 + cs.length := by
  induction cs with
  | nil => intro st; rfl
  | cons c r ih => intro st; rw [List.foldl_cons, ih, tot_step, List.length_cons]; omega
theorem fold_len (cs : List Nat) : ∀ st : List Str × Str, (cs.foldl splitStep st).1.length ≤ st.1.length + cs.length := by
  induction cs with
  | nil => intro st; exact Nat.le_refl _
  | cons c r ih => intro st; rw [List.foldl_cons]; have := ih (splitStep st c); have := len_step st c; rw [List.length_cons]; omega
theorem splitAt_tot (x : Str) (i : Nat) : tot (splitAt x i).1 ≤ x.length := by
  unfold splitAt; rw [fold_tot]; simp [tot, Str.length]; omega
theorem splitAt_len (x : Str) (i : Nat) : (splitAt x i).1.length ≤ x.length := by
  unfold splitAt
  have h := fold_len (x.cps.toList.take i) ([], "")
  have h2 : (x.cps.toList.take i).length ≤ x.length := by simp [Str.length]; omega
  simp only [List.length_nil] at h; omega
theorem last_le_tot {l : List Str} (h : l ≠ []) (d : Str) : (l.getLastD d).length ≤ tot l := by
  rcases List.eq_nil_or_concat l with e | ⟨us, u, e⟩
  · exact absurd e h
  · rw [e]; simp [tot]
theorem mem_le_tot {l : List Str} {y : Str} (h : y ∈ l) : y.length ≤ tot l := by
  induction l with
  | nil => cases h
  | cons z l ih =>
    have e : tot (z :: l) = z.length + tot l := by simp [tot]
    rcases List.mem_cons.mp h with rfl | h
    · omega
    · have := ih h; omega
theorem fold_ne (cs : List Nat) : ∀ st : List Str × Str, (st.1 = [] → st.2 = "") → (cs.foldl splitStep st).1 = [] → (cs.foldl splitStep st).2 = "" := by
  induction cs with
  | nil => intro st h; exact h
  | cons c r ih =>
    intro st h
    rw [List.foldl_cons]
    refine ih _ (fun e => ?_)
    unfold splitStep at e
    split at e <;> simp at e
theorem splitAt_ne (x : Str) (i : Nat) : (splitAt x i).1 = [] → (splitAt x i).2 = "" := fold_ne _ _ (fun _ => rfl)

theorem occ_par : ∀ c, c < 128 → (Builtin.Str.occurrences (Str.ofString "()") ⟨#[c]⟩ 0 (Str.ofString "()").length 1).isEmpty = !(decide (c = 40) || decide (c = 41)) := by decide +kernel
theorem kind_par {c : Nat} (h : c < 128) (e : (Builtin.Str.occurrences (Str.ofString "()") ⟨#[c]⟩ 0 (Str.ofString "()").length 1).isEmpty = false) : kindOf c = "parens" := by
  rw [occ_par c h] at e
  unfold kindOf
  rw [if_pos (by simp only [Bool.not_eq_false', Bool.or_eq_true, decide_eq_true_eq] at e; exact e)]
theorem kind_sp {c : Nat} (h : c < 128) (e : (Builtin.Str.occurrences (Str.ofString "()") ⟨#[c]⟩ 0 (Str.ofString "()").length 1).isEmpty = true) (e2 : Txt.isspace ⟨#[c]⟩ = true) : kindOf c = "space" := by
  rw [occ_par c h] at e
  unfold kindOf isSp
  rw [if_neg (by simpa using e), if_pos e2]
theorem kind_tx {c : Nat} (h : c < 128) (e : (Builtin.Str.occurrences (Str.ofString "()") ⟨#[c]⟩ 0 (Str.ofString "()").length 1).isEmpty = true) (e2 : Txt.isspace ⟨#[c]⟩ = false) : kindOf c = "text" := by
  rw [occ_par c h] at e
  unfold kindOf isSp
  rw [if_neg (by simpa using e), if_neg (by rw [e2]; decide)]
theorem par_sp : (Str.ofString "space" = Str.ofString "parens") = False := by simp; decide
theorem par_tx : (Str.ofString "text" = Str.ofString "parens") = False := by simp; decide
theorem step_same {st : List Str × Str} {c : Nat} {k : Str} (hk : kindOf c = k) (h : (k == st.2) = true) (hp : (k == Str.ofString "parens") = false) : splitStep st c = (st.1.dropLast ++ [st.1.getLastD ⟨#[]⟩ ++ ⟨#[c]⟩], k) := by
  unfold splitStep
  rw [hk, if_pos ⟨by simpa using h, by simpa using hp⟩]; rfl
theorem step_new {st : List Str × Str} {c : Nat} {k : Str} (hk : kindOf c = k) (h : (k == st.2) = false) : splitStep st c = (st.1 ++ [⟨#[c]⟩], k) := by
  unfold splitStep
  rw [hk, if_neg (fun q => by simp [q.1] at h)]
theorem step_par {st : List Str × Str} {c : Nat} (hk : kindOf c = "parens") : splitStep st c = (st.1 ++ [⟨#[c]⟩], Str.ofString "parens") := by
  unfold splitStep
  rw [hk, if_neg (fun q => q.2 rfl)]

section
variable {prog : Program} {w : World} {dp un : Nat} {gd : Option (List Code)} {cn : Str} {cs : Scope} {a : Addr} {ccd : Value} {cl : List (Str × Addr)} {outer : List Env} {base h₀ : Heap} {L : Addr} {m : Str → Option Value} {news : List (Addr × Obj)} {s : Shared} {Q E : Value → Shared → Prop}
set_option maxRecDepth 100000
set_option maxHeartbeats 1000000
theorem split_spec {x : Str} {t : Tok} (C : Cx (Mine.hd.heap_39 w.params) cs outer base h₀ L s.heap m news) (hd : dp + 10 < recursionLimit) (hu : un + 100 < cLine) (hx : x.length ≤ 1000) (ha : x.cps.all (· < 128) = true)
   (hQ : ∀ h' tk' l vs n, Cx (Mine.hd.heap_39 w.params) cs outer base h₀ L h' m ((l, listOf vs.toArray n) :: news) → (∀ p ∈ news, p.1 < l) → StrsAre vs (splitTok x) → Q (.ref l) { s with heap := h', toks := tk' }) :
   wpAny (model prog w) (ktrTop dp un gd cn cs L a ccd cl outer) (call (.ref 284) [.str x t]) Q E s := by
  obtain ⟨⟨A0, B0⟩, F0, XB0, N0, ⟨p0, loose0, mean0, mg0, mb0, TB0⟩, D0, hk0⟩ := id C
  have X0 := XB0.keeps B0.stays
  have T0 := TB0.keeps B0.stays
  refine wpAny_call ?_
  k_dflt (refine' enterC C ?kA ?kF ?kK ?k6 ?k7 ?k8 ?k9 ?kB ?_ ?c2 ?c3 ?c4 ?c5; (case kA => exact rfl); (case kF => exact rfl); (case kK => exact hk0); (case k6 => k_is); (case k7 => k_is); (case k8 => (show dp < _; omega)); (case k9 => first | exact BindsTo.of_eq rfl | exact binds_K (by k_in) rfl (by k_is) rfl rfl rfl); (case kB => exact locs rfl); (case c2 => exact rfl); (case c3 => exact rfl); (case c4 => exact rfl); (case c5 => decide); k_whole)
  intro g L1 hh1 C1 hlt1
  clear B0 F0 N0 X0 T0 D0
  obtain ⟨⟨A1, B1⟩, F1, XB1, N1, ⟨p1, loose1, mean1, mg1, mb1, TB1⟩, D1, hk1⟩ := id C1
  have X1 := XB1.keeps B1.stays
  have T1 := TB1.keeps B1.stays
  dsimp only
  try k_fold
  k_steps
  refine Mine.Stop.off ?_
  (rename Fr _ _ _ _ => lF); (with_unfolding_all refine' For_invVF lF ?k1 ?k2 ?_; (case k1 => exact rfl); (case k2 => exact rfl); k_whole)
  k_steps
  rename_i l h2 hlt h4 h0 lN
  refine iter_strJ (fun i m' nx => m' "found" = some (.ref l) ∧ (∃ t, m' "last" = some (.str (splitAt x i).2 t)) ∧ ∃ vs n, nx = (l, listOf vs.toArray n) :: news ∧ StrsAre vs (splitAt x i).1) (by rfl) ha lF lN ⟨rfl, ⟨_, rfl⟩, [], 0, rfl, .nil⟩ ?_ ?_
  · rintro i c u m₁ news₁ I own h tk hc ⟨hm1, ⟨tl, hm2⟩, vs, n, rfl, hvs⟩ hown hoff ⟨oI, hoI⟩ F₁ N₁
    clear lF lN
    replace N₁ : News _ _ _ ((l, listOf vs.toArray n) :: (news ++ own)) := N₁
    have hlI : l ≠ I := hoff _ (.head _)
    have hownl : ∀ p ∈ own, p.1 ≠ l := fun p hp e => hlI (e ▸ (hown p hp))
    have hxl := splitAt_len x i
    have hc128 : c < 128 := by
      have := Array.all_eq_true_iff_forall_mem.mp ha c (Array.mem_of_getElem? hc)
      simpa using this
    have hsz : vs.length ≤ 1000 := by rw [strs_len hvs]; omega
    have hxt := splitAt_tot x i
    have hxe := splitAt_ne x i
    by_cases hne : (splitAt x i).1 = []
    · have hl2 := hxe hne
      rw [hl2] at hm2
      try k_fold
      k_steps
      all_goals (
        show TurnEnd _ _ _ _ _ _ _
        have hstep := splitAt_succ hc
        first
          | rw [step_par (kind_par hc128 (by assumption))] at hstep
          | rw [step_new (kind_sp hc128 (by assumption) (by assumption)) (by rw [hl2]; decide)] at hstep
          | rw [step_new (kind_tx hc128 (by assumption) (by assumption)) (by rw [hl2]; decide)] at hstep
        rename News _ _ _ _ => nE
        rename Fr _ _ _ _ => fE
        rw [List.push_toArray] at nE
        refine TurnEnd.app (nx := (_, _) :: news) fE nE (offSame (by rfl) hoff) ⟨hm1, ⟨_, by rw [hstep]; rfl⟩, _, _, rfl, ?_⟩
        rw [hstep]
        first | exact strs_snoc hvs _ _ | exact strs_snoc (strs_dropLast hvs) _ _)
    · obtain ⟨tlast, hlast⟩ := strs_last hvs hne
      have hpos : 0 < vs.length := by rw [strs_len hvs]; exact List.length_pos_iff.mpr hne
      have hll := last_le_tot hne ⟨#[]⟩
      have hll2 : ((splitAt x i).1.getLastD ⟨#[]⟩).length ≤ 1000 := by omega
      have hcl : Str.length ⟨#[c]⟩ = 1 := rfl
      try k_fold
      k_steps
      all_goals (
        show TurnEnd _ _ _ _ _ _ _
        have hstep := splitAt_succ hc
        first
          | rw [step_par (kind_par hc128 (by assumption))] at hstep
          | rw [step_new (kind_sp hc128 (by assumption) (by assumption)) (by assumption)] at hstep
          | rw [step_new (kind_tx hc128 (by assumption) (by assumption)) (by assumption)] at hstep
          | rw [step_same (kind_sp hc128 (by assumption) (by assumption)) (by assumption) (by decide)] at hstep
          | rw [step_same (kind_tx hc128 (by assumption) (by assumption)) (by assumption) (by decide)] at hstep
        rename News _ _ _ _ => nE
        rename Fr _ _ _ _ => fE
        (try rw [List.push_toArray] at nE)
        refine TurnEnd.app (nx := (_, _) :: news) fE nE (offSame (by rfl) hoff) ⟨hm1, ⟨_, by rw [hstep]; rfl⟩, _, _, rfl, ?_⟩
        rw [hstep]
        first | exact strs_snoc hvs _ _ | exact strs_snoc (strs_dropLast hvs) _ _)
  · rintro m₁ nx h tk ⟨hm1, -, vs, n, rfl, hvs⟩ F₁ N₁
    clear lF lN
    dsimp only
    try k_fold
    k_steps
    refine leaveC0 (by assumption) (by assumption) fun C => hQ _ _ l vs n C hlt hvs
end
end Mine
end
section
theorem Mine.switch_S2 : True := by
  w_top off
  trivial
open Lean Elab Tactic Meta PySem PySem.W PySem.Calls PyProof.Rows
set_option pp.deepTerms false
set_option pp.maxSteps 800
set_option pp.deepTerms.threshold 5
namespace Mine
local macro_rules | `(tactic| walk_at "exec For Name Name cons nil") => `(tactic| (refine Mine.Stop.on ?_))
local macro_rules | `(tactic| walk_at "exec For Name Call cons nil") => `(tactic| (refine Mine.Stop.on ?_))
local macro_rules | `(tactic| walk_at "exec Assign cons ListComp") => `(tactic| (refine Mine.Stop.on ?_))
local macro_rules | `(tactic| walk_at "LeaveC") => `(tactic| fail "here")
local macro_rules | `(tactic| k_room) => `(tactic| first | ktr_room | ((simp only [Mine.mark_depth, depth_under_make, depth_under_kw, depth_in1, depth_deeper, depth_caller]); (try dsimp only [ktrTop]); (try simp only [recursionLimit] at *); omega))
local macro_rules | `(tactic| k_all) => `(tactic| first | assumption | exact Mine.offLt (by assumption) | exact Mine.offLt2 (by assumption) (by assumption) | (refine List.forall_mem_append.mpr ⟨?a, ?b⟩; (case a => k_all); (case b => k_all)))
local macro_rules | `(tactic| walk_at "setItem ref str") => `(tactic| (k_here; k_dflt (refine' kda_setB (knd := PySem.strKind _ _) ?F ?N ?hm ?d (strKind_is _ _ _ _) ?z ?_; (case F => k_asm); (case N => k_asm); (case hm => k_mem); (case d => k_asm); (case z => k_asm)); intro h' o' F' N' hd'))
local macro_rules | `(tactic| walk_at "compareOp Is str ref") => `(tactic| (k_here; refine wpAny_is_other (by rfl) (by intro x; cases x) ?_))
local macro_rules | `(tactic| k_mem) => `(tactic| assumption)
local macro_rules | `(tactic| walk_at "eval Name") => `(tactic| (k_here; (with_reducible show wpAny _ _ (eval (Expr.Name _ _) (envOf _ _ _ _ _)) _ _ _); k_dflt (refine' ld ?k1 ?k2 ?_; (case k1 => k_asm); (case k2 => first | exact rfl | assumption); k_whole)))
local macro_rules | `(tactic| walk_at "eval Name") => `(tactic| (k_here; (with_reducible show wpAny _ _ (eval (Expr.Name _ _) (envOfC _ _ _ _ _)) _ _ _); k_dflt (refine' nameX_L ?F ?v ?_ ?a ?b; (case F => k_asm); (case a => rfl); (case b => rfl); (case v => first | rfl | assumption); k_whole)))
local macro_rules | `(tactic| walk_at "call ref") => `(tactic| ((with_reducible show wpAny _ _ (call (Value.ref 284) _) _ _ _); refine Mine.Stop.on ?_))
theorem lo1_lt (c : Nat) (h : c < 128) : lo1 c < 128 := by revert c; decide +kernel
theorem lower_len {x : Str} (ha : x.cps.all (· < 128) = true) : (Txt.lower x).length = x.length ∧ (Txt.lower x).cps.all (· < 128) = true := by
  have h : ∀ c ∈ x.cps.toList, c < 128 := fun c hc => by
    have := Array.all_eq_true_iff_forall_mem.mp ha c (Array.mem_toList_iff.mp hc)
    simpa using this
  rw [lower_ascii h]
  refine ⟨by simp [Str.length], ?_⟩
  rw [Array.all_eq_true_iff_forall_mem]
  intro c hc
  obtain ⟨d, hd, rfl⟩ := Array.mem_map.mp hc
  exact decide_eq_true (lo1_lt d (h d (Array.mem_toList_iff.mpr hd)))
section
variable {prog : Program} {w : World} {dp un : Nat} {gd : Option (List Code)} {cn : Str} {cs : Scope} {a : Addr} {ccd : Value} {cl : List (Str × Addr)} {outer : List Env} {base h₀ : Heap} {L : Addr} {m : Str → Option Value} {news : List (Addr × Obj)} {s : Shared} {Q E : Value → Shared → Prop}
set_option maxRecDepth 100000
set_option maxHeartbeats 1000000
theorem get_spec {x : Str} {t : Tok} (C : Cx (Mine.hd.heap_39 w.params) cs outer base h₀ L s.heap m news) (hd : dp + 20 < recursionLimit) (hu : un + 200 < cLine) (hx : x.length ≤ 1000) (ha : x.cps.all (· < 128) = true)
   (hQ : ∀ h' tk' l vs n, Cx (Mine.hd.heap_39 w.params) cs outer base h₀ L h' m ((l, listOf vs.toArray n) :: news) → (∀ p ∈ news, p.1 < l) → StrsAre vs (splitTok (Txt.lower x)) → Q (.ref l) { s with heap := h', toks := tk' }) :
   wpAny (model prog w) (ktrTop dp un gd cn cs L a ccd cl outer) (call (.ref 291) [.str x t]) Q E s := by
  obtain ⟨⟨A0, B0⟩, F0, XB0, N0, ⟨p0, loose0, mean0, mg0, mb0, TB0⟩, D0, hk0⟩ := id C
  have X0 := XB0.keeps B0.stays
  have T0 := TB0.keeps B0.stays
  refine wpAny_call ?_
  k_dflt (refine' enterC C ?kA ?kF ?kK ?k6 ?k7 ?k8 ?k9 ?kB ?_ ?c2 ?c3 ?c4 ?c5; (case kA => exact rfl); (case kF => exact rfl); (case kK => exact hk0); (case k6 => k_is); (case k7 => k_is); (case k8 => (show dp < _; omega)); (case k9 => first | exact BindsTo.of_eq rfl | exact binds_K (by k_in) rfl (by k_is) rfl rfl rfl); (case kB => exact locs rfl); (case c2 => exact rfl); (case c3 => exact rfl); (case c4 => exact rfl); (case c5 => decide); k_whole)
  intro g L1 hh1 C1 hlt1
  clear B0 F0 N0 X0 T0 D0
  obtain ⟨⟨A1, B1⟩, F1, XB1, N1, ⟨p1, loose1, mean1, mg1, mb1, TB1⟩, D1, hk1⟩ := id C1
  have X1 := XB1.keeps B1.stays
  have T1 := TB1.keeps B1.stays
  dsimp only
  try k_fold
  obtain ⟨hl1, hl2⟩ := lower_len ha
  k_steps
  refine Stop.off ?_
  k_dflt (refine split_spec ⟨⟨_, B1⟩, by assumption, XB1, by assumption, ⟨_, _, _, _, _, TB1⟩, D1, hk1⟩ ?_ ?_ (by rw [hl1]; exact hx) hl2 ?_)
  · show dp + 1 + 10 < recursionLimit; omega
  · show un + 3 + 100 < cLine; omega
  intro h2 tk2 l vs n C2 hlt hvs
  have F2 := C2.F
  have N2 := C2.N
  k_steps
  refine leaveC0 C2.F C2.N fun C => hQ _ _ l vs n C hlt hvs
end
end Mine
end
section
theorem Mine.switch_S6 : True := by
  w_top off
  trivial
open Lean Elab Tactic Meta PySem PySem.W PySem.Calls PyProof.Rows
set_option pp.deepTerms false
set_option pp.maxSteps 800
set_option pp.deepTerms.threshold 5
namespace Mine
local macro_rules | `(tactic| walk_at "exec For Name Name cons nil") => `(tactic| (refine Mine.Stop.on ?_))
local macro_rules | `(tactic| walk_at "exec For Name Call cons nil") => `(tactic| (refine Mine.Stop.on ?_))
local macro_rules | `(tactic| walk_at "exec Assign cons ListComp") => `(tactic| (refine Mine.Stop.on ?_))
local macro_rules | `(tactic| walk_at "LeaveC") => `(tactic| fail "here")
local macro_rules | `(tactic| k_room) => `(tactic| first | ktr_room | ((simp only [Mine.mark_depth, depth_under_make, depth_under_kw, depth_in1, depth_deeper, depth_caller]); (try dsimp only [ktrTop]); (try simp only [recursionLimit] at *); omega))
local macro_rules | `(tactic| k_all) => `(tactic| first | assumption | exact Mine.offLt (by assumption) | exact Mine.offLt2 (by assumption) (by assumption) | (refine List.forall_mem_append.mpr ⟨?a, ?b⟩; (case a => k_all); (case b => k_all)))
local macro_rules | `(tactic| walk_at "setItem ref str") => `(tactic| (k_here; k_dflt (refine' kda_setB (knd := PySem.strKind _ _) ?F ?N ?hm ?d (strKind_is _ _ _ _) ?z ?_; (case F => k_asm); (case N => k_asm); (case hm => k_mem); (case d => k_asm); (case z => k_asm)); intro h' o' F' N' hd'))
local macro_rules | `(tactic| walk_at "compareOp Is str ref") => `(tactic| (k_here; refine wpAny_is_other (by rfl) (by intro x; cases x) ?_))
local macro_rules | `(tactic| k_mem) => `(tactic| assumption)
local macro_rules | `(tactic| walk_at "eval Name") => `(tactic| (k_here; (with_reducible show wpAny _ _ (eval (Expr.Name _ _) (envOf _ _ _ _ _)) _ _ _); k_dflt (refine' ld ?k1 ?k2 ?_; (case k1 => k_asm); (case k2 => first | exact rfl | assumption); k_whole)))
local macro_rules | `(tactic| walk_at "eval Name") => `(tactic| (k_here; (with_reducible show wpAny _ _ (eval (Expr.Name _ _) (envOfC _ _ _ _ _)) _ _ _); k_dflt (refine' nameX_L ?F ?v ?_ ?a ?b; (case F => k_asm); (case a => rfl); (case b => rfl); (case v => first | rfl | assumption); k_whole)))
def cell (ns : List Int) (i : Nat) : Nat := if h : i < ns.length then ns[i].natAbs % 9973 else 7 * i + 3
theorem cell_in {ns : List Int} {i : Nat} (h : (i : Int) < (ns.length : Int)) : Int.fmod (if ns.getD ((i : Int)).toNat 0 < 0 then - ns.getD ((i : Int)).toNat 0 else ns.getD ((i : Int)).toNat 0) 9973 = ((cell ns i : Nat) : Int) := by
  have h' : i < ns.length := by omega
  rw [Int.toNat_natCast]
  have e : ns.getD i 0 = ns[i] := by simp [List.getD, h']
  rw [e]
  unfold cell
  rw [dif_pos h', Int.fmod_eq_emod_of_nonneg _ (by decide)]
  split <;> omega
theorem cell_out {ns : List Int} {i : Nat} (h : ¬ (i : Int) < (ns.length : Int)) : (7 * (i : Int) + 3) = ((cell ns i : Nat) : Int) := by
  have h' : ¬ i < ns.length := by omega
  unfold cell
  rw [dif_neg h']; omega
theorem cell_lt (ns : List Int) (i : Nat) (h : i ≤ 1000) : cell ns i < 9973 := by
  unfold cell
  split <;> omega
section
variable {prog : Program} {w : World} {dp un : Nat} {gd : Option (List Code)} {cn : Str} {cs : Scope} {a : Addr} {ccd : Value} {cl : List (Str × Addr)} {outer : List Env} {base h₀ : Heap} {L : Addr} {m : Str → Option Value} {news : List (Addr × Obj)} {s : Shared} {Q E : Value → Shared → Prop}
set_option maxRecDepth 100000
set_option maxHeartbeats 1000000
theorem cell_spec {l : Addr} {vs : List Value} {ns : List Int} {i : Nat} {t : Tok} (C : Cx (Mine.hd.heap_39 w.params) cs outer base h₀ L s.heap m news) (hd : dp + 10 < recursionLimit) (hu : un + 100 < cLine)
   (hS : base.IsList l vs.toArray) (hI : IntsAre vs ns) (hl : ns.length ≤ 63) (hi : i ≤ 1000)
   (hQ : ∀ h' tk' t', Cx (Mine.hd.heap_39 w.params) cs outer base h₀ L h' m news → Q (.int (cell ns i) t') { s with heap := h', toks := tk' }) :
   wpAny (model prog w) (ktrTop dp un gd cn cs L a ccd cl outer) (call (.ref 306) [.ref l, .int i t]) Q E s := by
  obtain ⟨⟨A0, B0⟩, F0, XB0, N0, ⟨p0, loose0, mean0, mg0, mb0, TB0⟩, D0, hk0⟩ := id C
  have X0 := XB0.keeps B0.stays
  have T0 := TB0.keeps B0.stays
  refine wpAny_call ?_
  k_dflt (refine' enterC C ?kA ?kF ?kK ?k6 ?k7 ?k8 ?k9 ?kB ?_ ?c2 ?c3 ?c4 ?c5; (case kA => exact rfl); (case kF => exact rfl); (case kK => exact hk0); (case k6 => k_is); (case k7 => k_is); (case k8 => (show dp < _; omega)); (case k9 => first | exact BindsTo.of_eq rfl | exact binds_K (by k_in) rfl (by k_is) rfl rfl rfl); (case kB => exact locs rfl); (case c2 => exact rfl); (case c3 => exact rfl); (case c4 => exact rfl); (case c5 => decide); k_whole)
  intro g L1 hh1 C1 hlt1
  clear B0 F0 N0 X0 T0 D0
  obtain ⟨⟨A1, B1⟩, F1, XB1, N1, ⟨p1, loose1, mean1, mg1, mb1, TB1⟩, D1, hk1⟩ := id C1
  have X1 := XB1.keeps B1.stays
  have T1 := TB1.keeps B1.stays
  dsimp only
  try k_fold
  have hS1 : g.IsList l vs.toArray := hS.at fun o e => B1.stays _ _ e
  k_steps
  · rw [cell_in (by assumption)]
    refine leaveC0 (by assumption) (by assumption) fun C => hQ _ _ _ C
  · rw [cell_out (by assumption)]
    refine leaveC0 (by assumption) (by assumption) fun C => hQ _ _ _ C
end
end Mine
end
section
theorem Mine.switch_S3 : True := by
  w_top off
  trivial
open Lean Elab Tactic Meta PySem PySem.W PySem.Calls PyProof.Rows
set_option pp.deepTerms false
set_option pp.maxSteps 800
set_option pp.deepTerms.threshold 5
namespace Mine
local macro_rules | `(tactic| walk_at "exec For Name Name cons nil") => `(tactic| (refine Mine.Stop.on ?_))
local macro_rules | `(tactic| walk_at "exec For Name Call cons nil") => `(tactic| (refine Mine.Stop.on ?_))
local macro_rules | `(tactic| walk_at "exec Assign cons ListComp") => `(tactic| (refine Mine.Stop.on ?_))
local macro_rules | `(tactic| walk_at "LeaveC") => `(tactic| fail "here")
local macro_rules | `(tactic| k_room) => `(tactic| first | ktr_room | ((simp only [Mine.mark_depth, depth_under_make, depth_under_kw, depth_in1, depth_deeper, depth_caller]); (try dsimp only [ktrTop]); (try simp only [recursionLimit] at *); omega))
local macro_rules | `(tactic| k_all) => `(tactic| first | assumption | exact Mine.offLt (by assumption) | exact Mine.offLt2 (by assumption) (by assumption) | (refine List.forall_mem_append.mpr ⟨?a, ?b⟩; (case a => k_all); (case b => k_all)))
local macro_rules | `(tactic| walk_at "setItem ref str") => `(tactic| (k_here; k_dflt (refine' kda_setB (knd := PySem.strKind _ _) ?F ?N ?hm ?d (strKind_is _ _ _ _) ?z ?_; (case F => k_asm); (case N => k_asm); (case hm => k_mem); (case d => k_asm); (case z => k_asm)); intro h' o' F' N' hd'))
local macro_rules | `(tactic| walk_at "compareOp Is str ref") => `(tactic| (k_here; refine wpAny_is_other (by rfl) (by intro x; cases x) ?_))
local macro_rules | `(tactic| k_mem) => `(tactic| assumption)
local macro_rules | `(tactic| walk_at "eval Name") => `(tactic| (k_here; (with_reducible show wpAny _ _ (eval (Expr.Name _ _) (envOf _ _ _ _ _)) _ _ _); k_dflt (refine' ld ?k1 ?k2 ?_; (case k1 => k_asm); (case k2 => first | exact rfl | assumption); k_whole)))
local macro_rules | `(tactic| walk_at "eval Name") => `(tactic| (k_here; (with_reducible show wpAny _ _ (eval (Expr.Name _ _) (envOfC _ _ _ _ _)) _ _ _); k_dflt (refine' nameX_L ?F ?v ?_ ?a ?b; (case F => k_asm); (case a => rfl); (case b => rfl); (case v => first | rfl | assumption); k_whole)))
local macro_rules | `(tactic| walk_at "call ref") => `(tactic| ((with_reducible show wpAny _ _ (call (Value.ref 291) _) _ _ _); refine Mine.Stop.on ?_))
def nonblank (x : Str) : Bool := decide ((Txt.strip x).length ≠ 0)
theorem new_turn {prog : Program} {w : World} {cN nilA : Addr} {outer : List Env} {g2 g3 h6 : Heap} {L I : Addr} {own rest2 led4 : List (Addr × Obj)} {tk : Nat} {s₁ : Shared} {nd nd' : List Nd} {st : List (List Str) × List Str} {j : Nat} {n : Nd} (nn : Nd) {y : Str} {ty : Tok} {o6 : Obj} {Jn : (Str → Option Value) → List (Addr × Obj) → Prop} {m6 : Str → Option Value}
    (T : KtsTurn (frs outer) g2 g3) (F : Fr g3 L h6 m6) (N : News g3 L h6 ((n.c, o6) :: but n.c ((nn.c, nn.oc) :: (nn.a, nodeObj cN nn) :: (nn.dx, dictOf [] 0) :: led4)))
    (hled : objsOf cN nd' ++ rest2 ++ own = led4) (hap : Apart (objsOf cN nd' ++ rest2)) (hn' : NodesOk prog w nd' st.1) (hj : st.1[j]? = some st.2) (hnj : nd'[j]? = some n) (hext : Ext nilA nd nd') (hin : st.2 ++ [y] ∉ st.1)
    (hoff : ∀ p ∈ objsOf cN nd' ++ rest2, p.1 ≠ I) (hIo : ∃ o, (I, o) ∈ own) (hownc : ∀ p ∈ own, p.1 ≠ n.c)
    (h1 : ∀ p ∈ led4, p.1 < nn.dx) (h2 : nn.dx < nn.a) (h3 : nn.a < nn.c ∧ nn.dx < nn.c ∧ AllLt nn.c led4) (hlo : (nn.c == sysModules) = false)
    (hs : nn.oc.IsDictOf (strKind prog w) []) (ht : nn.tok = .str y ty) (ho : nn.out = .ref nilA) (hf : nn.fail = .ref nilA)
    (hd6 : o6.IsDictOf (strKind prog w) (stored (kvsOf nd' st.1 st.2) y (.ref nn.a)))
    (hJ : ∀ nd'' j', adOf nd'' j' = nn.a → NodesOk prog w nd'' (addStep st y).1 → (addStep st y).1[j']? = some (addStep st y).2 → Apart (objsOf cN nd'' ++ rest2) → Ext nilA nd nd'' → Jn m6 (objsOf cN nd'' ++ rest2)) :
    TurnEndC outer g2 L I own Jn s₁ { s₁ with heap := h6, toks := tk } := by
  have hstep : addStep st y = (st.1 ++ [st.2 ++ [y]], st.2 ++ [y]) := by unfold addStep; rw [if_neg hin]
  have hsame : Same nd' (nd'.set j { n with oc := o6 }) := same_set hnj _ rfl
  have hL := same_len hsame
  have hin4 : ∀ p ∈ objsOf cN nd' ++ rest2, p ∈ led4 := fun p hp => hled ▸ List.mem_append_left _ hp
  have hnc : (n.c, n.oc) ∈ led4 := hin4 _ (List.mem_append_left _ (mem_objs.mpr ⟨j, n, hnj, .tail _ (.tail _ (.head _))⟩))
  have hncl : n.c < nn.dx := h1 _ hnc
  have hI : I < nn.dx := by
    obtain ⟨o, ho⟩ := hIo
    exact h1 _ (hled ▸ List.mem_append_right _ ho)
  have h31 : nn.a < nn.c := h3.1
  have hbig : ∀ p ∈ nn.objs cN, nn.dx ≤ p.1 := fun p hp => by
    unfold Nd.objs at hp
    simp only [List.mem_cons, List.not_mem_nil, or_false] at hp
    rcases hp with rfl | rfl | rfl
    · exact Nat.le_of_lt h2
    · exact Nat.le_refl _
    · exact Nat.le_of_lt (Nat.lt_trans h2 h31)
  have hset : ∀ p ∈ objsOf cN (nd'.set j { n with oc := o6 }) ++ rest2, p.1 < nn.dx := fun p hp => by
    obtain ⟨q, hq, e⟩ := same_addr hsame hp
    rw [← e]; exact h1 _ (hin4 q hq)
  have hapn : Apart (objsOf cN (nd'.set j { n with oc := o6 } ++ [nn]) ++ rest2) := by
    refine apart_snoc (apart_same hsame hap) (fun p hp => ?_) (fun p hp => ?_) (fun p hp => ?_) (Nat.ne_of_gt h2) (Nat.ne_of_lt h31) (Nat.ne_of_lt (Nat.lt_trans h2 h31))
    · exact Nat.ne_of_lt (Nat.lt_trans (hset p hp) h2)
    · exact Nat.ne_of_lt (hset p hp)
    · exact Nat.ne_of_lt (Nat.lt_trans (hset p hp) (Nat.lt_trans h2 h31))
  refine TurnEndC.mk (objsOf cN (nd'.set j { n with oc := o6 } ++ [nn]) ++ rest2) T F N (fun p hp => ?_) (objs_put hap hnj (fun p hp => .tail _ (.tail _ (.tail _ (hin4 p hp)))) (fun p hp => ?_) (fun p hp => ?_)) (fun p hp => ?_) (hJ _ st.1.length ?_ ?_ ?_ hapn (hext.add hnj ho hf))
  · exact mem_put (.tail _ (.tail _ (.tail _ (hled ▸ List.mem_append_right _ hp)))) (hownc p hp)
  · unfold Nd.objs at hp
    simp only [List.mem_cons, List.not_mem_nil, or_false] at hp
    rcases hp with rfl | rfl | rfl
    · exact .tail _ (.head _)
    · exact .tail _ (.tail _ (.head _))
    · exact .head _
  · exact Nat.ne_of_gt (Nat.lt_of_lt_of_le hncl (hbig p hp))
  · rw [objs_snoc, List.append_assoc] at hp
    rcases List.mem_append.mp hp with hp | hp
    · obtain ⟨q, hq, e⟩ := same_addr (r := []) hsame (List.mem_append_left _ hp)
      rw [← e]; exact hoff q (List.mem_append_left _ (by simpa using hq))
    · rcases List.mem_append.mp hp with hp | hp
      · exact Nat.ne_of_gt (Nat.lt_of_lt_of_le hI (hbig p hp))
      · exact hoff p (List.mem_append_right _ hp)
  · have := adOf_last (nd := nd'.set j { n with oc := o6 }) (n := nn)
    rwa [hL, hn'.len] at this
  · rw [hstep]; exact nodes_add hn' hj hnj hin hs hlo ht hd6
  · rw [hstep]; simp
theorem add_done {prog : Program} {w : World} {nilA cT cN : Addr} {H : TrieHd} {nd nd' : List Nd} {P' : List (List Str)} {O : List (Option (Str × Str))} {ks : List Str} {rest led4 : List (Addr × Obj)} {okd' oD : Obj} {D ta : Addr} {j : Nat} {n : Nd} {x y : Str} {t u : Tok}
    (hap : Apart (objsOf cN nd' ++ ((H.tr, { cls := .ref cT, dict := some H.dx, data := .plain }) :: (H.dx, dictOf (hdEnts w.params false H (adOf nd 0)) 3) :: (H.kd, okd') :: (D, oD) :: rest)))
    (hled : objsOf cN nd' ++ ((H.tr, { cls := .ref cT, dict := some H.dx, data := .plain }) :: (H.dx, dictOf (hdEnts w.params false H (adOf nd 0)) 3) :: (H.kd, okd') :: (D, oD) :: rest) = led4)
    (hl : ∀ p ∈ led4, p.1 < ta) (hn' : NodesOk prog w nd' P') (hnj : nd'[j]? = some n) (hext : Ext nilA nd nd') (houts : Outs nilA nd O rest) (hfails : ∀ (i : Nat) (n : Nd), nd[i]? = some n → n.fail = .ref nilA)
    (hok : okd'.IsDictOf (strKind prog w) (kvKnown ks)) (h0 : 0 < nd.length) :
    (∀ p ∈ hdObjs w.params cT false { H with okd := okd' } (adOf (nd'.set j { n with out := .ref ta }) 0) ++ (objsOf cN (nd'.set j { n with out := .ref ta }) ++ ((ta, pairObj x t y u) :: rest)), p ∈ (n.a, nodeObj cN { n with out := .ref ta }) :: but n.a ((ta, pairObj x t y u) :: led4)) ∧
    TrieS prog w nilA cT cN { H with okd := okd' } (nd'.set j { n with out := .ref ta }) P' (addOut O ((nd'.set j { n with out := .ref ta }).length - nd.length) j (x, y)) ks ((ta, pairObj x t y u) :: rest) ∧ adOf (nd'.set j { n with out := .ref ta }) 0 = adOf nd 0 := by
  have hS : Same nd' (nd'.set j { n with out := .ref ta }) := same_set hnj _ rfl
  have hroot : adOf (nd'.set j { n with out := .ref ta }) 0 = adOf nd 0 := by rw [same_ad hS, hext.ad h0]
  obtain ⟨a1, a2, a3⟩ := apart_app.mp hap
  have hin : ∀ p ∈ objsOf cN nd' ++ ((H.tr, { cls := .ref cT, dict := some H.dx, data := .plain }) :: (H.dx, dictOf (hdEnts w.params false H (adOf nd 0)) 3) :: (H.kd, okd') :: (D, oD) :: rest), p ∈ led4 := fun p hp => hled ▸ hp
  have hna : (n.a, nodeObj cN n) ∈ objsOf cN nd' := mem_objs.mpr ⟨j, n, hnj, .head _⟩
  have hta : n.a < ta := hl _ (hin _ (List.mem_append_left _ hna))
  refine ⟨fun p hp => ?_, ⟨nodes_out hn' hnj _ _, hok, ?_, fun i m hm => ?_, ?_⟩, hroot⟩
  · rw [hroot] at hp
    have key : ∀ q ∈ (H.tr, ({ cls := .ref cT, dict := some H.dx, data := .plain } : Obj)) :: (H.dx, dictOf (hdEnts w.params false H (adOf nd 0)) 3) :: (H.kd, okd') :: (D, oD) :: rest, q ∈ (n.a, nodeObj cN { n with out := .ref ta }) :: but n.a ((ta, pairObj x t y u) :: led4) := fun q hq =>
      mem_put (.tail _ (hin q (List.mem_append_right _ hq))) (a3 _ hna q hq).symm
    rcases List.mem_append.mp hp with hp | hp
    · unfold hdObjs at hp
      simp only [List.mem_cons, List.not_mem_nil, or_false] at hp
      rcases hp with rfl | rfl | rfl
      · exact key _ (.head _)
      · exact key _ (.tail _ (.head _))
      · exact key _ (.tail _ (.tail _ (.head _)))
    · rcases List.mem_append.mp hp with hp | hp
      · exact objs_turn (n' := { n with out := .ref ta }) hap hnj (fun p hp => .tail _ (hin p hp)) rfl p (List.mem_append_left _ hp)
      · rcases List.mem_cons.mp hp with rfl | hp
        · exact mem_put (.head _) (Nat.ne_of_gt hta)
        · exact key p (.tail _ (.tail _ (.tail _ (.tail _ hp))))
  · rw [List.length_set]; exact houts.add hext hnj
  · have hf : ∀ (i : Nat) (m : Nd), nd'[i]? = some m → m.fail = .ref nilA := fun i m hm => by
      by_cases hlt : i < nd.length
      · obtain ⟨m', hm', -, -, -, e⟩ := hext.old i nd[i] (by simp [hlt])
        rw [hm] at hm'; cases hm'
        rw [e]; exact hfails i _ (by simp [hlt])
      · exact (hext.new i m hm (by omega)).2
    by_cases hij : j = i
    · subst hij
      rw [List.getElem?_set_self (List.getElem?_eq_some_iff.mp hnj).1] at hm
      cases hm
      exact hf j n hnj
    · rw [List.getElem?_set_ne hij] at hm
      exact hf i m hm
  · obtain ⟨b1, b2⟩ := apart_cons.mp a2
    obtain ⟨b3, b4⟩ := apart_cons.mp b2
    obtain ⟨b5, b6⟩ := apart_cons.mp b4
    obtain ⟨b7, b8⟩ := apart_cons.mp b6
    have hold : ∀ q ∈ objsOf cN (nd'.set j { n with out := .ref ta }), ∃ q' ∈ objsOf cN nd', q'.1 = q.1 := fun q hq => by
      obtain ⟨q', h1, h2⟩ := same_addr (r := []) hS (List.mem_append_left _ hq)
      exact ⟨q', by simpa using h1, h2⟩
    have hlt : ∀ q ∈ (H.tr, ({ cls := .ref cT, dict := some H.dx, data := .plain } : Obj)) :: (H.dx, dictOf (hdEnts w.params false H (adOf nd 0)) 3) :: (H.kd, okd') :: (D, oD) :: rest, q.1 < ta := fun q hq => hl _ (hin q (List.mem_append_right _ hq))
    have off : ∀ (q : Addr × Obj), q ∈ (H.tr, ({ cls := .ref cT, dict := some H.dx, data := .plain } : Obj)) :: (H.dx, dictOf (hdEnts w.params false H (adOf nd 0)) 3) :: (H.kd, okd') :: (D, oD) :: rest → (∀ p ∈ rest, p.1 ≠ q.1) → ∀ p ∈ objsOf cN (nd'.set j { n with out := .ref ta }) ++ ((ta, pairObj x t y u) :: rest), p.1 ≠ q.1 := fun q hq hr p hp => by
      rcases List.mem_append.mp hp with hp | hp
      · obtain ⟨p', h1, h2⟩ := hold p hp
        rw [← h2]; exact a3 p' h1 q hq
      · rcases List.mem_cons.mp hp with rfl | hp
        · exact Nat.ne_of_gt (hlt q hq)
        · exact hr p hp
    unfold hdObjs
    simp only [List.cons_append, List.nil_append]
    rw [apart_cons, apart_cons, apart_cons]
    refine ⟨?_, ?_, ?_, ?_⟩
    · intro p hp
      rcases List.mem_cons.mp hp with rfl | hp
      · exact b1 (H.dx, dictOf (hdEnts w.params false H (adOf nd 0)) 3) (.head _)
      rcases List.mem_cons.mp hp with rfl | hp
      · exact b1 (H.kd, okd') (.tail _ (.head _))
      · exact off _ (.head _) (fun p hp => b1 p (.tail _ (.tail _ (.tail _ hp)))) p hp
    · intro p hp
      rcases List.mem_cons.mp hp with rfl | hp
      · exact b3 (H.kd, okd') (.head _)
      · exact off (H.dx, dictOf (hdEnts w.params false H (adOf nd 0)) 3) (.tail _ (.head _)) (fun p hp => b3 p (.tail _ (.tail _ hp))) p hp
    · exact off (H.kd, okd') (.tail _ (.tail _ (.head _))) (fun p hp => b5 p (.tail _ hp))
    · rw [apart_app, apart_cons]
      refine ⟨((apart_app.mp (apart_same (r := []) hS (by simpa using a1))).1), ⟨fun p hp => Nat.ne_of_lt (hlt p (.tail _ (.tail _ (.tail _ (.tail _ hp))))), b8⟩, fun p hp q hq => ?_⟩
      obtain ⟨p', h1, h2⟩ := hold p hp
      rw [← h2]
      rcases List.mem_cons.mp hq with rfl | hq
      · exact Nat.ne_of_lt (hl _ (hin _ (List.mem_append_left _ h1)))
      · exact a3 p' h1 q (.tail _ (.tail _ (.tail _ (.tail _ hq))))
section
variable {prog : Program} {w : World} {dp un : Nat} {gd : Option (List Code)} {cn : Str} {cs : Scope} {a : Addr} {ccd : Value} {cl : List (Str × Addr)} {outer : List Env} {base h₀ : Heap} {L : Addr} {m : Str → Option Value} {news : List (Addr × Obj)} {s : Shared} {Q E : Value → Shared → Prop}
set_option maxRecDepth 100000
set_option maxHeartbeats 1000000
theorem add_spec {x y : Str} {t : Tok} {val : Value} {H : TrieHd} {nd : List Nd} {P : List (List Str)} {O : List (Option (Str × Str))} {ks : List Str} {rest : List (Addr × Obj)}
   (C : Cx (Mine.hd.heap_39 w.params) cs outer base h₀ L s.heap m (hdObjs w.params 169 false H (adOf nd 0) ++ (objsOf 71 nd ++ rest))) (hd : dp + 40 < recursionLimit) (hu : un + 300 < cLine) (hx : x.length ≤ 1000) (hx0 : x.length ≠ 0) (ha : x.cps.all (· < 128) = true)
   (hval : (val = .none ∧ y = x) ∨ (∃ u, val = .str y u ∧ y.length ≠ 0 ∧ y.length ≤ 1000)) (hT : TrieS prog w 44 169 71 H nd P O ks rest) (hksl : ks.length ≤ 1000) (hPl : P.length ≤ 1000)
   (hQ : ∀ h₀' h' tk' nd' okd' j ta tt u, KtsTurn (frs outer) h₀ h₀' → (addAll P ((splitTok (Txt.lower x)).filter nonblank))[j]? = some ((splitTok (Txt.lower x)).filter nonblank) → adOf nd' 0 = adOf nd 0 →
     Cx (Mine.hd.heap_39 w.params) cs outer base h₀' L h' m (hdObjs w.params 169 false { H with okd := okd' } (adOf nd' 0) ++ (objsOf 71 nd' ++ ((ta, pairObj x tt y u) :: rest))) →
     TrieS prog w 44 169 71 { H with okd := okd' } nd' (addAll P ((splitTok (Txt.lower x)).filter nonblank)) (addOut O (nd'.length - nd.length) j (x, y)) (((splitTok (Txt.lower x)).filter nonblank).foldl addKnown ks) ((ta, pairObj x tt y u) :: rest) → Q .none { s with heap := h', toks := tk' }) :
   wpAny (model prog w) (ktrTop dp un gd cn cs L a ccd cl outer) (call (.ref 97) [.ref H.tr, .str x t, val]) Q E s := by
  obtain ⟨⟨A0, B0⟩, F0, XB0, N0, ⟨p0, loose0, mean0, mg0, mb0, TB0⟩, D0, hk0⟩ := id C
  have X0 := XB0.keeps B0.stays
  have T0 := TB0.keeps B0.stays
  refine wpAny_call ?_
  k_dflt (refine' enterC C ?kA ?kF ?kK ?k6 ?k7 ?k8 ?k9 ?kB ?_ ?c2 ?c3 ?c4 ?c5; (case kA => exact rfl); (case kF => exact rfl); (case kK => exact hk0); (case k6 => k_is); (case k7 => k_is); (case k8 => (show dp < _; omega)); (case k9 => first | exact BindsTo.of_eq rfl | exact binds_K (by k_in) rfl (by k_is) rfl rfl rfl); (case kB => exact locs rfl); (case c2 => exact rfl); (case c3 => exact rfl); (case c4 => exact rfl); (case c5 => decide); k_whole)
  intro g L1 hh1 C1 hlt1
  clear B0 F0 N0 X0 T0 D0
  obtain ⟨⟨A1, B1⟩, F1, XB1, N1, ⟨p1, loose1, mean1, mg1, mb1, TB1⟩, D1, hk1⟩ := id C1
  have X1 := XB1.keeps B1.stays
  have T1 := TB1.keeps B1.stays
  dsimp only
  try k_fold
  obtain ⟨hn, hks, houts, hfails, hap⟩ := hT
  have htr : (H.tr, ({ cls := .ref 169, dict := some H.dx, data := .plain } : Obj)) ∈ hdObjs w.params 169 false H (adOf nd 0) ++ (objsOf 71 nd ++ rest) := .head _
  have hdx : (H.dx, dictOf (hdEnts w.params false H (adOf nd 0)) 3) ∈ hdObjs w.params 169 false H (adOf nd 0) ++ (objsOf 71 nd ++ rest) := .tail _ (.head _)
  have hkd : (H.kd, H.okd) ∈ hdObjs w.params 169 false H (adOf nd 0) ++ (objsOf 71 nd ++ rest) := .tail _ (.tail _ (.head _))
  obtain ⟨hne1, hne2, hne3, hne4, hap2⟩ := hd_ne hap
  generalize hled : hdObjs w.params 169 false H (adOf nd 0) ++ (objsOf 71 nd ++ rest) = led at *
  unfold hdEnts at hdx
  k_steps
  rotate_left
  · exfalso; omega
  refine Stop.off ?_
  k_dflt (refine LCt.Assign_ListComp_T (F₀ := by k_asm) (by rfl) (by with_unfolding_all rfl) (by with_unfolding_all rfl) (by decide) (by rfl) (by decide) (by rfl) (by rfl) (by rfl) ?_)
  k_steps
  refine Stop.off ?_
  k_dflt (refine get_spec ⟨⟨_, B1⟩, by assumption, XB1, by assumption, ⟨_, _, _, _, _, TB1⟩, D1, hk1⟩ ?_ ?_ hx ha ?_)
  · show dp + 1 + 20 < recursionLimit; omega
  · show un + 3 + 200 < cLine; omega
  intro h1 tk1 l1 vs1 n1 CC1 hltl hvs1
  have FF1 := CC1.F
  have NN1 := CC1.N
  have hvl : vs1.length ≤ 1000 := by rw [strs_len hvs1]; have := splitAt_len (Txt.lower x) (Txt.lower x).cps.size; have := (lower_len ha).1; unfold splitTok; omega
  k_dflt (refine LCt.CompSrcT.ledger (by rfl) FF1 NN1 (.head _) (by rw [sizeLine_eq, List.size_toArray]; omega) (fun _ => restT_ind (fun i ys nx => nx = (l1, listOf vs1.toArray n1) :: led ∧ StrsAre ys (((splitTok (Txt.lower x)).take i).filter nonblank)) ?_ ?_ _ 0 _ _ (Nat.zero_add _) ⟨rfl, .nil⟩))
  rotate_left
  · rintro i ys nx v I oI C oC D m₂ h tk E' hi ⟨rfl, hys⟩ hv hC hxv F N off ne
    obtain ⟨y, ty, hy, rfl⟩ := strs_at hvs1 (by simpa using hv)
    have hyl : y.length ≤ 1000 := by have := mem_le_tot (List.mem_of_getElem? hy); have := splitAt_tot (Txt.lower x) (Txt.lower x).cps.size; have := (lower_len ha).1; unfold splitTok at *; omega
    have hnext : (splitTok (Txt.lower x)).take (i + 1) = (splitTok (Txt.lower x)).take i ++ [y] := by rw [List.take_add_one, hy]; rfl
    k_steps
    · refine LCg.CompEnd.intro (by assumption) (by assumption) ((l1, listOf vs1.toArray n1) :: led) (fun p hp => hp) off (.inr ⟨_, .head _, rfl, _, rfl⟩) ⟨rfl, ?_⟩
      rw [hnext, List.filter_append, List.filter_cons, if_pos (by unfold nonblank; simp only [decide_eq_true_eq]; omega)]
      exact strs_snoc hys _ _
    · refine LCg.CompEnd.intro (by assumption) (by assumption) ((l1, listOf vs1.toArray n1) :: led) (fun p hp => hp) off (.inr ⟨_, .head _, rfl, _, rfl⟩) ⟨rfl, ?_⟩
      rw [hnext, List.filter_append, List.filter_cons, if_neg (by unfold nonblank; simp only [decide_eq_true_eq]; omega)]
      simpa using hys
  · rintro ys nx ⟨rfl, hys⟩ D h2 tk2 F2 N2 off2
    rw [List.size_toArray, List.take_of_length_le (Nat.le_of_eq (strs_len hvs1).symm)] at hys
    dsimp only
    try k_fold
    k_steps
    refine Stop.off ?_
    (rename Fr _ _ _ _ => lF; (with_unfolding_all refine' For_invVF lF ?k1 ?k2 ?_; (case k1 => exact rfl); (case k2 => exact rfl); k_whole))
    k_steps
    have hDl : ∀ p ∈ led, p.1 ≠ D := fun p hp => off1_mem off2 p (.tail _ hp)
    have hDk : H.kd ≠ D := hDl _ hkd
    have hysl : ys.length ≤ 1000 := by rw [strs_len hys]; exact Nat.le_trans (List.length_filter_le _ _) (by rw [← strs_len hvs1]; exact hvl)
    refine iter_listJ (l := D) (vs := ys) (news := (H.kd, H.okd) :: (D, LCg.lst ys) :: but H.kd led) (fun i m' nx => (m' "self" = some (.ref H.tr) ∧ m' "tokens_string" = some (.str x t) ∧ m' "value" = some val ∧ m' "tokens" = some (.ref D)) ∧
        ∃ okd', nx = (H.kd, okd') :: (D, LCg.lst ys) :: but H.kd led ∧ okd'.IsDictOf (strKind prog w) (kvKnown ((((splitTok (Txt.lower x)).filter nonblank).take i).foldl addKnown ks))) (by rfl) (PySem.IsL.isList (n := ys.length) (N2 _ (.head _)).1) ?_ lF ?_ ⟨⟨rfl, rfl, rfl, rfl⟩, _, rfl, hks⟩ ?_ ?_
    · exact (N2 _ (.head _)).2.1
    · exact News.sub N2 fun p hp => by
        rcases List.mem_cons.mp hp with rfl | hp
        · exact .tail _ (.tail _ hkd)
        rcases List.mem_cons.mp hp with rfl | hp
        · exact .head _
        · exact .tail _ (.tail _ (mem_but.mp hp).1)
    · rintro i v m₁ nx I own h tk hv ⟨⟨hm1, hm2, hm3, hm4⟩, okd', rfl, hok⟩ hown hoff ⟨oI, hoI⟩ hlst hlI F₁ N₁
      obtain ⟨y, ty, hy, rfl⟩ := strs_at hys hv
      have hA : (H.tr, ({ cls := .ref 169, dict := some H.dx, data := .plain } : Obj)) ∈ (H.kd, okd') :: (D, LCg.lst ys) :: but H.kd led ++ own := .tail _ (.tail _ (List.mem_append_left _ (mem_but.mpr ⟨htr, hne2⟩)))
      have hB : (H.dx, dictOf (hdEnts w.params false H (adOf nd 0)) 3) ∈ (H.kd, okd') :: (D, LCg.lst ys) :: but H.kd led ++ own := .tail _ (.tail _ (List.mem_append_left _ (mem_but.mpr ⟨hdx, hne3⟩)))
      unfold hdEnts at hB
      have hC : (H.kd, okd') ∈ (H.kd, okd') :: (D, LCg.lst ys) :: but H.kd led ++ own := .head _
      have hz : (kvKnown ((((splitTok (Txt.lower x)).filter nonblank).take i).foldl addKnown ks)).length ≤ sizeLine := by
        rw [sizeLine_eq, kvKnown_len]
        have := known_fold_len (((splitTok (Txt.lower x)).filter nonblank).take i) ks
        have : (((splitTok (Txt.lower x)).filter nonblank).take i).length ≤ ((splitTok (Txt.lower x)).filter nonblank).length := by rw [List.length_take]; exact Nat.min_le_right _ _
        have := strs_len hys
        omega
      clear lF N2 F1 N1
      generalize hled3 : (H.kd, okd') :: (D, LCg.lst ys) :: but H.kd led ++ own = led3 at *
      try k_fold
      k_steps
      show TurnEnd _ _ _ _ _ _ _
      rename News _ _ _ _ => nE
      rename Fr _ _ _ _ => fE
      rename_i hh o2 hd2
      rw [stored_known] at hd2
      refine TurnEnd.mk ((H.kd, o2) :: (D, LCg.lst ys) :: but H.kd led) fE nE (fun p hp => mem_put (hled3 ▸ List.mem_append_right _ hp) ?_) (fun p hp => ?_) ?_ ⟨⟨hm1, hm2, hm3, hm4⟩, _, rfl, ?_⟩
      · rcases hown p hp with e | e
        · rw [e]; exact fun q => hoff _ (.head _) q.symm
        · rw [e]; exact hDk.symm
      · rcases List.mem_cons.mp hp with rfl | hp
        · exact .head _
        · refine mem_put (hled3 ▸ List.mem_append_left _ (.tail _ hp)) ?_
          rcases List.mem_cons.mp hp with rfl | hp
          · exact hDk.symm
          · exact but_off p hp
      · exact offSame (by rfl) hoff
      · rw [List.take_add_one, hy, List.foldl_append]
        exact hd2
    · rintro m₁ nx h tk ⟨⟨hm1, hm2, hm3, hm4⟩, okd', rfl, hok⟩ F3 N3
      rw [List.take_of_length_le (Nat.le_of_eq (strs_len hys).symm)] at hok
      clear lF N2 F1 N1
      have hA : (H.tr, ({ cls := .ref 169, dict := some H.dx, data := .plain } : Obj)) ∈ (H.kd, okd') :: (D, LCg.lst ys) :: but H.kd led := .tail _ (.tail _ (mem_but.mpr ⟨htr, hne2⟩))
      have hB : (H.dx, dictOf (hdEnts w.params false H (adOf nd 0)) 3) ∈ (H.kd, okd') :: (D, LCg.lst ys) :: but H.kd led := .tail _ (.tail _ (mem_but.mpr ⟨hdx, hne3⟩))
      have hB' := hB
      unfold hdEnts at hB
      dsimp only
      try k_fold
      k_steps
      refine Stop.off ?_
      (rename Fr _ _ _ _ => lF; (with_unfolding_all refine' For_invVF (turn_hide (outer := envX cn cs L a ccd cl :: outer) .refl lF (by assumption)).1 ?k1 ?k2 ?_; (case k1 => exact rfl); (case k2 => exact rfl); k_whole))
      k_steps
      rename News _ _ _ _ => N4
      let rest2 : List (Addr × Obj) := (H.tr, { cls := .ref 169, dict := some H.dx, data := .plain }) :: (H.dx, dictOf (hdEnts w.params false H (adOf nd 0)) 3) :: (H.kd, okd') :: (D, LCg.lst ys) :: rest
      have hDr : ∀ p ∈ objsOf 71 nd ++ rest, p.1 ≠ D := fun p hp => hDl p (hled ▸ List.mem_append_right _ hp)
      have hDt : H.tr ≠ D := hDl _ htr
      have hDd : H.dx ≠ D := hDl _ hdx
      have hap3 : Apart (objsOf 71 nd ++ rest2) := by
        refine apart_perm (a := (H.tr, { cls := .ref 169, dict := some H.dx, data := .plain }) :: (H.dx, dictOf (hdEnts w.params false H (adOf nd 0)) 3) :: (H.kd, okd') :: (D, LCg.lst ys) :: (objsOf 71 nd ++ rest)) ?_ ?_
        · exact (List.perm_append_comm_assoc (objsOf 71 nd) [_, _, _, _] rest).symm
        · rw [apart_cons, apart_cons, apart_cons, apart_cons]
          simp only [List.mem_cons]
          refine ⟨?_, ?_, ?_, hDr, hap2⟩
          · rintro p (rfl | rfl | rfl | hp)
            · exact hne1.symm
            · exact hne2.symm
            · exact hDt.symm
            · exact (hne4 p hp).1
          · rintro p (rfl | rfl | hp)
            · exact hne3.symm
            · exact hDd.symm
            · exact (hne4 p hp).2.1
          · rintro p (rfl | hp)
            · exact hDk.symm
            · exact (hne4 p hp).2.2
      have N5 := News.sub (l' := objsOf 71 nd ++ rest2) N4 (fun p hp => by
        rcases List.mem_append.mp hp with hp | hp
        · refine .tail _ (.tail _ (mem_but.mpr ⟨hled ▸ List.mem_append_right _ (List.mem_append_left _ hp), (hne4 p (List.mem_append_left _ hp)).2.2⟩))
        rcases List.mem_cons.mp hp with rfl | hp
        · exact hA
        rcases List.mem_cons.mp hp with rfl | hp
        · exact hB'
        rcases List.mem_cons.mp hp with rfl | hp
        · exact .head _
        rcases List.mem_cons.mp hp with rfl | hp
        · exact .tail _ (.head _)
        · exact .tail _ (.tail _ (mem_but.mpr ⟨hled ▸ List.mem_append_right _ (List.mem_append_right _ hp), (hne4 p (List.mem_append_right _ hp)).2.2⟩)))
      have hD2 : (D, LCg.lst ys) ∈ rest2 := .tail _ (.tail _ (.tail _ (.head _)))
      have C4 : Cx (Mine.hd.heap_39 w.params) _ (envX cn cs L a ccd cl :: outer) base g L1 _ _ (objsOf 71 nd ++ rest2) := ⟨⟨_, B1⟩, lF, XB1, N5, ⟨_, _, _, _, _, TB1⟩, D1, hk1⟩
      refine iter_listC (l := D) (vs := ys) (n := ys.length) (by rfl) C4 (fun i m' nx => (m' "tokens_string" = some (.str x t) ∧ m' "value" = some val) ∧
        ∃ nd' j st, st = (((splitTok (Txt.lower x)).filter nonblank).take i).foldl addStep (P, []) ∧ m' "node" = some (.ref (adOf nd' j)) ∧ nx = objsOf 71 nd' ++ rest2 ∧ NodesOk prog w nd' st.1 ∧ st.1[j]? = some st.2 ∧ Apart (objsOf 71 nd' ++ rest2) ∧ Ext 44 nd nd') (by rfl) (List.mem_append_right _ hD2) ⟨⟨hm2, hm3⟩, nd, 0, _, rfl, rfl, rfl, hn, hn.root, hap3, Ext.refl _ _⟩ ?_ ?_
      · clear lF N4 N5 F3 N3 C4
        rintro i v m₂ nx I own h tk g2 TT2 hv ⟨⟨hm2, hm3⟩, nd', j, st, hst, hm5, rfl, hn', hj, hap4, hext⟩ hown hoff ⟨oI, hoI⟩ hlst hlI C2
        clear B1 X1 T1 D1
        obtain ⟨y, ty, hy, rfl⟩ := strs_at hys hv
        have hjl : j < nd'.length := by rw [hn'.len]; exact (List.getElem?_eq_some_iff.mp hj).1
        obtain ⟨n, hnj, had⟩ := adOf_lt hjl
        rw [had] at hm5
        have hA1 : (n.a, ({ cls := .ref 71, dict := some n.dx, data := .plain, slots := #[some (.ref n.c), some n.fail, some n.out, some n.tok] } : Obj)) ∈ objsOf 71 nd' ++ rest2 ++ own := List.mem_append_left _ (List.mem_append_left _ (mem_objs.mpr ⟨j, n, hnj, .head _⟩))
        have hA2 : (n.dx, dictOf [] 0) ∈ objsOf 71 nd' ++ rest2 ++ own := List.mem_append_left _ (List.mem_append_left _ (mem_objs.mpr ⟨j, n, hnj, .tail _ (.head _)⟩))
        have hA3 : (n.c, n.oc) ∈ objsOf 71 nd' ++ rest2 ++ own := List.mem_append_left _ (List.mem_append_left _ (mem_objs.mpr ⟨j, n, hnj, .tail _ (.tail _ (.head _))⟩))
        have hD3 := hn'.dict j n st.2 hnj hj
        have hlo := hn'.lo n (List.mem_of_getElem? hnj)
        have hPl2 : st.1.length ≤ 2000 := by
          rw [hst]
          have h1 := addFold_len (((splitTok (Txt.lower x)).filter nonblank).take i) (P, [])
          have h2 : (((splitTok (Txt.lower x)).filter nonblank).take i).length ≤ ((splitTok (Txt.lower x)).filter nonblank).length := by rw [List.length_take]; exact Nat.min_le_right _ _
          have h3 := strs_len hys
          simp only at h1
          omega
        have hst2 : st.2 = ((splitTok (Txt.lower x)).filter nonblank).take i := by rw [hst, addFold_snd]; rfl
        have hstn : (((splitTok (Txt.lower x)).filter nonblank).take (i + 1)).foldl addStep (P, []) = addStep st y := by rw [List.take_add_one, hy, List.foldl_append, ← hst]; rfl
        generalize hled4 : objsOf 71 nd' ++ rest2 ++ own = led4 at *
        obtain ⟨⟨A2, B2⟩, F2, XB2, N2, ⟨p2, loose2, mean2, mg2, mb2, TB2⟩, D2, hk2⟩ := id C2
        have X2 := XB2.keeps B2.stays
        have T2 := TB2.keeps B2.stays
        try k_fold
        k_steps
        k_dflt (refine kda_item2 (knd := PySem.strKind _ _) N2 hA3 hD3 hlo (by rfl) (strKind_is _ _ _ _) ?_ ?_)
        · intro v hv
          have hin : st.2 ++ [y] ∈ st.1 := by
            by_cases h : st.2 ++ [y] ∈ st.1
            · exact h
            · rw [value_none h] at hv; cases hv
          obtain ⟨j', hj'⟩ := List.mem_iff_getElem?.mp hin
          rw [value_some hn'.nodup hj'] at hv
          cases hv
          have hstep : addStep st y = (st.1, st.2 ++ [y]) := by unfold addStep; rw [if_pos hin]
          k_steps
          show TurnEndC _ _ _ _ _ _ _ _
          rename News _ _ _ _ => nE
          rename Fr _ _ _ _ => fE
          rw [← hled4] at nE
          refine TurnEndC.app (nx := objsOf 71 nd' ++ rest2) .refl fE nE hoff ⟨⟨hm2, hm3⟩, nd', j', _, hstn.symm, rfl, rfl, ?_, ?_, hap4, hext⟩
          · rw [hstep]; exact hn'
          · rw [hstep]; exact hj'
        · intro hv h' e hexc
          have hin : st.2 ++ [y] ∉ st.1 := fun h => by
            obtain ⟨j', hj'⟩ := List.mem_iff_getElem?.mp h
            rw [value_some hn'.nodup hj'] at hv
            cases hv
          have hstep : addStep st y = (st.1 ++ [st.2 ++ [y]], st.2 ++ [y]) := by unfold addStep; rw [if_neg hin]
          k_steps
          dsimp only at hexc
          k_dflt (refine caught_own C2 (by rfl) hexc (by k_is) PyProof.Rows.Boot.«KeyError» (by decide) kr_isExc_KeyError kr_notTuple_KeyError (by rw [isSubtype_type]; kernel_rfl) ?_)
          intro h3 g3 TT3 C3
          clear F2 N2 X2 T2 D2 B2
          obtain ⟨⟨A3, B3⟩, F3, XB3, N3, ⟨p3, loose3, mean3, mg3, mb3, TB3⟩, D3, hk3⟩ := id C3
          have X3 := XB3.keeps B3.stays
          have T3 := TB3.keeps B3.stays
          k_steps
          rename News _ _ _ _ => N5
          rename Fr _ _ _ _ => F5
          rename Obj.IsDictOf (PySem.strKind _ _) _ [] => hs5
          rename _ ∧ _ ∧ AllLt _ _ => hl5
          rename (_ == sysModules) = false => hlo5
          rename (∀ p : Addr × Obj, p ∈ led4 → p.1 < _) => hl6
          rename _ < _ => hl7
          refine kda_setB (knd := PySem.strKind _ _) F5 N5 (.tail _ (.tail _ (.tail _ hA3))) hD3 (strKind_is _ _ _ _) (by rw [sizeLine_eq]; have := kvsOf_len nd' st.1 st.2; omega) ?_
          intro h6 o6 F6 N6 hd6
          clear F5 N5
          k_steps
          show TurnEndC _ _ _ _ _ _ _ _
          rename News _ _ _ _ => nE
          rename Fr _ _ _ _ => fE
          refine new_turn ⟨_, _, _, _, _, _, _⟩ TT3 fE nE hled4 hap4 hn' hj hnj hext hin hoff ⟨oI, hoI⟩ (fun p hp => ?_) hl6 hl7 hl5 hlo5 hs5 rfl rfl rfl hd6 (fun nd'' j' e1 e2 e3 e4 e5 => ⟨⟨hm2, hm3⟩, nd'', j', _, hstn.symm, by rw [e1]; rfl, rfl, e2, e3, e4, e5⟩)
          have hnc : (n.c, n.oc) ∈ objsOf 71 nd' := mem_objs.mpr ⟨j, n, hnj, .tail _ (.tail _ (.head _))⟩
          rcases hown p hp with e | e
          · rw [e]; exact (hoff _ (List.mem_append_left _ hnc)).symm
          · rw [e]; exact ((apart_app.mp hap4).2.2 _ hnc _ hD2).symm
      · clear lF N4 N5 F3 N3 C4 B1 X1 T1 D1
        rintro m₂ nx h tk g2 TT2 ⟨⟨hm2, hm3⟩, nd', j, st, hst, hm5, rfl, hn', hj, hap4, hext⟩ C2
        rw [List.take_of_length_le (Nat.le_of_eq (strs_len hys).symm)] at hst
        have hst2 : st.2 = (splitTok (Txt.lower x)).filter nonblank := by rw [hst, addFold_snd]; rfl
        have hjl : j < nd'.length := by rw [hn'.len]; exact (List.getElem?_eq_some_iff.mp hj).1
        obtain ⟨n, hnj, had⟩ := adOf_lt hjl
        rw [had] at hm5
        have hA1 : (n.a, ({ cls := .ref 71, dict := some n.dx, data := .plain, slots := #[some (.ref n.c), some n.fail, some n.out, some n.tok] } : Obj)) ∈ objsOf 71 nd' ++ rest2 := (List.mem_append_left _ (mem_objs.mpr ⟨j, n, hnj, .head _⟩))
        have hA2 : (n.dx, dictOf [] 0) ∈ objsOf 71 nd' ++ rest2 := (List.mem_append_left _ (mem_objs.mpr ⟨j, n, hnj, .tail _ (.head _)⟩))
        generalize hled4 : objsOf 71 nd' ++ rest2 = led4 at *
        obtain ⟨⟨A2, B2⟩, F2, XB2, N2, ⟨p2, loose2, mean2, mg2, mb2, TB2⟩, D2, hk2⟩ := id C2
        have X2 := XB2.keeps B2.stays
        have T2 := TB2.keeps B2.stays
        dsimp only
        try k_fold
        rcases hval with ⟨rfl, he⟩ | ⟨u, rfl, hy0, hy1⟩
        · replace he := he.symm
          subst he
          k_steps
          (k_dflt (refine' set_slotB ?k1 ?k2 ?k3 ?k4 ?k5 ?k6 ?k7 ?k8 ?k9 ?k10 ?k11 ?k12 ?k13 ?_; (case k1 => k_asm); (case k2 => k_asm); (case k3 => k_asm); (case k4 => k_inst); (case k5 => k_is); (case k6 => k_is); (case k7 => k_is); (case k8 => k_is); (case k9 => k_is); (case k10 => decide); (case k11 => k_slotset); (case k12 => exact rfl); (case k13 => exact .tail _ hA1); k_whole); intro h9 F9 N9)
          rename (∀ p : Addr × Obj, p ∈ led4 → p.1 < _) => hl6
          k_steps
          have hap5 : Apart (objsOf 71 nd' ++ rest2) := by rw [hled4]; exact hap4
          have e : st.1 = addAll P ((splitTok (Txt.lower x)).filter nonblank) := by rw [hst]; rfl
          obtain ⟨hin9, hT9, hr9⟩ := add_done hap5 hled4 hl6 hn' hnj hext houts hfails hok (by rw [hn.len]; exact (List.getElem?_eq_some_iff.mp hn.root).1)
          refine leaveC TT2 F9 (News.sub N9 hin9) (fun h₀' T C => hQ h₀' _ _ _ _ j _ _ _ T ?_ ?_ C ?_)
          · rw [← e, hj, hst2]
          · exact hr9
          · rw [← e]; exact hT9
        · k_steps
          rotate_left
          · exfalso; omega
          (k_dflt (refine' set_slotB ?k1 ?k2 ?k3 ?k4 ?k5 ?k6 ?k7 ?k8 ?k9 ?k10 ?k11 ?k12 ?k13 ?_; (case k1 => k_asm); (case k2 => k_asm); (case k3 => k_asm); (case k4 => k_inst); (case k5 => k_is); (case k6 => k_is); (case k7 => k_is); (case k8 => k_is); (case k9 => k_is); (case k10 => decide); (case k11 => k_slotset); (case k12 => exact rfl); (case k13 => exact .tail _ hA1); k_whole); intro h9 F9 N9)
          rename (∀ p : Addr × Obj, p ∈ led4 → p.1 < _) => hl6
          k_steps
          have hap5 : Apart (objsOf 71 nd' ++ rest2) := by rw [hled4]; exact hap4
          have e : st.1 = addAll P ((splitTok (Txt.lower x)).filter nonblank) := by rw [hst]; rfl
          obtain ⟨hin9, hT9, hr9⟩ := add_done hap5 hled4 hl6 hn' hnj hext houts hfails hok (by rw [hn.len]; exact (List.getElem?_eq_some_iff.mp hn.root).1)
          refine leaveC TT2 F9 (News.sub N9 hin9) (fun h₀' T C => hQ h₀' _ _ _ _ j _ _ _ T ?_ ?_ C ?_)
          · rw [← e, hj, hst2]
          · exact hr9
          · rw [← e]; exact hT9
end
end Mine
end
section
theorem Mine.switch_S30 : True := by
  w_top off
  trivial
open Lean Elab Tactic Meta PySem PySem.W PySem.Calls PyProof.Rows
set_option pp.deepTerms false
set_option pp.maxSteps 800
set_option pp.deepTerms.threshold 5
namespace Mine
local macro_rules | `(tactic| walk_at "exec For Name Name cons nil") => `(tactic| (refine Mine.Stop.on ?_))
local macro_rules | `(tactic| walk_at "exec For Name Call cons nil") => `(tactic| (refine Mine.Stop.on ?_))
local macro_rules | `(tactic| walk_at "exec Assign cons ListComp") => `(tactic| (refine Mine.Stop.on ?_))
local macro_rules | `(tactic| walk_at "LeaveC") => `(tactic| fail "here")
local macro_rules | `(tactic| k_room) => `(tactic| first | ktr_room | ((simp only [Mine.mark_depth, depth_under_make, depth_under_kw, depth_in1, depth_deeper, depth_caller]); (try dsimp only [ktrTop]); (try simp only [recursionLimit] at *); omega))
local macro_rules | `(tactic| k_all) => `(tactic| first | assumption | exact Mine.offLt (by assumption) | exact Mine.offLt2 (by assumption) (by assumption) | (refine List.forall_mem_append.mpr ⟨?a, ?b⟩; (case a => k_all); (case b => k_all)))
local macro_rules | `(tactic| walk_at "setItem ref str") => `(tactic| (k_here; k_dflt (refine' kda_setB (knd := PySem.strKind _ _) ?F ?N ?hm ?d (strKind_is _ _ _ _) ?z ?_; (case F => k_asm); (case N => k_asm); (case hm => k_mem); (case d => k_asm); (case z => k_asm)); intro h' o' F' N' hd'))
local macro_rules | `(tactic| walk_at "compareOp Is str ref") => `(tactic| (k_here; refine wpAny_is_other (by rfl) (by intro x; cases x) ?_))
local macro_rules | `(tactic| k_mem) => `(tactic| assumption)
local macro_rules | `(tactic| walk_at "eval Name") => `(tactic| (k_here; (with_reducible show wpAny _ _ (eval (Expr.Name _ _) (envOf _ _ _ _ _)) _ _ _); k_dflt (refine' ld ?k1 ?k2 ?_; (case k1 => k_asm); (case k2 => first | exact rfl | assumption); k_whole)))
local macro_rules | `(tactic| walk_at "eval Name") => `(tactic| (k_here; (with_reducible show wpAny _ _ (eval (Expr.Name _ _) (envOfC _ _ _ _ _)) _ _ _); k_dflt (refine' nameX_L ?F ?v ?_ ?a ?b; (case F => k_asm); (case a => rfl); (case b => rfl); (case v => first | rfl | assumption); k_whole)))
local macro_rules | `(tactic| walk_at "call builtin:len") => `(tactic| (k_here; (with_reducible show wpAny _ _ (call (Value.builtin "len") [Value.ref _]) _ _ _); k_dflt (first | refine len_L (by k_asm) (by k_mem) (by omega) ?_ | refine len_T (by k_asm) (by k_mem) (by omega) ?_)))
local macro_rules | `(tactic| walk_at "subscriptTail") => `(tactic| (k_here; (with_reducible show wpAny _ _ (subscriptTail _ (PySem.Expr.Slice _ _ _ _) (Value.ref _) (Value.ref _)) _ _ _); refine Mine.Stop.on ?_))
local macro_rules | `(tactic| walk_at "compareOp Eq ref ref") => `(tactic| (refine Mine.Stop.on ?_))
local macro_rules | `(tactic| walk_at "compareOp NotEq ref ref") => `(tactic| (refine Mine.Stop.on ?_))
local macro_rules | `(tactic| walk_at "call type:list") => `(tactic| (k_here; k_dflt (refine list_of_tuple (by k_asm) (by k_asm) (by k_mem) (by omega) ?_); intro D' c' h' F' N' l1; (try k_sweep)))
local macro_rules | `(tactic| walk_at "call builtin:list.append") => `(tactic| (refine Mine.Stop.on ?_))
local macro_rules | `(tactic| walk_at "call builtin:list.pop") => `(tactic| (refine Mine.Stop.on ?_))
local macro_rules | `(tactic| walk_at "exec While") => `(tactic| (refine Mine.Stop.on ?_))
local macro_rules | `(tactic| walk_at "exec For Name Attribute cons nil") => `(tactic| (refine Mine.Stop.on ?_))
section
variable {prog : Program} {w : World} {dp un : Nat} {gd : Option (List Code)} {cn : Str} {cs : Scope} {a : Addr} {ccd : Value} {cl : List (Str × Addr)} {outer : List Env} {base h₀ : Heap} {L : Addr} {m : Str → Option Value} {news : List (Addr × Obj)} {s : Shared} {Q E : Value → Shared → Prop}
set_option maxRecDepth 100000
set_option maxHeartbeats 1000000
set_option maxHeartbeats 4000000
/-- the fails behind the first loop: the children of the root -/
def f1 (P : List (List Str)) (seen : List Str) (i : Nat) : Option Nat := if ∃ t ∈ seen, P[i]? = some [t] then some 0 else none
def q1 (nd : List Nd) (P : List (List Str)) (seen : List Str) : List Value := (seen.filter fun t => decide ([t] ∈ P)).map fun t => .ref (adOf nd (P.idxOf [t]))
def ex1 (P : List (List Str)) (seen : List Str) : List Str := seen.filter fun t => decide ([t] ∉ P)
theorem str_of_is {prog : Program} {w : World} {k : Str} {v : Value} (h : (PySem.strKind prog w).is k v = true) : ∃ t, v = .str k t := Value.isStrOf_shape h
theorem same_c {nd nd' : List Nd} (h : Same nd nd') {i : Nat} {n n' : Nd} (hn : nd[i]? = some n) (hn' : nd'[i]? = some n') : n'.c = n.c := by
  have := congrArg (·[i]?) h
  simp only [List.getElem?_map, hn, hn', Option.map_some, Option.some.injEq, Prod.mk.injEq] at this
  exact this.2.2
theorem q1_len (nd : List Nd) (P : List (List Str)) (seen : List Str) : (q1 nd P seen).length = (seen.filter fun t => decide ([t] ∈ P)).length := by unfold q1; rw [List.length_map]
theorem bfs_start {P : List (List Str)} {ks : List Str} (h0 : P[0]? = some []) (hn : P.Nodup) (hK : ∀ p ∈ P, ∀ x ∈ p, x ∈ ks) (hc : ∀ q ∈ P, q.dropLast ∈ P) : Bfs P (f1 P ks) 1 ((ks.filter fun t => decide ([t] ∈ P)).map fun t => P.idxOf [t]) [] := by
  have hi0 : P.idxOf [] = 0 := idx_of hn h0
  have one : ∀ p : List Str, p.length = 1 → ∃ t, p = [t] := fun p hp => by
    match p, hp with
    | [t], _ => exact ⟨t, rfl⟩
  refine ⟨fun i hi => ?_, fun i hi => (nomatch hi), fun i p hp hne hl => ?_, fun i p hp hl => ?_, ?_, Nat.le_refl _⟩
  · obtain ⟨t, ht, rfl⟩ := List.mem_map.mp hi
    have := of_decide_eq_true (List.mem_filter.mp ht).2
    exact ⟨[t], idx_get this, rfl⟩
  · obtain ⟨t, rfl⟩ := one p (by
      have : p.length ≠ 0 := fun e => hne (List.eq_nil_of_length_eq_zero e)
      omega)
    unfold f1
    rw [if_pos ⟨t, hK _ (List.mem_of_getElem? hp) t (.head _), hp⟩, fo_one, hi0]
  · right
    match p, hl with
    | [t, u], _ =>
      have hm : [t] ∈ P := hc _ (List.mem_of_getElem? hp)
      exact List.mem_map.mpr ⟨t, List.mem_filter.mpr ⟨hK _ (List.mem_of_getElem? hp) t (.head _), decide_eq_true hm⟩, rfl⟩
  · unfold f1
    rw [if_neg]
    rintro ⟨t, _, e⟩
    rw [h0] at e; cases e
theorem pop0_B {prog : Program} {w : World} {A : Around} {E : Value → Shared → Prop} {s : Shared} {h₀ : Heap} {L d : Addr} {m : Str → Option Value} {news : List (Addr × Obj)} {v : Value} {vs : List Value} {n : Nat} {u : Tok} {Q : Value → Shared → Prop} (F : Fr h₀ L s.heap m) (N : News h₀ L s.heap news) (hm : (d, listOf (v :: vs).toArray n) ∈ news) (hz : vs.length ≤ 1000000)
    (h : ∀ h', Fr h₀ L h' m → News h₀ L h' ((d, listOf vs.toArray (n + 1)) :: but d news) → Q v { s with heap := h' }) : wpAny (model prog w) A (call (.builtin "list.pop") [.ref d, .int 0 u]) Q E s :=
  kl_popAt (k := 0) (p := []) (q := vs) F (news_but N hm) rfl (by simp [seqIndex?]) rfl (Upd.head but_off) (by rw [sizeLine_eq]; simp; omega) h
theorem set_dictB {prog : Program} {w : World} {A : Around} {E : Value → Shared → Prop} {s : Shared} {h₀ : Heap} {L dx x C : Addr} {ox : Obj} {m : Str → Option Value} {news : List (Addr × Obj)} {K : Frag} {es es' : List DictEntry} {n n' : Nat} {name : Str} {v : Value} {Q : Unit → Shared → Prop} (F : Fr h₀ L s.heap m) (X₀ : K.In h₀) (N : News h₀ L s.heap news) (I : InstAt s.heap x ox C (some (dictOf es n))) (hd : ox.dict = some dx)
    (hs : findIn K (.ref C) "__setattr__" = some (some (.builtin "object.__setattr__"))) (hp : plainOver K C = true) (ht : takerIn K C name = some none) (hh : hasDictIn K C = true) (hl : (getL name es).isSome = true)
    (e : (putL name (PyData.keyHash w.params name) (.str name (s.toks + 1)) v es, putN name es n) = (es', n')) (hm : (dx, dictOf es n) ∈ news) (hz : es'.length ≤ 1000)
    (h : ∀ h', Fr h₀ L h' m → News h₀ L h' ((dx, dictOf es' n') :: but dx news) → Q () { s with heap := h', toks := s.toks + 2 }) :
    wpAny (model prog w) A (setAttr (.ref x) name v) Q E s :=
  set_dict F X₀ (news_but N hm) I hd hs hp ht hh hl e (Upd.head but_off) hz h
theorem kvsR_len {nd : List Nd} {P : List (List Str)} {ks : List Str} {i : Nat} {p : List Str} (h : ks.length ≤ 1000) (h2 : P.length ≤ 1000) : (kvsR nd P (ex1 P (ks.take i)) p).length ≤ 16777216 := by
  unfold kvsR
  rw [List.length_append]
  have h3 := kvsOf_len nd P p
  have h4 : (ex1 P (ks.take i)).length ≤ ks.length := Nat.le_trans (List.length_filter_le _ _) (by rw [List.length_take]; exact Nat.min_le_right _ _)
  split
  · rw [List.length_map]; omega
  · simp; omega
theorem step_val {nd : List Nd} {P : List (List Str)} {ks : List Str} {q : List Str} {x : Str} (hn : P.Nodup) (h0 : P[0]? = some []) (hx : x ∈ ks) (h : q ++ [x] ∈ P ∨ q = []) : valueAt (kvsR nd P (ex1 P ks) q) x = some (.ref (adOf nd (P.idxOf (best P q x)))) := by
  by_cases hq : q ++ [x] ∈ P
  · rw [best_hit hq]
    exact valueR_child hn (idx_get hq)
  · rcases h with h | rfl
    · exact absurd h hq
    · have hx' : [x] ∉ P := by simpa using hq
      have hm : x ∈ ex1 P ks := List.mem_filter.mpr ⟨hx, decide_eq_true hx'⟩
      rw [valueR_root hx', if_pos hm, best_nil hx', idx_of hn h0]
theorem automaton_spec {H : TrieHd} {nd : List Nd} {P : List (List Str)} {O : List (Option (Str × Str))} {ks : List Str} {rest : List (Addr × Obj)}
   (C : Cx (Mine.hd.heap_39 w.params) cs outer base h₀ L s.heap m (hdObjs w.params 169 false H (adOf nd 0) ++ (objsOf 71 nd ++ rest))) (hd : dp + 40 < recursionLimit) (hu : un + 300 < cLine)
   (hT : TrieS prog w 44 169 71 H nd P O ks rest) (hksl : ks.length ≤ 1000) (hPl : P.length ≤ 1000) (hkl : ∀ x ∈ ks, x.length ≤ 1000) (hkn : ks.Nodup) (hlok : (H.kd == sysModules) = false) (hKn : ∀ p ∈ P, ∀ x ∈ p, x ∈ ks) (hPc : ∀ q ∈ P, ∀ k, q.take k ∈ P) (hP3 : ∀ q ∈ P, q.length ≤ 3) (hP20 : P.length ≤ 20)
   (hQ : ∀ h' tk' ndA f, Cx (Mine.hd.heap_39 w.params) cs outer base h₀ L h' m (hdObjs w.params 169 true H (adOf nd 0) ++ (objsOf 71 ndA ++ rest)) → AutI prog w 44 nd ndA P (ex1 P ks) f → f 0 = none → (∀ (i : Nat) (p : List Str), P[i]? = some p → p ≠ [] → f i = some (P.idxOf (fo P p))) → Q .none { s with heap := h', toks := tk' }) :
   wpAny (model prog w) (ktrTop dp un gd cn cs L a ccd cl outer) (call (.ref 152) [.ref H.tr]) Q E s := by
  obtain ⟨⟨A0, B0⟩, F0, XB0, N0, ⟨p0, loose0, mean0, mg0, mb0, TB0⟩, D0, hk0⟩ := id C
  have X0 := XB0.keeps B0.stays
  have T0 := TB0.keeps B0.stays
  refine wpAny_call ?_
  k_dflt (refine' enterC C ?kA ?kF ?kK ?k6 ?k7 ?k8 ?k9 ?kB ?_ ?c2 ?c3 ?c4 ?c5; (case kA => exact rfl); (case kF => exact rfl); (case kK => exact hk0); (case k6 => k_is); (case k7 => k_is); (case k8 => (show dp < _; omega)); (case k9 => first | exact BindsTo.of_eq rfl | exact binds_K (by k_in) rfl (by k_is) rfl rfl rfl); (case kB => exact locs rfl); (case c2 => exact rfl); (case c3 => exact rfl); (case c4 => exact rfl); (case c5 => decide); k_whole)
  intro g L1 hh1 C1 hlt1
  clear B0 F0 N0 X0 T0 D0
  obtain ⟨⟨A1, B1⟩, F1, XB1, N1, ⟨p1, loose1, mean1, mg1, mb1, TB1⟩, D1, hk1⟩ := id C1
  have X1 := XB1.keeps B1.stays
  have T1 := TB1.keeps B1.stays
  dsimp only
  try k_fold
  obtain ⟨hn, hks, houts, hfails, hap⟩ := hT
  have htr : (H.tr, ({ cls := .ref 169, dict := some H.dx, data := .plain } : Obj)) ∈ hdObjs w.params 169 false H (adOf nd 0) ++ (objsOf 71 nd ++ rest) := .head _
  have hdx : (H.dx, dictOf (hdEnts w.params false H (adOf nd 0)) 3) ∈ hdObjs w.params 169 false H (adOf nd 0) ++ (objsOf 71 nd ++ rest) := .tail _ (.head _)
  have hkd : (H.kd, H.okd) ∈ hdObjs w.params 169 false H (adOf nd 0) ++ (objsOf 71 nd ++ rest) := .tail _ (.tail _ (.head _))
  have hobj : ∀ p ∈ objsOf 71 nd, p ∈ hdObjs w.params 169 false H (adOf nd 0) ++ (objsOf 71 nd ++ rest) := fun p hp => List.mem_append_right _ (List.mem_append_left _ hp)
  generalize hled : hdObjs w.params 169 false H (adOf nd 0) ++ (objsOf 71 nd ++ rest) = led at *
  unfold hdEnts at hdx
  k_steps
  refine Stop.off ?_
  (rename Fr _ _ _ _ => lF; (with_unfolding_all refine' For_invVF lF ?k1 ?k2 ?_; (case k1 => exact rfl); (case k2 => exact rfl); k_whole))
  k_steps
  rename News _ _ _ _ => N2
  have F2 := lF
  rename ∀ p, p ∈ led → p.1 < _ => hD
  rename_i D _ _
  have hDn : ∀ p ∈ led, p.1 ≠ D := fun p hp => Nat.ne_of_lt (hD p hp)
  let R0 : List (Addr × Obj) := (H.tr, { cls := .ref 169, dict := some H.dx, data := .plain }) :: (H.dx, dictOf (hdEnts w.params false H (adOf nd 0)) 3) :: (H.kd, H.okd) :: rest
  have hR0 : ∀ p ∈ objsOf 71 nd ++ R0, p ∈ led := fun p hp => by
    rw [← hled]
    rcases List.mem_append.mp hp with hp | hp
    · exact List.mem_append_right _ (List.mem_append_left _ hp)
    rcases List.mem_cons.mp hp with rfl | hp
    · exact .head _
    rcases List.mem_cons.mp hp with rfl | hp
    · exact .tail _ (.head _)
    rcases List.mem_cons.mp hp with rfl | hp
    · exact .tail _ (.tail _ (.head _))
    · exact List.mem_append_right _ (List.mem_append_right _ hp)
  have hapR : Apart (objsOf 71 nd ++ R0) := by
    refine apart_perm (a := hdObjs w.params 169 false H (adOf nd 0) ++ (objsOf 71 nd ++ rest)) ?_ (by rw [hled]; exact hap)
    show (hdObjs w.params 169 false H (adOf nd 0) ++ (objsOf 71 nd ++ rest)).Perm (objsOf 71 nd ++ (hdObjs w.params 169 false H (adOf nd 0) ++ rest))
    rw [← List.append_assoc, ← List.append_assoc]
    exact List.Perm.append_right _ List.perm_append_comm
  have hkd2 := hR0 (H.kd, H.okd) (List.mem_append_right _ (.tail _ (.tail _ (.head _))))
  have hkdat : (H.kd, H.okd) ∈ (D, listOf [].toArray 0) :: led := .tail _ hkd
  have hroot : ∃ n0, nd[0]? = some n0 := by
    have h1 := hn.root
    have h2 := (List.getElem?_eq_some_iff.mp h1).1
    exact ⟨nd[0]'(by rw [hn.len]; exact h2), by simp⟩
  refine iter_keysJ (knd := PySem.strKind _ _) (kvs := kvKnown ks) (d := H.kd) (news := (D, listOf [].toArray 0) :: (objsOf 71 nd ++ R0)) (fun i m' nx => (m' "self" = some (.ref H.tr) ∧ m' "queue" = some (.ref D)) ∧ ∃ ndA qn, nx = (D, listOf (q1 nd P (ks.take i)).toArray qn) :: (objsOf 71 ndA ++ R0) ∧ AutI prog w 44 nd ndA P (ex1 P (ks.take i)) (f1 P (ks.take i))) (by rfl) hlok (kda_dict N2 hkdat hks).dictAt (N2 _ hkdat).2.1 F2 (News.sub N2 ?_) ⟨⟨rfl, rfl⟩, nd, 0, rfl, ?_⟩ ?_ ?_
  · intro p hp
    rcases List.mem_cons.mp hp with rfl | hp
    · exact .head _
    · exact .tail _ (hR0 p hp)
  · have hs := AutI.start (nilA := 44) hn hfails
    have e1 : ex1 P (ks.take 0) = [] := rfl
    have e2 : f1 P (ks.take 0) = fun _ => none := by
      funext i
      exact if_neg fun ⟨t, ht, _⟩ => by simp at ht
    rw [e1, e2]; exact hs
  · rintro i k y v m₁ nx I own h tk hkv hkis ⟨⟨hm1, hm2⟩, ndA, qn, rfl, hA⟩ hown hoff ⟨oI, hoI⟩ hdI F₁ N₁
    clear lF N2 F2
    obtain ⟨tv, rfl⟩ : ∃ tv, v = .str k tv := str_of_is hkis
    have hki : ks[i]? = some k := by
      unfold kvKnown at hkv
      rw [List.getElem?_map] at hkv
      cases hq : ks[i]? with
      | none => rw [hq] at hkv; cases hkv
      | some z => rw [hq] at hkv; cases hkv; rfl
    have hkln := hkl k (List.mem_of_getElem? hki)
    obtain ⟨n0, hn0⟩ : ∃ n0, ndA[0]? = some n0 := by
      obtain ⟨n0, h0⟩ := hroot
      have h1 := (List.getElem?_eq_some_iff.mp h0).1
      rw [← same_len hA.same] at h1
      exact ⟨ndA[0], by simp [h1]⟩
    have ha0 : adOf nd 0 = n0.a := (same_ad hA.same 0).symm.trans (adOf_of hn0)
    have hd0 := hA.dict 0 n0 [] hn0 hn.root
    have hobjs : ∀ p ∈ n0.objs 71, p ∈ objsOf 71 ndA := fun p hp => mem_objs.mpr ⟨0, n0, hn0, hp⟩
    have hup : ∀ p ∈ objsOf 71 ndA ++ R0, p ∈ (D, listOf (q1 nd P (ks.take i)).toArray qn) :: (objsOf 71 ndA ++ R0) ++ own := fun p hp => List.mem_append_left _ (.tail _ hp)
    have hA1 := hup (H.tr, { cls := .ref 169, dict := some H.dx, data := .plain }) (List.mem_append_right _ (.head _))
    have hB1 := hup (H.dx, dictOf (hdEnts w.params false H (adOf nd 0)) 3) (List.mem_append_right _ (.tail _ (.head _)))
    rw [ha0] at hB1
    unfold hdEnts at hB1
    have hN1 := hup (n0.a, nodeObj 71 n0) (List.mem_append_left _ (hobjs _ (.head _)))
    have hN2 := hup (n0.dx, dictOf [] 0) (List.mem_append_left _ (hobjs _ (.tail _ (.head _))))
    have hN3 := hup (n0.c, n0.oc) (List.mem_append_left _ (hobjs _ (.tail _ (.tail _ (.head _)))))
    have hDq : (D, listOf (q1 nd P (ks.take i)).toArray qn) ∈ (D, listOf (q1 nd P (ks.take i)).toArray qn) :: (objsOf 71 ndA ++ R0) ++ own := .head _
    unfold nodeObj at hN1
    have hup' := hup
    generalize hled3 : (D, listOf (q1 nd P (ks.take i)).toArray qn) :: (objsOf 71 ndA ++ R0) ++ own = led3 at *
    try k_fold
    have hapA : Apart (objsOf 71 ndA ++ R0) := apart_same hA.same hapR
    have hDl : ∀ p ∈ objsOf 71 ndA ++ R0, p.1 ≠ D := fun p hp => by
      obtain ⟨q, hq, e⟩ := same_addr hA.same hp
      rw [← e]; exact hDn q (hR0 q hq)
    k_steps
    rename News _ _ _ _ => N3
    have hlo0 : (n0.c == sysModules) = false := by
      obtain ⟨m0, hm0⟩ := hroot
      rw [same_c hA.same hm0 hn0]
      exact hn.lo m0 (List.mem_of_getElem? hm0)
    have hknot : k ∉ ks.take i := fun hq => by
      obtain ⟨z, hz⟩ := List.mem_iff_getElem?.mp hq
      have hz1 := (List.getElem?_eq_some_iff.mp hz).1
      rw [List.length_take] at hz1
      rw [List.getElem?_take_of_lt (by omega)] at hz
      have hz2 := (List.getElem?_inj (by have := (List.getElem?_eq_some_iff.mp hz).1; exact this) hkn).mp (hz.trans hki.symm)
      omega
    have hkex : k ∉ ex1 P (ks.take i) := fun hq => hknot (List.mem_filter.mp hq).1
    have hnext : ks.take (i + 1) = ks.take i ++ [k] := by rw [List.take_add_one, hki]; rfl
    by_cases hkP : [k] ∈ P
    · have hjx : P[P.idxOf [k]]? = some ([] ++ [k]) := by
        have h1 : P.idxOf [k] < P.length := List.idxOf_lt_length_of_mem hkP
        rw [List.getElem?_eq_getElem h1]; exact congrArg some (List.getElem_idxOf h1)
      have hval := valueR_child (nd := nd) (ex := ex1 P (ks.take i)) hn.nodup hjx
      generalize hj : P.idxOf [k] = j at *
      have hjl : j < ndA.length := by
        rw [same_len hA.same, hn.len]; exact (List.getElem?_eq_some_iff.mp hjx).1
      obtain ⟨nj, hnj, hadj⟩ := adOf_lt hjl
      have hadj' : adOf nd j = nj.a := (same_ad hA.same j).symm.trans hadj
      have hNj := hup (nj.a, nodeObj 71 nj) (List.mem_append_left _ (mem_objs.mpr ⟨j, nj, hnj, .head _⟩))
      have hNjd := hup (nj.dx, dictOf [] 0) (List.mem_append_left _ (mem_objs.mpr ⟨j, nj, hnj, .tail _ (.head _)⟩))
      unfold nodeObj at hNj
      rw [hadj'] at hval
      k_dflt (refine kda_in N3 hN3 hd0 hlo0 (strKind_is _ _ _ _) true (by rw [hval]; rfl) ?_)
      k_steps
      k_dflt (refine kda_item (knd := PySem.strKind _ _) N3 hN3 hd0 (strKind_is _ _ _ _) hval ?_)
      k_steps
      (k_dflt (refine' set_slotB ?k1 ?k2 ?k3 ?k4 ?k5 ?k6 ?k7 ?k8 ?k9 ?k10 ?k11 ?k12 ?k13 ?_; (case k1 => k_asm); (case k2 => k_asm); (case k3 => k_asm); (case k4 => k_inst); (case k5 => k_is); (case k6 => k_is); (case k7 => k_is); (case k8 => k_is); (case k9 => k_is); (case k10 => decide); (case k11 => k_slotset); (case k12 => exact rfl); (case k13 => exact hNj); k_whole); intro h5 F5 N5)
      have hDj : D ≠ nj.a := (hDl (nj.a, nodeObj 71 nj) (List.mem_append_left _ (mem_objs.mpr ⟨j, nj, hnj, .head _⟩))).symm
      have hDq5 : (D, listOf (q1 nd P (ks.take i)).toArray qn) ∈ (nj.a, ({ cls := .ref 71, dict := some nj.dx, data := .plain, slots := #[some (.ref nj.c), some (.ref n0.a), some nj.out, some nj.tok] } : Obj)) :: but nj.a led3 := mem_put hDq hDj
      k_steps
      refine Stop.off ?_
      rename Fr _ _ _ _ => F6
      rename News _ _ _ _ => N6
      k_dflt (refine append_B F6 N6 (mem_put hDq hDj) (by rw [q1_len]; exact Nat.le_trans (List.length_filter_le _ _) (by rw [List.length_take]; omega)) ?_)
      intro h7 F7 N7
      clear F6 N6
      k_steps
      show TurnEnd _ _ _ _ _ _ _
      rename News _ _ _ _ => N8
      rename Fr _ _ _ _ => F8
      have hnja : (nj.a, nodeObj 71 nj) ∈ objsOf 71 ndA := mem_objs.mpr ⟨j, nj, hnj, .head _⟩
      have hturn := objs_turn (n' := { nj with fail := .ref (adOf nd 0) }) hapA hnj hup' rfl
      refine TurnEnd.mk ((D, listOf (q1 nd P (ks.take i) ++ [Value.ref nj.a]).toArray (qn + 1)) :: (objsOf 71 (ndA.set j { nj with fail := .ref (adOf nd 0) }) ++ R0)) F8 N8 (fun p hp => ?_) (fun p hp => ?_) (fun p hp => ?_) ⟨⟨hm1, hm2⟩, ndA.set j { nj with fail := .ref (adOf nd 0) }, qn + 1, ?_, ?_⟩
      · refine mem_put (mem_put (hled3 ▸ List.mem_append_right _ hp) ?_) ?_
        · rcases hown p hp with e | e
          · rw [e]; exact (hoff _ (.tail _ (List.mem_append_left _ hnja))).symm
          · rw [e]; exact ((apart_app.mp hapA).2.2 _ hnja _ (.tail _ (.tail _ (.head _)) : (H.kd, H.okd) ∈ R0)).symm
        · rcases hown p hp with e | e
          · rw [e]; exact (hoff _ (.head _)).symm
          · rw [e]; exact hDl (H.kd, H.okd) (List.mem_append_right _ (.tail _ (.tail _ (.head _))))
      · rcases List.mem_cons.mp hp with rfl | hp
        · exact .head _
        · have h1 := hturn p hp
          rw [ha0] at h1
          refine mem_put h1 ?_
          obtain ⟨q, hq, e⟩ := same_addr (same_set hnj { nj with fail := .ref (adOf nd 0) } rfl) hp
          rw [← e]; exact hDl q hq
      · rcases List.mem_cons.mp hp with rfl | hp
        · exact hoff (D, listOf (q1 nd P (ks.take i)).toArray qn) (.head _)
        · obtain ⟨q, hq, e⟩ := same_addr (same_set hnj { nj with fail := .ref (adOf nd 0) } rfl) hp
          rw [← e]; exact hoff q (.tail _ hq)
      · have : q1 nd P (ks.take (i + 1)) = q1 nd P (ks.take i) ++ [Value.ref nj.a] := by
          unfold q1
          rw [hnext, List.filter_append, List.filter_cons, if_pos (by simpa using hkP), List.filter_nil, List.map_append, List.map_cons, List.map_nil, hj, hadj']
        rw [this]
      · have e1 : ex1 P (ks.take (i + 1)) = ex1 P (ks.take i) := by
          unfold ex1
          rw [hnext, List.filter_append, List.filter_cons, if_neg (by simpa using hkP)]
          simp
        have e2 : f1 P (ks.take (i + 1)) = fun q => if q = j then some 0 else f1 P (ks.take i) q := by
          funext q
          unfold f1
          rw [hnext]
          by_cases hq : q = j
          · subst hq
            rw [if_pos rfl, if_pos ⟨k, List.mem_append_right _ (.head _), hjx⟩]
          · rw [if_neg hq]
            have : (∃ t ∈ ks.take i ++ [k], P[q]? = some [t]) ↔ ∃ t ∈ ks.take i, P[q]? = some [t] := by
              constructor
              · rintro ⟨t, ht, e⟩
                rcases List.mem_append.mp ht with ht | ht
                · exact ⟨t, ht, e⟩
                · rw [List.mem_singleton.mp ht] at e
                  have hl := (List.getElem?_eq_some_iff.mp e).1
                  exact absurd ((List.getElem?_inj hl hn.nodup).mp (e.trans hjx.symm)) hq
              · rintro ⟨t, ht, e⟩
                exact ⟨t, List.mem_append_left _ ht, e⟩
            simp only [this]
        rw [e1, e2]
        exact hA.setFail hnj
    · have hval : valueAt (kvsR nd P (ex1 P (ks.take i)) []) k = none := by rw [valueR_root hkP, if_neg hkex]
      k_dflt (refine kda_in N3 hN3 hd0 hlo0 (strKind_is _ _ _ _) false (by rw [hval]; rfl) ?_)
      k_steps
      rename Fr _ _ _ _ => F4
      k_dflt (refine kda_setB (knd := PySem.strKind _ _) F4 N3 hN3 hd0 (strKind_is _ _ _ _) (by rw [sizeLine_eq]; exact kvsR_len hksl hPl) ?_)
      intro h5 o5 F5 N5 hd5
      rw [← ha0, stored_root hkP hkex] at hd5
      k_steps
      show TurnEnd _ _ _ _ _ _ _
      rename News _ _ _ _ => N6
      rename Fr _ _ _ _ => F6
      have hnc : (n0.c, n0.oc) ∈ objsOf 71 ndA ++ R0 := List.mem_append_left _ (hobjs _ (.tail _ (.tail _ (.head _))))
      refine TurnEnd.mk ((D, listOf (q1 nd P (ks.take i)).toArray qn) :: (objsOf 71 (ndA.set 0 { n0 with oc := o5 }) ++ R0)) F6 N6 (fun p hp => ?_) (fun p hp => ?_) (fun p hp => ?_) ⟨⟨hm1, hm2⟩, ndA.set 0 { n0 with oc := o5 }, qn, ?_, ?_⟩
      · refine mem_put (hled3 ▸ List.mem_append_right _ hp) ?_
        rcases hown p hp with e | e
        · rw [e]; exact (hoff _ (.tail _ hnc)).symm
        · rw [e]; exact ((apart_app.mp hapA).2.2 _ (hobjs _ (.tail _ (.tail _ (.head _)))) _ (.tail _ (.tail _ (.head _)) : (H.kd, H.okd) ∈ R0)).symm
      · rcases List.mem_cons.mp hp with rfl | hp
        · exact mem_put hDq (hDl _ hnc).symm
        · exact objs_dict hapA hn0 hup' p hp
      · rcases List.mem_cons.mp hp with rfl | hp
        · exact hoff _ (.head _)
        · obtain ⟨q, hq, e⟩ := same_addr (same_set hn0 { n0 with oc := o5 } rfl) hp
          rw [← e]; exact hoff q (.tail _ hq)
      · have : q1 nd P (ks.take (i + 1)) = q1 nd P (ks.take i) := by
          unfold q1
          rw [hnext, List.filter_append, List.filter_cons, if_neg (by simpa using hkP)]
          simp
        rw [this]
      · have e1 : ex1 P (ks.take (i + 1)) = ex1 P (ks.take i) ++ [k] := by
          unfold ex1
          rw [hnext, List.filter_append, List.filter_cons, if_pos (by simpa using hkP)]
          simp
        have e2 : f1 P (ks.take (i + 1)) = f1 P (ks.take i) := by
          funext q
          unfold f1
          rw [hnext]
          have : (∃ t ∈ ks.take i ++ [k], P[q]? = some [t]) ↔ ∃ t ∈ ks.take i, P[q]? = some [t] := by
            constructor
            · rintro ⟨t, ht, e⟩
              rcases List.mem_append.mp ht with ht | ht
              · exact ⟨t, ht, e⟩
              · rw [List.mem_singleton.mp ht] at e
                exact absurd (List.mem_of_getElem? e) hkP
            · rintro ⟨t, ht, e⟩
              exact ⟨t, List.mem_append_left _ ht, e⟩
          simp only [this]
        rw [e1, e2]
        exact hA.setRoot hn0 hn.root hn.nodup hd5
  · rintro m₁ nx h tk ⟨⟨hm1, hm2⟩, ndA, qn, rfl, hA⟩ F₁ N₁
    rw [show (kvKnown ks).length = ks.length from kvKnown_len ks, List.take_length] at hA N₁
    have hB := bfs_start hn.root hn.nodup hKn hn.closed
    have hq : q1 nd P ks = ((ks.filter fun t => decide ([t] ∈ P)).map fun t => P.idxOf [t]).map fun i => Value.ref (adOf nd i) := by
      unfold q1; rw [List.map_map]; rfl
    rw [hq] at N₁
    clear lF N2 F2
    k_steps
    refine Stop.off ?_
    rename Fr _ _ _ _ => F3
    rename News _ _ _ _ => N3
    k_dflt (refine While_inv (fun n m' nx => (m' "self" = some (.ref H.tr) ∧ m' "queue" = some (.ref D)) ∧ ∃ ndA qn f d a b, nx = (D, listOf ((a ++ b).map fun i => Value.ref (adOf nd i)).toArray qn) :: (objsOf 71 ndA ++ R0) ∧ AutI prog w 44 nd ndA P (ex1 P ks) f ∧ Bfs P f d a b ∧ n = todo P (a ++ b) ∧ todo P (a ++ b) ≤ 441000) F3 N3 ⟨⟨hm1, hm2⟩, ndA, qn, _, 1, (ks.filter fun t => decide ([t] ∈ P)).map fun t => P.idxOf [t], [], by rw [List.append_nil], hA, hB, rfl, ?_⟩ ?_)
    · rw [List.append_nil]
      refine Nat.le_trans (todo_le _ fun i hi => ?_) (by rw [List.length_map]; have := List.length_filter_le (fun t => decide ([t] ∈ P)) ks; omega)
      obtain ⟨p, hp, hl⟩ := hB.at_a i hi
      unfold wt
      rw [List.getD_eq_getElem?_getD, hp]
      show 21 ^ (3 - p.length) ≤ 441
      rw [hl]; decide
    rintro n m₂ nx h4 tk4 F4 N4 ⟨⟨hm1, hm2⟩, ndA, qn, f, d, a, b, rfl, hA, hB, rfl, hz4⟩
    obtain ⟨d', a', b', hB', hab, hcase⟩ : ∃ d' a' b', Bfs P f d' a' b' ∧ a' ++ b' = a ++ b ∧ (a' = [] → a ++ b = []) := by
      cases a with
      | cons c a => exact ⟨d, c :: a, b, hB, rfl, fun e => by cases e⟩
      | nil => exact ⟨d + 1, b, [], hB.shift hn.closed, by simp, fun e => by simpa using e⟩
    rw [← hab] at N4 hcase hz4 ⊢
    have hlen4 := Nat.le_trans (len_todo (P := P) (a' ++ b')) hz4
    clear hB hab
    rcases a' with _ | ⟨c, a'⟩
    · have hb' : b' = [] := by simpa using hcase rfl
      subst hb'
      clear F3 N3
      simp only [List.append_nil, List.map_nil] at N4
      have hA5 : (H.tr, ({ cls := .ref 169, dict := some H.dx, data := .plain } : Obj)) ∈ (D, listOf ([] : List Value).toArray qn) :: (objsOf 71 ndA ++ R0) := .tail _ (List.mem_append_right _ (.head _))
      have hB5 : (H.dx, dictOf (hdEnts w.params false H (adOf nd 0)) 3) ∈ (D, listOf ([] : List Value).toArray qn) :: (objsOf 71 ndA ++ R0) := .tail _ (List.mem_append_right _ (.tail _ (.head _)))
      unfold hdEnts at hB5
      k_steps
      (k_dflt (refine' set_dictB ?k1 ?k2 ?k3 ?k4 ?k5 ?k6 ?k7 ?k8 ?k9 ?k10 ?k11 ?k12 ?k13 ?_; (case k1 => k_asm); (case k2 => k_asm); (case k3 => k_asm); (case k4 => k_inst); (case k5 => exact rfl); (case k6 => k_is); (case k7 => k_is); (case k8 => k_is); (case k9 => k_is); (case k10 => k_get); (case k11 => k_put); (case k12 => exact hB5); (case k13 => exact Nat.le_of_ble_eq_true rfl); k_whole); intro h6 F6 N6)
      k_steps
      rename Fr _ _ _ _ => F7
      rename News _ _ _ _ => N7
      obtain ⟨-, r1, r2⟩ := apart_app.mp (apart_same hA.same hapR)
      have r3 := apart_cons.mp r1
      have r4 := apart_cons.mp r3.2
      have htd : H.tr ≠ H.dx := (r3.1 _ (.head _)).symm
      refine leaveC0 F7 (News.sub (l' := hdObjs w.params 169 true H (adOf nd 0) ++ (objsOf 71 ndA ++ rest)) N7 fun p hp => ?_) fun C => hQ _ _ ndA f C hA hB'.root (hB'.finish hPc)
      rcases List.mem_append.mp hp with hp | hp
      · unfold hdObjs at hp
        simp only [List.mem_cons, List.not_mem_nil, or_false] at hp
        rcases hp with rfl | rfl | rfl
        · exact mem_put (.tail _ (List.mem_append_right _ (.head _))) htd
        · exact .head _
        · exact mem_put (.tail _ (List.mem_append_right _ (.tail _ (.tail _ (.head _))))) (r4.1 _ (.head _))
      rcases List.mem_append.mp hp with hp | hp
      · exact mem_put (.tail _ (List.mem_append_left _ hp)) (r2 p hp _ (.tail _ (.head _)))
      · exact mem_put (.tail _ (List.mem_append_right _ (.tail _ (.tail _ (.tail _ hp))))) (r4.1 p (.tail _ hp))
    · clear hcase F3 N3
      have hQ4 : (D, listOf ((c :: (a' ++ b')).map fun i => Value.ref (adOf nd i)).toArray qn) ∈ (D, listOf ((c :: (a' ++ b')).map fun i => Value.ref (adOf nd i)).toArray qn) :: (objsOf 71 ndA ++ R0) := .head _
      rw [List.cons_append] at N4
      rw [List.map_cons] at hQ4 N4
      rw [List.cons_append, List.length_cons] at hlen4
      k_steps
      rename News _ _ _ _ => N5
      k_dflt (refine kgr_truthy N5 hQ4 rfl rfl (by rw [List.length_cons, List.length_map]; omega) ?_)
      k_steps
      · rename List.isEmpty _ = true => he
        cases he
      refine Stop.off ?_
      rename Fr _ _ _ _ => F6
      k_dflt (refine pop0_B F6 N5 hQ4 (by rw [List.length_map]; omega) ?_)
      intro h7 F7 N7
      have hcl : ∃ nc, ndA[c]? = some nc := by
        obtain ⟨p, hp, _⟩ := hB'.at_a c (.head _)
        have h1 := (List.getElem?_eq_some_iff.mp hp).1
        rw [← hn.len, ← same_len hA.same] at h1
        exact ⟨ndA[c], by simp [h1]⟩
      obtain ⟨nc, hnc⟩ := hcl
      have hadc : adOf nd c = nc.a := (same_ad hA.same c).symm.trans (adOf_of hnc)
      rw [hadc] at N7
      rw [hadc]
      have hDl : ∀ p ∈ objsOf 71 ndA ++ R0, p.1 ≠ D := fun p hp => by
        obtain ⟨q, hq, e⟩ := same_addr hA.same hp
        rw [← e]; exact hDn q (hR0 q hq)
      replace N7 := News.sub (l' := (D, listOf ((a' ++ b').map fun i => Value.ref (adOf nd i)).toArray (qn + 1)) :: (objsOf 71 ndA ++ R0)) N7 (fun p hp => by
        rcases List.mem_cons.mp hp with rfl | hp
        · exact .head _
        · exact mem_put (.tail _ hp) (hDl p hp))
      have hup : ∀ p ∈ objsOf 71 ndA ++ R0, p ∈ (D, listOf ((a' ++ b').map fun i => Value.ref (adOf nd i)).toArray (qn + 1)) :: (objsOf 71 ndA ++ R0) := fun p hp => .tail _ hp
      have hobjc : ∀ p ∈ nc.objs 71, p ∈ objsOf 71 ndA := fun p hp => mem_objs.mpr ⟨c, nc, hnc, hp⟩
      have hC1 := hup (nc.a, nodeObj 71 nc) (List.mem_append_left _ (hobjc _ (.head _)))
      have hC2 := hup (nc.dx, dictOf [] 0) (List.mem_append_left _ (hobjc _ (.tail _ (.head _))))
      have hC3 := hup (nc.c, nc.oc) (List.mem_append_left _ (hobjc _ (.tail _ (.tail _ (.head _)))))
      unfold nodeObj at hC1
      obtain ⟨p, hp, hpd⟩ := hB'.at_a c (.head _)
      have hpne : p ≠ [] := fun e => by rw [e] at hpd; have := hB'.pos; simp at hpd; omega
      have hD3 := hA.dict c nc p hnc hp
      have hloc : (nc.c == sysModules) = false := by
        have h1 := (List.getElem?_eq_some_iff.mp hp).1
        rw [← hn.len] at h1
        rw [same_c hA.same (show nd[c]? = some nd[c] by simp) hnc]
        exact hn.lo _ (List.getElem_mem _)
      generalize hled7 : (D, listOf ((a' ++ b').map fun i => Value.ref (adOf nd i)).toArray (qn + 1)) :: (objsOf 71 ndA ++ R0) = led7 at *
      clear N5 F6
      k_steps
      refine Stop.off ?_
      (rename Fr _ _ _ _ => lF8; (with_unfolding_all refine' For_invVF lF8 ?k1 ?k2 ?_; (case k1 => exact rfl); (case k2 => exact rfl); k_whole))
      k_steps
      rename News _ _ _ _ => N8
      k_dflt (refine values_method (knd := PySem.strKind _ _) N8 hC3 hD3 ?_)
      k_steps
      rename News _ _ _ _ => N9
      rename Fr _ _ _ _ => F9
      have hview := (N9 _ (.head _)).1
      have hkv : kvsR nd P (ex1 P ks) p = kvsOf nd P p := by unfold kvsR; rw [if_neg hpne, List.append_nil]
      rw [hkv] at hD3
      refine iter_valuesJ (knd := PySem.strKind prog w) (d := nc.c) (kvs := kvsOf nd P p) (news := led7) (fun i m' nx => (m' "self" = some (.ref H.tr) ∧ m' "queue" = some (.ref D) ∧ m' "current_node" = some (.ref nc.a)) ∧ ∃ ndB qn', nx = (D, listOf ((a' ++ b' ++ ((kids P p).take i).map (·.2)).map fun i => Value.ref (adOf nd i)).toArray qn') :: (objsOf 71 ndB ++ R0) ∧ AutI prog w 44 nd ndB P (ex1 P ks) (fk P f ((kids P p).take i)))
        (by rfl) ⟨_, hview, rfl, rfl⟩ (kda_dict N9 (.tail _ hC3) hD3).dictAt (N9 _ (.tail _ hC3)).2.1 F9 (News.sub N9 fun q hq => .tail _ hq) ⟨⟨hm1, hm2, rfl⟩, ndA, qn + 1, ?_, ?_⟩ ?_ ?_
      · rw [List.take_zero, List.map_nil, List.append_nil]; exact hled7.symm
      · have e : fk P f ((kids P p).take 0) = f := by
          funext q
          unfold fk
          rw [if_neg (by simp)]
        rw [e]; exact hA
      · clear N8 N9 F9 lF8 N7
        rintro i k y m₃ nx I own h9 tk9 hkv2 ⟨⟨hm1, hm2, hm3⟩, ndB, qn', rfl, hA2⟩ hown hoff ⟨oI, hoI, hoIc⟩ hdI F₂ N₂
        obtain ⟨xx, jj, hkid, rfl⟩ : ∃ xx jj, (kids P p)[i]? = some (xx, jj) ∧ y = .ref (adOf nd jj) := by
          unfold kvsOf at hkv2
          rw [List.getElem?_map] at hkv2
          cases hq : (kids P p)[i]? with
          | none => rw [hq] at hkv2; cases hkv2
          | some q => rw [hq] at hkv2; cases hkv2; exact ⟨q.1, q.2, rfl, rfl⟩
        have hPj := kids_mem (List.mem_of_getElem? hkid)
        have hjjl : jj < ndB.length := by rw [same_len hA2.same, hn.len]; exact (List.getElem?_eq_some_iff.mp hPj).1
        obtain ⟨nj, hnjj, hadj0⟩ := adOf_lt hjjl
        have hadj : adOf nd jj = nj.a := (same_ad hA2.same jj).symm.trans hadj0
        rw [hadj] at F₂
        have hapB : Apart (objsOf 71 ndB ++ R0) := apart_same hA2.same hapR
        have hupB : ∀ q ∈ objsOf 71 ndB ++ R0, q ∈ (D, listOf ((a' ++ b' ++ ((kids P p).take i).map (·.2)).map fun i => Value.ref (adOf nd i)).toArray qn') :: (objsOf 71 ndB ++ R0) ++ own := fun q hq => List.mem_append_left _ (.tail _ hq)
        have hDq : (D, listOf ((a' ++ b' ++ ((kids P p).take i).map (·.2)).map fun i => Value.ref (adOf nd i)).toArray qn') ∈ (D, listOf ((a' ++ b' ++ ((kids P p).take i).map (·.2)).map fun i => Value.ref (adOf nd i)).toArray qn') :: (objsOf 71 ndB ++ R0) ++ own := .head _
        generalize hled9 : (D, listOf ((a' ++ b' ++ ((kids P p).take i).map (·.2)).map fun i => Value.ref (adOf nd i)).toArray qn') :: (objsOf 71 ndB ++ R0) ++ own = led9 at *
        try k_fold
        k_steps
        refine Stop.off ?_
        rename Fr _ _ _ _ => F3
        rename News _ _ _ _ => N3
        have hDlB : ∀ q ∈ objsOf 71 ndB ++ R0, q.1 ≠ D := fun q hq => by
          obtain ⟨r, hr, e⟩ := same_addr hA2.same hq
          rw [← e]; exact hDn r (hR0 r hr)
        have hkz : (kids P p).length ≤ 20 := Nat.le_trans (kidsFrom_len P 0 p) hP20
        k_dflt (refine append_B F3 N3 hDq (by rw [List.length_map, List.length_append, List.length_map, List.length_take]; omega) ?_)
        intro h10 F10 N10
        clear F3 N3
        obtain ⟨nb, hnb⟩ : ∃ nb, ndB[c]? = some nb := by
          have h1 := (List.getElem?_eq_some_iff.mp hp).1
          rw [← hn.len, ← same_len hA2.same] at h1
          exact ⟨ndB[c], by simp [h1]⟩
        have hadb : nc.a = nb.a := by rw [← hadc, ← same_ad hA2.same c]; exact adOf_of hnb
        have hfb : nb.fail = Value.ref (adOf nd (P.idxOf (fo P p))) := by
          rw [hA2.fail c nb hnb]
          have : fk P f ((kids P p).take i) c = some (P.idxOf (fo P p)) := by
            unfold fk
            rw [if_neg]
            · exact hB'.low c p hp hpne (Nat.le_of_eq hpd)
            · intro hq
              obtain ⟨⟨x, j⟩, hx, e⟩ := List.mem_map.mp hq
              have h1 := kids_mem (List.mem_of_mem_take hx)
              dsimp only at e
              rw [e, hp] at h1
              have := congrArg List.length (Option.some.inj h1)
              simp at this
          rw [this]; rfl
        obtain ⟨tj, htj⟩ : ∃ t, nj.tok = .str xx t := by
          have hl : jj < nd.length := by rw [hn.len]; exact (List.getElem?_eq_some_iff.mp hPj).1
          obtain ⟨t, ht⟩ := hn.tok jj nd[jj] _ (by simp [hl]) hPj
          refine ⟨t, ?_⟩
          rw [(hA2.keep jj nd[jj] nj (by simp [hl]) hnjj).1, ht, gl]
        have hxk : xx ∈ ks := hKn _ (List.mem_of_getElem? hPj) xx (by simp)
        have hupC : ∀ {o10 : Obj}, ∀ q ∈ objsOf 71 ndB ++ R0, q ∈ (D, o10) :: but D led9 := fun q hq => mem_put (hupB q hq) (hDlB q hq)
        obtain ⟨led10, hled10⟩ : ∃ l, (D, listOf (((a' ++ b' ++ ((kids P p).take i).map (·.2)).map fun i => Value.ref (adOf nd i)) ++ [Value.ref nj.a]).toArray (qn' + 1)) :: but D led9 = l := ⟨_, rfl⟩
        have hup10 : ∀ q ∈ objsOf 71 ndB ++ R0, q ∈ led10 := fun q hq => hled10 ▸ hupC q hq
        rw [hled10] at N10
        have hNb1 := hup10 (nb.a, nodeObj 71 nb) (List.mem_append_left _ (mem_objs.mpr ⟨c, nb, hnb, .head _⟩))
        have hNb2 := hup10 (nb.dx, dictOf [] 0) (List.mem_append_left _ (mem_objs.mpr ⟨c, nb, hnb, .tail _ (.head _)⟩))
        have hNj1 := hup10 (nj.a, nodeObj 71 nj) (List.mem_append_left _ (mem_objs.mpr ⟨jj, nj, hnjj, .head _⟩))
        have hNj2 := hup10 (nj.dx, dictOf [] 0) (List.mem_append_left _ (mem_objs.mpr ⟨jj, nj, hnjj, .tail _ (.head _)⟩))
        have hT1 := hup10 (H.tr, { cls := .ref 169, dict := some H.dx, data := .plain }) (List.mem_append_right _ (.head _))
        have hT2 := hup10 (H.dx, dictOf (hdEnts w.params false H (adOf nd 0)) 3) (List.mem_append_right _ (.tail _ (.head _)))
        unfold hdEnts at hT2
        unfold nodeObj at hNb1 hNj1
        rw [hfb] at hNb1
        rw [htj] at hNj1
        rw [hadb] at hm3
        k_steps
        refine Stop.off ?_
        rename Fr _ _ _ _ => F11
        rename News _ _ _ _ => N11
        k_dflt (refine While_inv (fun n m' nx => (m' "self" = some (.ref H.tr) ∧ m' "queue" = some (.ref D) ∧ m' "current_node" = some (.ref nc.a) ∧ m' "node" = some (.ref nj.a)) ∧ nx = led10 ∧ ∃ q s', P[q]? = some s' ∧ m' "state" = some (.ref (adOf nd q)) ∧ best P s' xx = fo P (p ++ [xx]) ∧ s'.length ≤ d' ∧ n = s'.length) F11 N11 ⟨⟨hm1, hm2, hadb ▸ hm3, rfl⟩, rfl, _, fo P p, idx_get (fo_mem (List.mem_of_getElem? hn.root) p), rfl, by rw [fo_snoc hpne, ← best_fo (fun q x hq => by have := hn.closed _ hq; rwa [List.dropLast_concat] at this) (List.mem_of_getElem? hn.root)], by have := fo_lt (P := P) hpne; omega, rfl⟩ ?_)
        rintro n m₄ nx h12 tk12 F12 N12 ⟨⟨hm1, hm2, hm3, hm5⟩, rfl, q, s', hq, hst, hbest, hsd, rfl⟩
        clear F11 N11
        try clear F10
        try clear N10
        have hql : q < ndB.length := by rw [same_len hA2.same, hn.len]; exact (List.getElem?_eq_some_iff.mp hq).1
        obtain ⟨nq, hnq, hadq0⟩ := adOf_lt hql
        have hadq : adOf nd q = nq.a := (same_ad hA2.same q).symm.trans hadq0
        have hNq1 := hup10 (nq.a, nodeObj 71 nq) (List.mem_append_left _ (mem_objs.mpr ⟨q, nq, hnq, .head _⟩))
        have hNq2 := hup10 (nq.dx, dictOf [] 0) (List.mem_append_left _ (mem_objs.mpr ⟨q, nq, hnq, .tail _ (.head _)⟩))
        have hNq3 := hup10 (nq.c, nq.oc) (List.mem_append_left _ (mem_objs.mpr ⟨q, nq, hnq, .tail _ (.tail _ (.head _))⟩))
        have hdq := hA2.dict q nq s' hnq hq
        have hloq : (nq.c == sysModules) = false := by
          have h1 := (List.getElem?_eq_some_iff.mp hq).1
          rw [← hn.len] at h1
          rw [same_c hA2.same (show nd[q]? = some nd[q] by simp) hnq]
          exact hn.lo _ (List.getElem_mem _)
        rw [hadq] at hst
        unfold nodeObj at hNq1
        k_steps
        rename News _ _ _ _ => N13
        by_cases hcase : s' ++ [xx] ∈ P ∨ s' = []
        · have hval := step_val (nd := nd) (ks := ks) hn.nodup hn.root hxk hcase
          k_dflt (refine kdg_notin (knd := PySem.strKind _ _) N13 hNq3 hdq hloq (strKind_is _ _ _ _) true (by rw [hval]; rfl) ?_)
          (try dsimp only [Bool.not_true, Bool.not_false])
          k_steps
          rename News _ _ _ _ => N14
          k_dflt (refine kdg_method (knd := PySem.strKind _ _) N14 hNq3 hdq ?_)
          k_steps
          rename News _ _ _ _ => N15
          k_dflt (refine kdg_get2 (knd := PySem.strKind _ _) N15 hNq3 hdq hloq (strKind_is _ _ _ _) _ hval ?_)
          dsimp only [Option.getD_some]
          rw [hbest]
          k_steps
          (k_dflt (refine' set_slotB ?k1 ?k2 ?k3 ?k4 ?k5 ?k6 ?k7 ?k8 ?k9 ?k10 ?k11 ?k12 ?k13 ?_; (case k1 => k_asm); (case k2 => k_asm); (case k3 => k_asm); (case k4 => k_inst); (case k5 => k_is); (case k6 => k_is); (case k7 => k_is); (case k8 => k_is); (case k9 => k_is); (case k10 => decide); (case k11 => k_slotset); (case k12 => exact rfl); (case k13 => exact hNj1); k_whole); intro h16 F16 N16)
          k_steps
          show TurnEnd _ _ _ _ _ _ _
          rename News _ _ _ _ => N17
          rename Fr _ _ _ _ => F17
          have hnja : (nj.a, nodeObj 71 nj) ∈ objsOf 71 ndB := mem_objs.mpr ⟨jj, nj, hnjj, .head _⟩
          have hDj : D ≠ nj.a := (hDlB _ (List.mem_append_left _ hnja)).symm
          have hcj : c ≠ jj := fun e => by
            rw [← e, hp] at hPj
            have := congrArg List.length (Option.some.inj hPj)
            simp at this
          have hcb : nb.c = nc.c := by
            have h1 := (List.getElem?_eq_some_iff.mp hp).1
            rw [← hn.len] at h1
            rw [same_c hA2.same (show nd[c]? = some nd[c] by simp) hnb, same_c hA.same (show nd[c]? = some nd[c] by simp) hnc]
          have hnbc : (nb.c, nb.oc) ∈ objsOf 71 ndB := mem_objs.mpr ⟨c, nb, hnb, .tail _ (.tail _ (.head _))⟩
          have hturn := objs_turn (n' := { nj with fail := .ref (adOf nd (P.idxOf (fo P (p ++ [xx])))) }) hapB hnjj hup10 rfl
          have hsame := same_set hnjj { nj with fail := .ref (adOf nd (P.idxOf (fo P (p ++ [xx])))) } rfl
          have htake : (kids P p).take (i + 1) = (kids P p).take i ++ [(xx, jj)] := by rw [List.take_add_one, hkid]; rfl
          have el : ((a' ++ b' ++ ((kids P p).take (i + 1)).map (·.2)).map fun i => Value.ref (adOf nd i)) = ((a' ++ b' ++ ((kids P p).take i).map (·.2)).map fun i => Value.ref (adOf nd i)) ++ [Value.ref nj.a] := by
            rw [htake]
            simp only [List.map_append, List.map_cons, List.map_nil, hadj, List.append_assoc]
          have hDI : D ≠ I := by
            have h1 := hoff _ (.head _)
            exact h1
          refine TurnEnd.mk ((D, listOf ((a' ++ b' ++ ((kids P p).take (i + 1)).map (·.2)).map fun i => Value.ref (adOf nd i)).toArray (qn' + 1)) :: (objsOf 71 (ndB.set jj { nj with fail := .ref (adOf nd (P.idxOf (fo P (p ++ [xx])))) }) ++ R0)) F17 N17 (fun y hy => ?_) (fun y hy => ?_) (fun y hy => ?_) ⟨⟨hm1, hm2, hm3⟩, ndB.set jj { nj with fail := .ref (adOf nd (P.idxOf (fo P (p ++ [xx])))) }, qn' + 1, rfl, ?_⟩
          · have hy9 : y ∈ led9 := hled9 ▸ List.mem_append_right _ hy
            refine mem_put (hled10 ▸ mem_put hy9 ?_) ?_
            · rcases hown y hy with e | e
              · rw [e]; exact (hoff _ (.head _)).symm
              · rw [e, ← hcb]; exact hDlB _ (List.mem_append_left _ hnbc)
            · rcases hown y hy with e | e
              · rw [e]; exact (hoff _ (.tail _ (List.mem_append_left _ hnja))).symm
              · rw [e, ← hcb]; exact apart_ne (apart_app.mp hapB).1 hnb hnjj hcj (.tail _ (.tail _ (.head _))) (.head _ : (nj.a, nodeObj 71 nj) ∈ nj.objs 71)
          · rcases List.mem_cons.mp hy with rfl | hy
            · refine mem_put (hled10 ▸ ?_) hDj
              rw [el]
              exact .head _
            · have h1 := hturn y hy
              unfold nodeObj at h1
              dsimp only at h1
              rw [htj] at h1
              exact h1
          · rcases List.mem_cons.mp hy with rfl | hy
            · exact hDI
            · obtain ⟨z, hz, e⟩ := same_addr hsame hy
              rw [← e]; exact hoff z (.tail _ hz)
          · have e : fk P f ((kids P p).take (i + 1)) = fun q => if q = jj then some (P.idxOf (fo P (p ++ [xx]))) else fk P f ((kids P p).take i) q := by
              funext z
              rw [htake]
              unfold fk
              rw [List.map_append]
              by_cases hz : z = jj
              · subst hz
                have hm : z ∈ ((kids P p).take i).map (·.2) ++ [(xx, z)].map (·.2) := List.mem_append_right _ (.head _)
                rw [if_pos hm, if_pos rfl, List.getD_eq_getElem?_getD, hPj]; rfl
              · rw [if_neg hz]
                have : (z ∈ ((kids P p).take i).map (·.2) ++ [(xx, jj)].map (·.2)) ↔ z ∈ ((kids P p).take i).map (·.2) := by
                  rw [List.mem_append]
                  constructor
                  · rintro (h | h)
                    · exact h
                    · exact absurd (List.mem_singleton.mp h) hz
                  · exact .inl
                simp only [this]
            rw [e]
            exact hA2.setFail hnjj
        · have hval : valueAt (kvsR nd P (ex1 P ks) s') xx = none := valueR_none (fun e => hcase (.inr e)) (fun h => hcase (.inl h))
          have hs' : s' ≠ [] := fun e => hcase (.inr e)
          have hfq : nq.fail = Value.ref (adOf nd (P.idxOf (fo P s'))) := by
            rw [hA2.fail q nq hnq]
            have : fk P f ((kids P p).take i) q = some (P.idxOf (fo P s')) := by
              unfold fk
              rw [if_neg]
              · exact hB'.low q s' hq hs' hsd
              · intro hx'
                obtain ⟨⟨x, j⟩, hx, e⟩ := List.mem_map.mp hx'
                have h1 := kids_mem (List.mem_of_mem_take hx)
                dsimp only at e
                rw [e, hq] at h1
                have := congrArg List.length (Option.some.inj h1)
                simp at this
                omega
            rw [this]; rfl
          rw [hfq] at hNq1
          k_dflt (refine kdg_notin (knd := PySem.strKind _ _) N13 hNq3 hdq hloq (strKind_is _ _ _ _) false (by rw [hval]; rfl) ?_)
          (try dsimp only [Bool.not_true, Bool.not_false])
          k_steps
          rename Fr _ _ _ _ => F14
          rename News _ _ _ _ => N14
          refine WhileStep.intro F14 N14 (n' := (fo P s').length) (fo_lt hs') ⟨⟨hm1, hm2, hm3, hm5⟩, rfl, _, fo P s', idx_get (fo_mem (List.mem_of_getElem? hn.root) s'), rfl, ?_, ?_, rfl⟩
          · rw [← hbest]; exact (best_miss (fun q x hq => by have := hn.closed _ hq; rwa [List.dropLast_concat] at this) (List.mem_of_getElem? hn.root) hs' (fun h => hcase (.inl h))).symm
          · have := fo_lt (P := P) hs'; omega
      · rintro m₃ nx h9 tk9 ⟨⟨hm1, hm2, hm3⟩, ndB, qn', rfl, hA2⟩ F₂ N₂
        have hkl2 : (kvsOf nd P p).length = (kids P p).length := by unfold kvsOf; rw [List.length_map]
        rw [hkl2, List.take_length] at hA2 N₂
        clear N8 N9 F9 lF8 N7
        k_steps
        have hlt := todo_pop (P := P) hP3 hP20 hp (a' ++ b')
        refine WhileStep.intro (by assumption) (by assumption) (n' := todo P (a' ++ (b' ++ (kids P p).map (·.2)))) (by rw [← List.append_assoc]; exact hlt) ⟨⟨hm1, hm2⟩, ndB, qn', fk P f (kids P p), d', a', b' ++ (kids P p).map (·.2), by rw [← List.append_assoc], hA2, hB'.pop hn.nodup hp hn.root, rfl, ?_⟩
        rw [← List.append_assoc]
        exact Nat.le_trans (Nat.le_of_lt hlt) hz4
end
end Mine
end
section
local macro_rules | `(tactic| walk_at "none such") => `(tactic| fail "none such")
theorem Mine.switch_S31 : True := by
  w_top off
  trivial
open Lean Elab Tactic Meta PySem PySem.W PySem.Calls PyProof.Rows
set_option pp.deepTerms false
set_option pp.maxSteps 800
set_option pp.deepTerms.threshold 5
namespace Mine
local macro_rules | `(tactic| walk_at "exec For Name Name cons nil") => `(tactic| (refine Mine.Stop.on ?_))
local macro_rules | `(tactic| walk_at "exec For Name Call cons nil") => `(tactic| (refine Mine.Stop.on ?_))
local macro_rules | `(tactic| walk_at "exec Assign cons ListComp") => `(tactic| (refine Mine.Stop.on ?_))
local macro_rules | `(tactic| walk_at "LeaveC") => `(tactic| fail "here")
local macro_rules | `(tactic| k_room) => `(tactic| first | ktr_room | ((simp only [Mine.mark_depth, depth_under_make, depth_under_kw, depth_in1, depth_deeper, depth_caller]); (try dsimp only [ktrTop]); (try simp only [recursionLimit] at *); omega))
local macro_rules | `(tactic| k_all) => `(tactic| first | assumption | exact Mine.offLt (by assumption) | exact Mine.offLt2 (by assumption) (by assumption) | (refine List.forall_mem_append.mpr ⟨?a, ?b⟩; (case a => k_all); (case b => k_all)))
local macro_rules | `(tactic| walk_at "setItem ref str") => `(tactic| (k_here; k_dflt (refine' kda_setB (knd := PySem.strKind _ _) ?F ?N ?hm ?d (strKind_is _ _ _ _) ?z ?_; (case F => k_asm); (case N => k_asm); (case hm => k_mem); (case d => k_asm); (case z => k_asm)); intro h' o' F' N' hd'))
local macro_rules | `(tactic| walk_at "compareOp Is str ref") => `(tactic| (k_here; refine wpAny_is_other (by rfl) (by intro x; cases x) ?_))
local macro_rules | `(tactic| k_mem) => `(tactic| assumption)
local macro_rules | `(tactic| walk_at "eval Name") => `(tactic| (k_here; (with_reducible show wpAny _ _ (eval (Expr.Name _ _) (envOf _ _ _ _ _)) _ _ _); k_dflt (refine' ld ?k1 ?k2 ?_; (case k1 => k_asm); (case k2 => first | exact rfl | assumption); k_whole)))
local macro_rules | `(tactic| walk_at "eval Name") => `(tactic| (k_here; (with_reducible show wpAny _ _ (eval (Expr.Name _ _) (envOfC _ _ _ _ _)) _ _ _); k_dflt (refine' nameX_L ?F ?v ?_ ?a ?b; (case F => k_asm); (case a => rfl); (case b => rfl); (case v => first | rfl | assumption); k_whole)))
local macro_rules | `(tactic| walk_at "call builtin:len") => `(tactic| (k_here; (with_reducible show wpAny _ _ (call (Value.builtin "len") [Value.ref _]) _ _ _); k_dflt (first | refine len_L (by k_asm) (by k_mem) (by omega) ?_ | refine len_T (by k_asm) (by k_mem) (by omega) ?_)))
local macro_rules | `(tactic| walk_at "subscriptTail") => `(tactic| (k_here; (with_reducible show wpAny _ _ (subscriptTail _ (PySem.Expr.Slice _ _ _ _) (Value.ref _) (Value.ref _)) _ _ _); refine Mine.Stop.on ?_))
local macro_rules | `(tactic| walk_at "compareOp Eq ref ref") => `(tactic| (refine Mine.Stop.on ?_))
local macro_rules | `(tactic| walk_at "compareOp NotEq ref ref") => `(tactic| (refine Mine.Stop.on ?_))
local macro_rules | `(tactic| walk_at "call type:list") => `(tactic| (k_here; k_dflt (refine list_of_tuple (by k_asm) (by k_asm) (by k_mem) (by omega) ?_); intro D' c' h' F' N' l1; (try k_sweep)))
local macro_rules | `(tactic| walk_at "call ref") => `(tactic| ((with_reducible show wpAny _ _ (call (Value.ref 291) _) _ _ _); refine Mine.Stop.on ?_))
local macro_rules | `(tactic| walk_at "exec While") => `(tactic| (refine Mine.Stop.on ?_))
local macro_rules | `(tactic| walk_at "compareOp IsNot ref ref") => `(tactic| (refine Mine.Stop.on ?_))
local macro_rules | `(tactic| walk_at "loadName") => `(tactic| (k_here; k_dflt (refine' ldn ?k1 ?k2 ?_; (case k1 => k_asm); (case k2 => first | exact rfl | assumption); k_whole)))
/-! iter: its text by its place; what it gives out -/
def bodyOf : Stmt → List Stmt
  | .FunctionDef _ _ b .. => b
  | .ClassDef _ _ _ b .. => b
  | .For _ _ b .. => b
  | _ => []
def scopeOf : Stmt → Scope
  | .FunctionDef _ _ _ _ _ _ sc .. => sc
  | _ => default
def passS : Stmt := .Pass ⟨0, 0, 0, 0⟩
def iterStmt : Stmt := (bodyOf (PySem.Challenge.pw_ew0015_03.main.body.getD 6 passS)).getD 10 passS
def iterBody : List Stmt := bodyOf iterStmt
def iterScope : Scope := scopeOf iterStmt
abbrev iterEnv (C : Addr) : Env := envOf "Trie.iter" iterScope C 160 (.ref 159)
/-- the way of a node's fails: its path, its fail's path, .. the root -/
def chain (P : List (List Str)) : Nat → List Str → List (List Str)
  | 0, _ => []
  | k + 1, q => q :: (if q = [] then [] else chain P k (fo P q))
def toldAt (P : List (List Str)) (O : List (Option (Str × Str))) (q : List Str) : Option (Str × Str) := (O[P.idxOf q]?).join
def hits (P : List (List Str)) (O : List (Option (Str × Str))) (q : List Str) : List (Str × Str) := (chain P (q.length + 1) q).filterMap (toldAt P O)
def tokOf (x : Str) (e : Int) (n : Nat) (v : Option Str) : TokD := ⟨e - n + 1, e, Txt.slice x (some (e - n + 1)) (some (e + 1)), v⟩
def iterStep (P : List (List Str)) (O : List (Option (Str × Str))) (ks : List Str) (u sp : Bool) (x : Str) (σ : List Str) (e : Int) (t : Str) : List TokD × List Str :=
  if sp = false ∧ nonblank t = false then ([], σ)
  else if t ∈ ks then
    (if hits P O (best P σ t) = [] then (if u then [tokOf x (e + t.length) t.length none] else []) else (hits P O (best P σ t)).map fun m => tokOf x (e + t.length) m.1.length (some m.2), best P σ t)
  else (if u then [tokOf x (e + t.length) t.length none] else [], [])
def iterRun (P : List (List Str)) (O : List (Option (Str × Str))) (ks : List Str) (u sp : Bool) (x : Str) : List Str → List Str → Int → List TokD
  | [], _, _ => []
  | t :: r, σ, e => (iterStep P O ks u sp x σ e t).1 ++ iterRun P O ks u sp x r (iterStep P O ks u sp x σ e t).2 (e + t.length)
def iterOut (P : List (List Str)) (O : List (Option (Str × Str))) (ks : List Str) (u sp : Bool) (x : Str) : List TokD := iterRun P O ks u sp x (splitTok (Txt.lower x)) [] (-1)
/-- between two turns of the loop over the tokens -/
structure ItI (g : Heap) (C S I l : Addr) (news : List (Addr × Obj)) (vs : List Value) (nl : Nat) (H : TrieHd) (nd : List Nd) (P : List (List Str)) (x : Str) (t : Tok) (u sp : Bool) (i : Nat) (σ : List Str) (e : Int) (s₀ s : Shared) : Prop where
  ex : ∃ m led oI q, Fr g C s.heap m ∧ News g C s.heap led ∧ At0 g C S I led s₀.heap ∧ (∀ p ∈ news, p ∈ led) ∧ (∃ oS, (S, oS) ∈ led) ∧ (l, listOf vs.toArray nl) ∈ led ∧ (I, oI) ∈ led ∧ s.heap.IsListIter I l i ∧
    (m "self" = some (.ref H.tr) ∧ m "tokens_string" = some (.str x t) ∧ m "include_unmatched" = some (.bool u) ∧ m "include_space" = some (.bool sp)) ∧ P[q]? = some σ ∧ m "state" = some (.ref (adOf nd q)) ∧ ∃ te, m "end_pos" = some (.int e te)
  since : ∃ h' tk, s = { s₀ with heap := h', toks := tk }
theorem At0.but {g : Heap} {C S I : Addr} {led : List (Addr × Obj)} {h₀ : Heap} (x : At0 g C S I led h₀) : At0 g C S I (but I led) h₀ := ⟨x.gk, x.it, fun b o e h1 h2 h3 => mem_but.mpr ⟨x.up b o e h1 h2 h3, h2⟩⟩
theorem At0.turn {g : Heap} {C S I I' : Addr} {led : List (Addr × Obj)} {h₀ : Heap} (x : At0 g C S I led h₀) (h1 : h₀.get? I = none) (h2 : h₀.get? I' = none) : At0 g C S I' led h₀ := ⟨x.gk, fun o e => by (rw [h2] at e; cases e), fun b o e h3 _ h5 => x.up b o e h3 (fun q => by rw [q, h1] at e; cases e) h5⟩
theorem fr_ext {g h h' : Heap} {C I : Addr} {m : Str → Option Value} {led : List (Addr × Obj)} {oI : Obj} (F : Fr g C h m) (N : News g C h led) (hI : (I, oI) ∈ led) (hs : Heap.ExtBut I h h') : Fr g C h' m ∧ News g C h' (but I led) := by
  obtain ⟨h1, h2, h3⟩ := N _ hI
  refine ⟨⟨F.ns.at' fun o e => hs C o (Ne.symm h2) e, fun b o e => hs b o (fun q => by rw [q] at e; rw [h3] at e; cases e) (F.keep b o e), F.above⟩, fun p hp => ?_⟩
  obtain ⟨h4, h5⟩ := mem_but.mp hp
  exact ⟨hs _ _ h5 (N p h4).1, (N p h4).2⟩
theorem seg_mid {M : Model} {A : Around} {R : GenEnd} {Y : Protocol} {n : Nat} {s₀ : Shared} {c : Code} {fs : List Frame} {s : Shared} {K : Flow → Sem Fin} {H : Value → Sem Fin} {gd : Bool → Bool} {lv : List Value → List Value} {t : Sem Flow} (Mid : Flow → Shared → Prop)
    (h : wpAny M (A.over c fs) t Mid (fun _ _ => False) s) (k : ∀ f s', Mid f s' → Seg M A R Y n s₀ c (K f) fs s') : Seg M A R Y n s₀ c (t.wrap K H gd lv) fs s := seg_plain (wpAny_mono h k fun _ _ x => x)
theorem drop_at {α : Type} {l : List α} {i : Nat} {y : α} (h : l[i]? = some y) : l.drop i = y :: l.drop (i + 1) := by
  obtain ⟨h1, h2⟩ := List.getElem?_eq_some_iff.mp h
  rw [List.drop_eq_getElem_cons h1, h2]
theorem tot_next {l : List Str} {i : Nat} {y : Str} (h : l[i]? = some y) : tot (l.take (i + 1)) = tot (l.take i) + y.length := by
  rw [List.take_add_one, h]
  simp [tot]
def LocI (H : TrieHd) (x : Str) (t : Tok) (u sp : Bool) (y : Str) (ty : Tok) (e' : Int) (m : Str → Option Value) : Prop :=
  (m "self" = some (.ref H.tr) ∧ m "tokens_string" = some (.str x t) ∧ m "include_unmatched" = some (.bool u) ∧ m "include_space" = some (.bool sp)) ∧ m "token_string" = some (.str y ty) ∧ ∃ te, m "end_pos" = some (.int e' te)
/-- woken again -/
theorem resumeG {g h h' : Heap} {C S I : Addr} {m : Str → Option Value} {led : List (Addr × Obj)} {oI : Obj} (F : Fr g C h m) (N : News g C h led) (hI : (I, oI) ∈ led) (hc : oI.cls = .type "list_iterator") (hIS : S < I) (hCS : C < S) (hgS : g.get? S = none)
    (hk : ∀ b o, b ≠ S → h.get? b = some o → h'.get? b = some o) (hS : ∃ o, h'.get? S = some o) :
    ∃ led', Fr g C h' m ∧ News g C h' led' ∧ At0 g C S I led' h' ∧ (∀ p ∈ led, p.1 ≠ S → p ∈ led') ∧ ∃ oS, (S, oS) ∈ led' := by
  have hgb : ∀ b o, g.get? b = some o → b ≠ S := fun b o e q => by rw [q, hgS] at e; cases e
  have F' : Fr g C h' m := ⟨F.ns.at' fun o e => hk C o (Nat.ne_of_lt hCS) e, fun b o e => hk b o (hgb b o e) (F.keep b o e), F.above⟩
  obtain ⟨i1, i2, i3⟩ := N _ hI
  have hI' : h'.get? I = some oI := hk _ _ (Nat.ne_of_gt hIS) i1
  obtain ⟨T, NN⟩ := at0_start (S := S) (I := I) F' (fun o e => by rw [hI'] at e; cases e; exact ⟨hIS, hc⟩)
  obtain ⟨oS, hS⟩ := hS
  refine ⟨(I, oI) :: restL g C I h', F', fun p hp => ?_, T.mono fun p hp => .tail _ hp, fun p hp hne => ?_, oS, .tail _ (mem_restL.mpr ⟨Nat.ne_of_gt hCS, Nat.ne_of_lt hIS, hgS, hS⟩)⟩
  · rcases List.mem_cons.mp hp with rfl | hp
    · exact ⟨hI', i2, i3⟩
    · exact NN p hp
  · obtain ⟨p1, p2, p3⟩ := N p hp
    by_cases hpI : p.1 = I
    · have e : p = (I, oI) := Prod.ext hpI (by rw [hpI, i1] at p1; exact (Option.some.inj p1).symm)
      rw [e]; exact .head _
    · exact .tail _ (mem_restL.mpr ⟨p2, hpI, p3, hk _ _ hne p1⟩)
theorem chain_fuel {P : List (List Str)} : ∀ (k : Nat) (q : List Str), q.length < k → chain P k q = chain P (q.length + 1) q
  | 0, _, h => absurd h (Nat.not_lt_zero _)
  | k + 1, q, h => by
    show q :: (if q = [] then [] else chain P k (fo P q)) = q :: (if q = [] then [] else chain P q.length (fo P q))
    by_cases hq : q = []
    · rw [if_pos hq, if_pos hq]
    · have hl := fo_lt (P := P) hq
      rw [if_neg hq, if_neg hq, chain_fuel k (fo P q) (by omega), ← chain_fuel q.length (fo P q) hl]
  termination_by k => k
theorem hits_eq {P : List (List Str)} {O : List (Option (Str × Str))} (q : List Str) : hits P O q = (toldAt P O q).toList ++ (if q = [] then [] else hits P O (fo P q)) := by
  have e : chain P (q.length + 1) q = q :: (if q = [] then [] else chain P ((fo P q).length + 1) (fo P q)) := by
    show q :: (if q = [] then [] else chain P q.length (fo P q)) = _
    by_cases hq : q = []
    · rw [if_pos hq, if_pos hq]
    · rw [if_neg hq, if_neg hq, chain_fuel q.length (fo P q) (fo_lt hq)]
  unfold hits
  rw [e]
  by_cases hq : q = []
  · rw [if_pos hq, if_pos hq]
    cases h : toldAt P O q <;> simp [h]
  · rw [if_neg hq, if_neg hq]
    cases h : toldAt P O q <;> simp [h]
def hitsO (P : List (List Str)) (O : List (Option (Str × Str))) : Option (List Str) → List (Str × Str)
  | none => []
  | some p => hits P O p
/-- what is still to be given out of one word -/
def finO (u : Bool) (x : Str) (e' : Int) (k : Nat) (b : Bool) (hs : List (Str × Str)) : List TokD := hs.map (fun m => tokOf x e' m.1.length (some m.2)) ++ (if b = false ∧ hs = [] ∧ u = true then [tokOf x e' k none] else [])
def nextO (P : List (List Str)) (p : List Str) : Option (List Str) := if p = [] then none else some (fo P p)
theorem hits_next {P : List (List Str)} {O : List (Option (Str × Str))} (p : List Str) : hitsO P O (some p) = (toldAt P O p).toList ++ hitsO P O (nextO P p) := by
  show hits P O p = _
  rw [hits_eq]
  unfold nextO
  by_cases hp : p = []
  · rw [if_pos hp, if_pos hp]; rfl
  · rw [if_neg hp, if_neg hp]; rfl
theorem step_known {P : List (List Str)} {O : List (Option (Str × Str))} {ks : List Str} {u sp : Bool} {x : Str} {σ : List Str} {e : Int} {y : Str} (h1 : ¬ (sp = false ∧ nonblank y = false)) (h2 : y ∈ ks) :
    iterStep P O ks u sp x σ e y = (finO u x (e + y.length) y.length false (hitsO P O (some (best P σ y))), best P σ y) := by
  unfold iterStep finO
  rw [if_neg h1, if_pos h2]
  show (_, _) = ((hits P O (best P σ y)).map _ ++ _, _)
  by_cases h : hits P O (best P σ y) = []
  · rw [if_pos h]
    show (_, _) = (List.map _ (hits P O (best P σ y)) ++ (if false = false ∧ hits P O (best P σ y) = [] ∧ u = true then _ else _), _)
    rw [h]
    cases u <;> simp
  · rw [if_neg h]
    show (_, _) = (List.map _ (hits P O (best P σ y)) ++ (if false = false ∧ hits P O (best P σ y) = [] ∧ u = true then _ else _), _)
    rw [if_neg (fun q => h q.2.1), List.append_nil]
theorem finO_cons {u : Bool} {x : Str} {e' : Int} {k : Nat} {b : Bool} {m : Str × Str} {hs : List (Str × Str)} : finO u x e' k b (m :: hs) = tokOf x e' m.1.length (some m.2) :: finO u x e' k true hs := by
  unfold finO
  rw [if_neg (by simp), if_neg (by simp), List.map_cons]; simp
theorem best_mem {P : List (List Str)} (h0 : [] ∈ P) (s : List Str) (x : Str) : best P s x ∈ P := by
  unfold best
  cases h : (ends s).find? fun q => decide (q ++ [x] ∈ P) with
  | none => exact h0
  | some q => have := List.find?_some h; simpa using this
/-- between two turns of the way of the fails -/
structure WhI (nilA : Addr) (g : Heap) (C S I l : Addr) (oI : Obj) (news : List (Addr × Obj)) (vs : List Value) (nl : Nat) (H : TrieHd) (nd : List Nd) (P : List (List Str)) (x : Str) (t : Tok) (u sp : Bool) (y : Str) (ty : Tok) (e' : Int) (σ' : List Str) (op : Option (List Str)) (b : Bool) (s₀ s : Shared) : Prop where
  ex : ∃ m led, Fr g C s.heap m ∧ News g C s.heap led ∧ At0 g C S I led s₀.heap ∧ (∀ p ∈ news, p ∈ led) ∧ (∃ oS, (S, oS) ∈ led) ∧ (l, listOf vs.toArray nl) ∈ led ∧ (I, oI) ∈ led ∧ LocI H x t u sp y ty e' m ∧ m "yielded" = some (.bool b) ∧
    m "state" = some (.ref (adOf nd (P.idxOf σ'))) ∧ (op = none → m "match" = some (.ref nilA)) ∧ ∀ p, op = some p → p ∈ P ∧ m "match" = some (.ref (adOf nd (P.idxOf p)))
  since : ∃ h' tk, s = { s₀ with heap := h', toks := tk }
def Mid2 (g : Heap) (C : Addr) (led : List (Addr × Obj)) (H : TrieHd) (x : Str) (t : Tok) (u sp : Bool) (y : Str) (ty : Tok) (e' : Int) (st : Value) (s₀ : Shared) (f : Flow) (s' : Shared) : Prop :=
  ((f = .cont ∧ sp = false ∧ nonblank y = false) ∨ (f = .next ∧ ¬ (sp = false ∧ nonblank y = false))) ∧ ∃ h' tk m', s' = { s₀ with heap := h', toks := tk } ∧ Fr g C h' m' ∧ News g C h' led ∧ LocI H x t u sp y ty e' m' ∧ m' "state" = some st
section
variable {prog : Program} {w : World} {dp un : Nat} {gd : Option (List Code)} {cn : Str} {cs : Scope} {a : Addr} {ccd : Value} {cl : List (Str × Addr)} {outer : List Env} {base h₀ : Heap} {L : Addr} {m : Str → Option Value} {news : List (Addr × Obj)} {s : Shared} {Q E : Value → Shared → Prop}
set_option maxRecDepth 100000
set_option maxHeartbeats 1000000
set_option maxHeartbeats 4000000
theorem iter_goes {x : Str} {t : Tok} {u sp : Bool} {H : TrieHd} {nd ndA : List Nd} {P : List (List Str)} {O : List (Option (Str × Str))} {ks : List Str} {rest : List (Addr × Obj)} {f : Nat → Option Nat} {C ag : Addr} {oC : Obj} {mC : Str → Option Value}
   (hd : dp + 60 < recursionLimit) (hu : un + 400 < cLine) (hkcs : cs.kind = .function) (hx : x.length ≤ 1000) (hx0 : x.length ≠ 0) (ha : x.cps.all (· < 128) = true)
   (hNs : ∀ h : Heap, h.get? C = some oC → h.Ns C mC) (hm1 : mC "self" = some (.ref H.tr)) (hm2 : mC "tokens_string" = some (.str x t)) (hm3 : mC "include_unmatched" = some (.bool u)) (hm4 : mC "include_space" = some (.bool sp))
   (hltC : ∀ p ∈ news, p.1 < C) (hLC : L < C) (hCa : C < ag)
   (hup : ∀ p ∈ hdObjs w.params 169 true H (adOf nd 0) ++ (objsOf 71 ndA ++ rest), p ∈ news) (hn : NodesOk prog w nd P) (hO : Outs 44 nd O rest) (hks : H.okd.IsDictOf (strKind prog w) (kvKnown ks)) (hlok : (H.kd == sysModules) = false)
   (hA : AutI prog w 44 nd ndA P (ex1 P ks) f) (hOl : ∀ (i : Nat) (ms ov : Str), O[i]? = some (some (ms, ov)) → ms.length ≤ 1000) (hf0 : f 0 = none) (hf : ∀ (i : Nat) (p : List Str), P[i]? = some p → p ≠ [] → f i = some (P.idxOf (fo P p))) :
   GenFor prog w (ktrTop dp un gd cn cs L a ccd cl outer).in1.in1.in1 (Mine.hd.heap_39 w.params) cs outer base L 271 news (.fresh (.func iterBody (iterEnv C))) C ag oC (iterOut P O ks u sp x) := by
  rintro h₁ m₁ led h s'' X hnl hC haS hk ⟨oS, hoS⟩
  refine ⟨rfl, ?_⟩
  obtain ⟨g, BG, DG, FG, hgn⟩ := groundG (A := ktrTop dp un gd cn cs L a ccd cl outer) (news := news) X rfl rfl hkcs hnl hLC (hNs h (X.N _ hC).1)
  obtain ⟨⟨A0, B0⟩, F0, XB, N0, ⟨p0, loose0, mean0, mg0, mb0, TB⟩, D0, hk0⟩ := X
  have hlth : ∀ b o, h.get? b = some o → b ≠ h.objs.size := fun b o e => Nat.ne_of_lt (Heap.lt_size e)
  have hhS : h.get? h.objs.size = none := by
    cases q : h.get? h.objs.size with
    | none => rfl
    | some o => exact absurd (Heap.lt_size q) (Nat.lt_irrefl _)
  have hCS : C < h.objs.size := Nat.lt_trans hCa haS
  generalize hSS : h.objs.size = S at *
  have hgS : g.get? S = none := by
    cases q : g.get? S with
    | none => rfl
    | some o => rw [FG.keep S o q] at hhS; cases hhS
  have F1 : Fr g C s''.heap mC := ⟨FG.ns.at' (fun o e => hk C o (hlth C o e) e), fun b o e => hk b o (hlth b o (FG.keep b o e)) (FG.keep b o e), FG.above⟩
  obtain ⟨T1, N1⟩ := at0_start (S := S) (I := s''.heap.objs.size) F1 (fun o e => absurd (Heap.lt_size e) (Nat.lt_irrefl _))
  have hin : ∀ p ∈ news, p ∈ restL g C s''.heap.objs.size s''.heap := fun p hp => by
    have h1 := (N0 p (hnl p hp)).1
    have h2 := hk _ _ (hlth _ _ h1) h1
    exact mem_restL.mpr ⟨Nat.ne_of_lt (hltC p hp), Nat.ne_of_lt (Heap.lt_size h2), hgn p hp, h2⟩
  have hSin : (S, oS) ∈ restL g C s''.heap.objs.size s''.heap := mem_restL.mpr ⟨Nat.ne_of_gt hCS, Nat.ne_of_lt (Heap.lt_size hoS), hgS, hoS⟩
  have hI0 : s''.heap.get? s''.heap.objs.size = none := by
    cases q : s''.heap.get? s''.heap.objs.size with
    | none => rfl
    | some o => exact absurd (Heap.lt_size q) (Nat.lt_irrefl _)
  generalize hI0s : s''.heap.objs.size = I0 at *
  generalize hled1 : restL g C I0 s''.heap = led1 at *
  clear F0 N0 D0 B0 FG hk hnl hoS hled1 hI0s haS hC
  have hupN : ∀ p ∈ hdObjs w.params 169 true H (adOf nd 0) ++ (objsOf 71 ndA ++ rest), p ∈ led1 := fun p hp => hin p (hup p hp)
  have XG : (Mine.hd.heap_39 w.params).In g := XB.keeps BG.stays
  have TG := TB.keeps BG.stays
  refine seg_start ?_
  with_unfolding_all show Seg _ _ _ _ _ _ _ ((execs (Stmt.If _ _ _ _ :: Stmt.Assign _ _ _ :: Stmt.Assign _ _ _ :: Stmt.Assign _ _ _ :: Stmt.For (PySem.Expr.Name _ _) _ _ _ _ :: []) (envOf _ _ _ _ _)).wrap _ _ _ _) _ _
  refine seg_cons (seg_plain ?_)
  rw [over_func]
  k_steps
  rotate_left
  · exfalso; omega
  dsimp only [kNext]
  refine seg_cons (seg_plain ?_)
  rw [over_func]
  k_steps
  refine Stop.off ?_
  k_dflt (refine get_spec ⟨⟨_, BG⟩, by assumption, XB, by assumption, ⟨_, _, _, _, _, TB⟩, DG, rfl⟩ ?_ ?_ hx ha ?_)
  · show dp + 1 + 20 < recursionLimit; omega
  · show un + 1 + 1 + 1 + 3 + 200 < cLine; omega
  intro h2 tk2 l vs nl C2 hltl hvs
  have F2 := C2.F
  have N2 := C2.N
  have T2 := T1.mono (led' := (l, listOf vs.toArray nl) :: led1) fun p hp => .tail _ hp
  have hnews2 : ∀ p ∈ news, p ∈ (l, listOf vs.toArray nl) :: led1 := fun p hp => .tail _ (hin p hp)
  have hS2 : (S, oS) ∈ (l, listOf vs.toArray nl) :: led1 := .tail _ hSin
  have hl2 : (l, listOf vs.toArray nl) ∈ (l, listOf vs.toArray nl) :: led1 := .head _
  have hlS : S < l := hltl _ hSin
  generalize hled2 : (l, listOf vs.toArray nl) :: led1 = led2 at *
  have hA1 := hnews2 _ (hup (H.tr, { cls := .ref 169, dict := some H.dx, data := .plain }) (.head _))
  have hB1 := hnews2 _ (hup (H.dx, dictOf (hdEnts w.params true H (adOf nd 0)) 3) (.tail _ (.head _)))
  unfold hdEnts at hB1
  clear F1 N1 C2 T1 hin hSin hled2 hltl
  k_steps
  dsimp only [kNext]
  refine seg_cons (seg_plain ?_)
  rw [over_func]
  k_steps
  dsimp only [kNext]
  refine seg_cons (seg_plain ?_)
  rw [over_func]
  k_steps
  dsimp only [kNext]
  refine seg_cons (seg_For1 ?_)
  rw [over_func]
  k_steps
  rename Fr _ _ _ _ => F3
  rename News _ _ _ _ => N3
  rename_i h3
  refine wpAny_pyIter_list (PySem.IsL.isList (n := nl) (N3 _ hl2).1) ?_
  intro pp
  have hsize : ∀ b o, s''.heap.get? b = some o → b < h3.objs.size := fun b o e => by
    by_cases hb : b = C
    · rw [hb]; exact F3.ns.lt
    · cases q : g.get? b with
      | none => exact Heap.lt_size (N3 _ (T2.up b o e hb (fun q => by rw [q, hI0] at e; cases e) q)).1
      | some o' => exact Heap.lt_size (F3.keep b o' q)
  have hInew : s''.heap.get? h3.objs.size = none := by
    cases q : s''.heap.get? h3.objs.size with
    | none => rfl
    | some o => exact absurd (hsize _ o q) (Nat.lt_irrefl _)
  refine seg_ind (fun i => (splitTok (Txt.lower x)).length - i) (fun i n s₀ s => ∃ σ e done, iterOut P O ks u sp x = done ++ iterRun P O ks u sp x ((splitTok (Txt.lower x)).drop i) σ e ∧ n = (iterRun P O ks u sp x ((splitTok (Txt.lower x)).drop i) σ e).length ∧ e + 1 = tot ((splitTok (Txt.lower x)).take i) ∧ i ≤ (splitTok (Txt.lower x)).length ∧
    ItI g C S h3.objs.size l news vs nl H nd P x t u sp i σ e s₀ s) ?_ 0 _ _ _ ?_
  rotate_left
  · refine ⟨[], -1, [], rfl, rfl, rfl, Nat.zero_le _, ⟨_, (h3.objs.size, itObj l) :: led2, itObj l, 0, F3.keeps fun b o e => Heap.get?_push_of_some _ e, ?_, (T2.turn hI0 hInew).mono (fun p hp => .tail _ hp), fun p hp => .tail _ (hnews2 p hp), ⟨oS, .tail _ hS2⟩, .tail _ hl2, .head _, ⟨_, Heap.get?_push_size _ rfl, rfl, rfl⟩, ⟨hm1, hm2, hm3, hm4⟩, hn.root, rfl, _, rfl⟩, ⟨_, _, rfl⟩⟩
    intro p hp
    rcases List.mem_cons.mp hp with rfl | hp
    · refine ⟨Heap.get?_push_size _ rfl, Nat.ne_of_gt F3.ns.lt, ?_⟩
      cases q : g.get? h3.objs.size with
      | none => rfl
      | some o => exact absurd (Heap.lt_size (F3.keep _ o q)) (Nat.lt_irrefl _)
    · exact ⟨Heap.get?_push_of_some _ (N3 p hp).1, (N3 p hp).2⟩
  have hIS : S < h3.objs.size := Heap.lt_size (N3 _ hS2).1
  dsimp only
  generalize h3.objs.size = I at *
  clear F3 N3 T2 hnews2 hS2 hl2 hA1 hB1 hI0 hInew hsize hm1 hm2 hm3 hm4 hNs
  rintro i ih n s₀ s ⟨σ, e, done, hout, rfl, he, hi, ⟨⟨m, led, oI, q, F, N, T, hnw, ⟨oS', hS⟩, hl, hI, hit, ⟨m1, m2, m3, m4⟩, hq, m5, te, m6⟩, h', tk, rfl⟩⟩
  refine seg_forLoop1 ?_
  rw [over_for]
  have hvl := strs_len hvs
  by_cases hlt : i < (splitTok (Txt.lower x)).length
  rotate_left
  · have hvi : vs.toArray[i]? = none := by rw [List.getElem?_toArray]; exact List.getElem?_eq_none (by rw [hvl]; omega)
    refine wpAny_pyNext_list_end rfl hit (PySem.IsL.isList (n := nl) (N _ hl).1) hvi fun h₂ hx₂ => ?_
    refine seg_back ?_
    obtain ⟨F₂, N₂⟩ := fr_ext F N hI hx₂
    refine seg_end (.ok (.ret .none)) ⟨rfl, ?_, _, _, rfl, T.but.keep F₂ N₂⟩
    rw [List.drop_eq_nil_of_le (by omega)]; rfl
  obtain ⟨v, hv⟩ : ∃ v, vs[i]? = some v := ⟨vs[i]'(by rw [hvl]; exact hlt), by simp [hvl, hlt]⟩
  obtain ⟨y, ty, hy, rfl⟩ := strs_at hvs hv
  have hyl : y.length ≤ 1000 := by have := mem_le_tot (List.mem_of_getElem? hy); have := splitAt_tot (Txt.lower x) (Txt.lower x).cps.size; have := (lower_len ha).1; unfold splitTok at *; omega
  have hdrop := drop_at hy
  have htot := tot_next hy
  refine wpAny_pyNext_list_item hit (PySem.IsL.isList (n := nl) (N _ hl).1) (by simpa using hv) fun h₂ hit₂ hs₂ => ?_
  dsimp only
  obtain ⟨F₂, N₂⟩ := fr_ext F N hI hs₂.extBut
  obtain ⟨oI₂, hoI₂, hcI, hdI⟩ := id hit₂
  have hIC := (N _ hI).2
  have N₃ : News g C h₂ ((I, oI₂) :: but I led) := fun p hp => by
    rcases List.mem_cons.mp hp with rfl | hp
    · exact ⟨hoI₂, hIC⟩
    · exact N₂ p hp
  have T₃ := T.but.mono (led' := (I, oI₂) :: but I led) fun p hp => .tail _ hp
  have hnI : ∀ p ∈ news, p.1 ≠ I := fun p hp => Nat.ne_of_lt (Nat.lt_trans (Nat.lt_trans (hltC p hp) hCS) hIS)
  have hnw₃ : ∀ p ∈ news, p ∈ (I, oI₂) :: but I led := fun p hp => mem_put (hnw p hp) (hnI p hp)
  have hlI : l ≠ I := fun q => by
    have h4 := (N₃ _ (.head _)).1
    have h5 := (N _ hl).1
    dsimp only at h4 h5
    rw [q, (N _ hI).1] at h5
    cases h5
    obtain ⟨_, h6, h7, _⟩ := hit
    rw [(N _ hI).1] at h6; cases h6
    injection h7 with h8
    exact absurd h8 (by decide)
  have hl₃ : (l, listOf vs.toArray nl) ∈ (I, oI₂) :: but I led := mem_put hl hlI
  have hS₃ : (S, oS') ∈ (I, oI₂) :: but I led := mem_put hS (Nat.ne_of_lt hIS)
  have hI₃ : (I, oI₂) ∈ (I, oI₂) :: but I led := .head _
  generalize hled3 : (I, oI₂) :: but I led = led3 at *
  clear F N T hnw hl hS hI hit N₂ hs₂ hled3
  have hA1 := hnw₃ _ (hup (H.tr, { cls := .ref 169, dict := some H.dx, data := .plain }) (.head _))
  have hB1 := hnw₃ _ (hup (H.dx, dictOf (hdEnts w.params true H (adOf nd 0)) 3) (.tail _ (.head _)))
  have hK1 := hnw₃ _ (hup (H.kd, H.okd) (.tail _ (.tail _ (.head _))))
  unfold hdEnts at hB1
  have close := fun (σ' : List Str) (s₀' s' : Shared) (done' : List TokD) (h1 : iterOut P O ks u sp x = done' ++ iterRun P O ks u sp x ((splitTok (Txt.lower x)).drop (i + 1)) σ' (e + y.length)) (h2 : ItI g C S I l news vs nl H nd P x t u sp (i + 1) σ' (e + y.length) s₀' s') =>
    ih (i + 1) _ s₀' s' (by omega) ⟨σ', e + y.length, done', h1, rfl, by rw [htot]; push_cast; omega, hlt, h2⟩
  k_steps
  refine seg_cons (seg_plain ?_)
  rw [over_for]
  k_steps
  dsimp only [kNext]
  refine seg_cons (seg_mid (Mid2 g C led3 H x t u sp y ty (e + y.length) (.ref (adOf nd q)) s₀) ?_ ?_)
  · rw [over_for]
    k_steps
    · rename Fr _ _ _ _ => Fx
      rename News _ _ _ _ => Nx
      refine ⟨.inr ⟨rfl, fun h => ?_⟩, _, _, _, rfl, Fx, Nx, ⟨⟨m1, m2, m3, m4⟩, rfl, _, rfl⟩, m5⟩
      have h1 : sp = true := by assumption
      rw [h.1] at h1; cases h1
    · rename Fr _ _ _ _ => Fx
      rename News _ _ _ _ => Nx
      refine ⟨.inr ⟨rfl, fun h => ?_⟩, _, _, _, rfl, Fx, Nx, ⟨⟨m1, m2, m3, m4⟩, rfl, _, rfl⟩, m5⟩
      have h1 := of_decide_eq_false h.2
      omega
    · rename Fr _ _ _ _ => Fx
      rename News _ _ _ _ => Nx
      refine ⟨.inl ⟨rfl, by assumption, ?_⟩, _, _, _, rfl, Fx, Nx, ⟨⟨m1, m2, m3, m4⟩, rfl, _, rfl⟩, m5⟩
      unfold nonblank
      exact decide_eq_false (by omega)
  clear m1 m2 m3 m4 m5 m6
  rintro fl s' ⟨hfl, h', tk, m', rfl, F, N, ⟨⟨m1, m2, m3, m4⟩, m6, te', m7⟩, m5⟩
  rcases hfl with ⟨rfl, hsp, hnb⟩ | ⟨rfl, hnsp⟩
  · have hstep : iterStep P O ks u sp x σ e y = ([], σ) := by unfold iterStep; rw [if_pos ⟨hsp, hnb⟩]
    have hrun : iterRun P O ks u sp x ((splitTok (Txt.lower x)).drop i) σ e = iterRun P O ks u sp x ((splitTok (Txt.lower x)).drop (i + 1)) σ (e + y.length) := by
      rw [hdrop]; show (iterStep P O ks u sp x σ e y).1 ++ iterRun P O ks u sp x _ (iterStep P O ks u sp x σ e y).2 _ = _
      rw [hstep]; rfl
    rw [hrun] at hout ⊢
    dsimp only [kNext, kTurn]
    exact seg_again rfl (close σ s₀ _ done hout ⟨⟨m', led3, _, q, F, N, T₃, hnw₃, ⟨_, hS₃⟩, hl₃, hI₃, hit₂.at fun o e => by rw [hoI₂] at e; cases e; exact (N _ hI₃).1, ⟨m1, m2, m3, m4⟩, hq, m5, te', m7⟩, ⟨_, _, rfl⟩⟩)
  dsimp only [kNext]
  refine seg_cons (seg_If ?_)
  rw [over_for]
  k_steps
  by_cases hyk : y ∈ ks
  · k_dflt (refine kdg_notin (knd := PySem.strKind _ _) N hK1 hks hlok (strKind_is _ _ _ _) true (by rw [known_at]; exact decide_eq_true hyk) ?_)
    (try dsimp only [Bool.not_true, Bool.not_false])
    k_steps
    have hstep := step_known (P := P) (O := O) (u := u) (x := x) (σ := σ) (e := e) hnsp hyk
    have hrun : iterRun P O ks u sp x ((splitTok (Txt.lower x)).drop i) σ e = finO u x (e + y.length) y.length false (hitsO P O (some (best P σ y))) ++ iterRun P O ks u sp x ((splitTok (Txt.lower x)).drop (i + 1)) (best P σ y) (e + y.length) := by
      rw [hdrop]; show (iterStep P O ks u sp x σ e y).1 ++ iterRun P O ks u sp x _ (iterStep P O ks u sp x σ e y).2 _ = _
      rw [hstep]
    rw [hrun] at hout ⊢
    clear hrun hstep
    refine seg_execs_nil ?_
    dsimp only [kNext]
    refine seg_cons (seg_plain ?_)
    rw [over_for]
    k_steps
    dsimp only [kNext]
    refine seg_cons (seg_plain ?_)
    rw [over_for]
    k_steps
    refine Stop.off ?_
    rename Fr _ _ _ _ => F4
    rename News _ _ _ _ => N4
    k_dflt (refine While_inv (fun n m' nx => (LocI H x t u sp y ty (e + y.length) m' ∧ m' "yielded" = some (.bool false)) ∧ nx = led3 ∧ ∃ q s', P[q]? = some s' ∧ m' "state" = some (.ref (adOf nd q)) ∧ best P s' y = best P σ y ∧ n = s'.length) F4 N4 ⟨⟨⟨⟨m1, m2, m3, m4⟩, m6, _, m7⟩, rfl⟩, rfl, _, σ, hq, m5, rfl, rfl⟩ ?_)
    clear F4 N4 m1 m2 m3 m4 m5 m6 m7
    try clear F N
    rintro n m₄ nx h12 tk12 F12 N12 ⟨⟨⟨⟨m1, m2, m3, m4⟩, m6, te4, m7⟩, m8⟩, rfl, q2, s', hq2, hst, hbest, rfl⟩
    have hcl : ∀ q x, q ++ [x] ∈ P → q ∈ P := fun q x hq => by have := hn.closed _ hq; rwa [List.dropLast_concat] at this
    have h0P : [] ∈ P := List.mem_of_getElem? hn.root
    have nodeAt : ∀ (j : Nat) (p : List Str), P[j]? = some p → ∃ nb, ndA[j]? = some nb ∧ adOf nd j = nb.a ∧ (∀ r ∈ nb.objs 71, r ∈ news) := fun j p hj => by
      have hjl : j < ndA.length := by rw [same_len hA.same, hn.len]; exact (List.getElem?_eq_some_iff.mp hj).1
      obtain ⟨nb, hnb, had⟩ := adOf_lt hjl
      exact ⟨nb, hnb, (same_ad hA.same j).symm.trans had, fun r hr => hup r (List.mem_append_right _ (List.mem_append_left _ (mem_objs.mpr ⟨j, nb, hnb, hr⟩)))⟩
    obtain ⟨nq, hnq, hadq, hmq⟩ := nodeAt q2 s' hq2
    have hNq1 := hnw₃ _ (hmq (nq.a, nodeObj 71 nq) (.head _))
    have hNq2 := hnw₃ _ (hmq (nq.dx, dictOf [] 0) (.tail _ (.head _)))
    have hNq3 := hnw₃ _ (hmq (nq.c, nq.oc) (.tail _ (.tail _ (.head _))))
    have hdq := hA.dict q2 nq s' hnq hq2
    have hloq : (nq.c == sysModules) = false := by
      have h1 := (List.getElem?_eq_some_iff.mp hq2).1
      rw [← hn.len] at h1
      rw [same_c hA.same (show nd[q2]? = some nd[q2] by simp) hnq]
      exact hn.lo _ (List.getElem_mem _)
    rw [hadq] at hst
    unfold nodeObj at hNq1
    k_steps
    rename News _ _ _ _ => N13
    by_cases hcase : s' ++ [y] ∈ P ∨ s' = []
    rotate_left
    · have hval : valueAt (kvsR nd P (ex1 P ks) s') y = none := valueR_none (fun e => hcase (.inr e)) (fun h => hcase (.inl h))
      have hs' : s' ≠ [] := fun e => hcase (.inr e)
      have hfq : nq.fail = Value.ref (adOf nd (P.idxOf (fo P s'))) := by
        rw [hA.fail q2 nq hnq, hf q2 s' hq2 hs']; rfl
      rw [hfq] at hNq1
      k_dflt (refine kdg_notin (knd := PySem.strKind _ _) N13 hNq3 hdq hloq (strKind_is _ _ _ _) false (by rw [hval]; rfl) ?_)
      (try dsimp only [Bool.not_true, Bool.not_false])
      k_steps
      rename Fr _ _ _ _ => F14
      rename News _ _ _ _ => N14
      refine WhileStep.intro F14 N14 (n' := (fo P s').length) (fo_lt hs') ⟨⟨⟨⟨m1, m2, m3, m4⟩, m6, _, m7⟩, m8⟩, rfl, _, fo P s', idx_get (fo_mem h0P s'), rfl, ?_, rfl⟩
      rw [← hbest]; exact (best_miss hcl h0P hs' (fun h => hcase (.inl h))).symm
    have hval := step_val (nd := nd) (ks := ks) hn.nodup hn.root hyk hcase
    k_dflt (refine kdg_notin (knd := PySem.strKind _ _) N13 hNq3 hdq hloq (strKind_is _ _ _ _) true (by rw [hval]; rfl) ?_)
    (try dsimp only [Bool.not_true, Bool.not_false])
    k_steps
    dsimp only [kNext]
    refine seg_cons (seg_plain ?_)
    rw [over_for]
    k_steps
    rename News _ _ _ _ => N14
    k_dflt (refine kdg_method (knd := PySem.strKind _ _) N14 hNq3 hdq ?_)
    k_steps
    rename News _ _ _ _ => N15
    k_dflt (refine kdg_get2 (knd := PySem.strKind _ _) N15 hNq3 hdq hloq (strKind_is _ _ _ _) _ hval ?_)
    dsimp only [Option.getD_some]
    rw [hbest]
    k_steps
    dsimp only [kNext]
    refine seg_cons (seg_plain ?_)
    rw [over_for]
    k_steps
    dsimp only [kNext]
    refine seg_cons (seg_While1 ?_)
    intro pw
    rename Fr _ _ _ _ => F16
    rename News _ _ _ _ => N16
    refine seg_ind (fun (i : Option (List Str) × Bool) => match i.1 with | none => 0 | some p => p.length + 1) (fun i' n s₀ s => ∃ done', iterOut P O ks u sp x = done' ++ (finO u x (e + y.length) y.length i'.2 (hitsO P O i'.1) ++ iterRun P O ks u sp x ((splitTok (Txt.lower x)).drop (i + 1)) (best P σ y) (e + y.length)) ∧
      n = (finO u x (e + y.length) y.length i'.2 (hitsO P O i'.1) ++ iterRun P O ks u sp x ((splitTok (Txt.lower x)).drop (i + 1)) (best P σ y) (e + y.length)).length ∧ WhI 44 g C S I l oI₂ news vs nl H nd P x t u sp y ty (e + y.length) (best P σ y) i'.1 i'.2 s₀ s) ?_ (some (best P σ y), false) _ _ _ ?_
    rotate_left
    · exact ⟨done, hout, rfl, ⟨_, nx, F16, N16, T₃, hnw₃, ⟨_, hS₃⟩, hl₃, hI₃, ⟨⟨m1, m2, m3, m4⟩, m6, _, m7⟩, m8, rfl, (fun q => by cases q), fun p hp => by (cases hp; exact ⟨best_mem h0P _ _, rfl⟩)⟩, ⟨_, _, rfl⟩⟩
    clear F16 N16 m1 m2 m3 m4 m6 m7 m8 hNq1 hNq2 hNq3 hst hdq
    rintro ⟨op, b⟩ ih2 n s₁ s ⟨done', hrem, rfl, ⟨⟨m', led, F, N, T, hnw, ⟨oS5, hS5⟩, hl5, hI5, ⟨⟨m1, m2, m3, m4⟩, m6, te5, m7⟩, m8, m9, m10, m11⟩, h5, tk5, rfl⟩⟩
    refine seg_whileLoop1 ?_
    rw [over_while]
    have h44 : ∃ o44, (Mine.hd.heap_39 w.params).lookup 44 = some o44 ∧ o44.cls ≠ .type "tuple" := ⟨_, by k_is, by decide⟩
    obtain ⟨o44, h44, h44c⟩ := h44
    rcases op with _ | p
    · have m12 := m10 rfl
      k_steps
      refine Stop.off ?_
      k_dflt (refine isnot_ref_same ?_)
      k_steps
      refine seg_back ?_
      dsimp only [kNext]
      refine seg_cons (seg_If ?_)
      rw [over_for]
      k_steps
      · have hb1 : b = true := by assumption
        have hfin : finO u x (e + y.length) y.length b (hitsO P O none) = [] := by
          unfold finO
          show List.map _ [] ++ _ = _
          rw [hb1, if_neg (by simp)]; rfl
        dsimp only at hrem ⊢
        rw [hfin, List.nil_append] at hrem ⊢
        refine seg_execs_nil ?_
        dsimp only [kNext]
        refine seg_execs_nil ?_
        dsimp only [kTurn]
        exact seg_again rfl (close (best P σ y) s₁ _ done' hrem ⟨⟨m', led, oI₂, P.idxOf (best P σ y), F, N, T, hnw, ⟨_, hS5⟩, hl5, hI5, hit₂.at fun o e => by (rw [hoI₂] at e; cases e; exact (N _ hI5).1), ⟨m1, m2, m3, m4⟩, idx_get (best_mem h0P _ _), m9, te5, m7⟩, ⟨_, _, rfl⟩⟩)
      · have hb1 : b = false := by assumption
        have hu1 : u = true := by assumption
        have hfin : finO u x (e + y.length) y.length b (hitsO P O none) = [tokOf x (e + y.length) y.length none] := by
          unfold finO
          show List.map _ [] ++ _ = _
          rw [hb1, if_pos ⟨rfl, rfl, hu1⟩]; rfl
        dsimp only at hrem ⊢
        rw [hfin, List.cons_append, List.nil_append] at hrem ⊢
        refine seg_cons (seg_plain ?_)
        rw [over_for]
        k_steps
        dsimp only [kNext]
        refine seg_cons (seg_plain ?_)
        rw [over_for]
        k_steps
        dsimp only [kNext]
        refine seg_cons (seg_plain ?_)
        rw [over_for]
        k_steps
        dsimp only [kNext]
        refine seg_cons (seg_yield1 rfl rfl rfl ?_)
        rw [over_for]
        k_steps
        rename_i kap hkap
        rename Fr _ _ _ _ => Fy
        rename News _ _ _ _ => Ny
        rename ∀ p, p ∈ led → p.1 < _ => hdl
        have hSd := hdl _ hS5
        have hSx := Nat.lt_trans hSd (by assumption)
        refine yieldG hrem ⟨_, _, _, _, _, _, rfl, hSx, hSd, (Ny _ (.head _)).1, (Ny _ (.tail _ (.head _))).1, ⟨_, rfl⟩, ⟨_, rfl⟩, ⟨_, rfl⟩, rfl⟩ ⟨_, _, rfl, (T.mono fun p hp => .tail _ (.tail _ hp)).keep Fy Ny⟩ fun s4 hk4 hS4 => hkap s4 ?_
        obtain ⟨led4, F4, N4, T4, hl4, oS4, hSS4⟩ := resumeG Fy Ny (.tail _ (.tail _ hI5)) hcI hIS hCS hgS hk4 hS4
        have hI4 := hl4 _ (.tail _ (.tail _ hI5)) (Nat.ne_of_gt hIS)
        dsimp only [kNext]
        refine seg_execs_nil ?_
        dsimp only [kNext]
        refine seg_execs_nil ?_
        dsimp only [kTurn]
        exact seg_again rfl (close (best P σ y) s4 _ (done' ++ [tokOf x (e + y.length) y.length none]) (by rw [hrem]; simp) ⟨⟨_, led4, oI₂, P.idxOf (best P σ y), F4, N4, T4, fun p hp => hl4 _ (.tail _ (.tail _ (hnw p hp))) (Nat.ne_of_lt (Nat.lt_trans (hltC p hp) hCS)), ⟨_, hSS4⟩, hl4 _ (.tail _ (.tail _ hl5)) (Nat.ne_of_gt hlS), hI4,
          hit₂.at fun o e => by (rw [hoI₂] at e; cases e; exact (N4 _ hI4).1), ⟨m1, m2, m3, m4⟩, idx_get (best_mem h0P _ _), m9, _, m7⟩, ⟨_, _, rfl⟩⟩)
      · have hb1 : b = false := by assumption
        have hu1 : u = false := by assumption
        have hfin : finO u x (e + y.length) y.length b (hitsO P O none) = [] := by
          unfold finO
          show List.map _ [] ++ _ = _
          rw [hb1, if_neg (by rw [hu1]; simp)]; rfl
        dsimp only at hrem ⊢
        rw [hfin, List.nil_append] at hrem ⊢
        refine seg_execs_nil ?_
        dsimp only [kNext]
        refine seg_execs_nil ?_
        dsimp only [kTurn]
        exact seg_again rfl (close (best P σ y) s₁ _ done' hrem ⟨⟨m', led, oI₂, P.idxOf (best P σ y), F, N, T, hnw, ⟨_, hS5⟩, hl5, hI5, hit₂.at fun o e => by (rw [hoI₂] at e; cases e; exact (N _ hI5).1), ⟨m1, m2, m3, m4⟩, idx_get (best_mem h0P _ _), m9, te5, m7⟩, ⟨_, _, rfl⟩⟩)
    · obtain ⟨hpP, m12⟩ := m11 p rfl
      have hpi := idx_get hpP
      obtain ⟨nb, hnb, hadb, hmb⟩ := nodeAt _ p hpi
      rw [hadb] at m12
      have hNb1 := hnw _ (hmb (nb.a, nodeObj 71 nb) (.head _))
      have hNb2 := hnw _ (hmb (nb.dx, dictOf [] 0) (.tail _ (.head _)))
      unfold nodeObj at hNb1
      have off44 : ∀ {q : Addr} {o : Obj}, (q, o) ∈ led → q ≠ 44 := fun {q o} hq e => by
        have h1 := (N _ hq).2.2
        dsimp only at h1
        rw [e, XG _ _ h44] at h1; cases h1
      obtain ⟨fa, hfa, hfa1, hfa2⟩ : ∃ fa, nb.fail = .ref fa ∧ (nextO P p = none → fa = 44) ∧ ∀ q, nextO P p = some q → q ∈ P ∧ fa = adOf nd (P.idxOf q) := by
        unfold nextO
        rw [hA.fail _ nb hnb]
        by_cases hp0 : p = []
        · rw [if_pos hp0]
          rw [hp0, idx_of hn.nodup hn.root, hf0]
          exact ⟨_, rfl, fun _ => rfl, fun q h => (nomatch h)⟩
        · rw [if_neg hp0, hf _ p hpi hp0]
          exact ⟨_, rfl, fun h => (nomatch h), fun q h => ⟨Option.some.inj h ▸ fo_mem h0P p, by rw [← Option.some.inj h]⟩⟩
      have hmeas : (match nextO P p with | none => 0 | some p => p.length + 1) < p.length + 1 := by
        unfold nextO
        by_cases hp0 : p = []
        · rw [if_pos hp0]; exact Nat.succ_pos _
        · rw [if_neg hp0]; have := fo_lt (P := P) hp0; show (fo P p).length + 1 < _; omega
      rw [hfa] at hNb1
      obtain ⟨z, hz⟩ : ∃ z, O[P.idxOf p]? = some z := by
        have h1 := (List.getElem?_eq_some_iff.mp hpi).1
        rw [← hn.len, ← hO.len] at h1
        exact ⟨O[P.idxOf p], by simp [h1]⟩
      obtain ⟨nb0, hnb0⟩ : ∃ n0, nd[P.idxOf p]? = some n0 := by
        have h1 := (List.getElem?_eq_some_iff.mp hpi).1
        rw [← hn.len] at h1
        exact ⟨nd[P.idxOf p], by simp [h1]⟩
      have hob := (hA.keep _ nb0 nb hnb0 hnb).2
      have htold : toldAt P O p = z := by unfold toldAt; rw [hz]; rfl
      k_steps
      refine Stop.off ?_
      k_dflt (refine isnot_ref_off (off44 hNb1) (N _ hNb1).1 (F.keep _ _ (XG _ _ h44)) h44c ?_)
      k_steps
      refine seg_cons (seg_If ?_)
      rw [over_while]
      rcases z with _ | ⟨ms, ov⟩
      · rw [hO.none_ _ nb0 hnb0 hz] at hob
        rw [hob] at hNb1
        rw [hits_next, htold] at hrem ⊢
        k_steps
        refine Stop.off ?_
        k_dflt (refine isnot_ref_same ?_)
        k_steps
        refine seg_execs_nil ?_
        dsimp only [kNext]
        refine seg_cons (seg_plain ?_)
        rw [over_while]
        k_steps
        dsimp only [kNext]
        refine seg_execs_nil ?_
        dsimp only [kTurn]
        rename Fr _ _ _ _ => F17
        rename News _ _ _ _ => N17
        exact seg_again rfl (ih2 (nextO P p, b) _ s₁ _ hmeas ⟨done', hrem, rfl, ⟨_, led, F17, N17, T, hnw, ⟨_, hS5⟩, hl5, hI5, ⟨⟨m1, m2, m3, m4⟩, m6, _, m7⟩, m8, m9, (fun q => congrArg (fun a => some (Value.ref a)) (hfa1 q)), fun q hq => ⟨(hfa2 q hq).1, congrArg (fun a => some (Value.ref a)) (hfa2 q hq).2⟩⟩, ⟨_, _, rfl⟩⟩)
      · have hmsl := hOl _ _ _ hz
        obtain ⟨ta, tms, tov, h1, h2⟩ := hO.some_ _ nb0 ms ov hnb0 hz
        rw [h1] at hob
        rw [hob] at hNb1
        have hta := hnw _ (hup _ (List.mem_append_right _ (List.mem_append_right _ h2)))
        rw [hits_next, htold] at hrem ⊢
        have hcons : finO u x (e + y.length) y.length b ((some (ms, ov)).toList ++ hitsO P O (nextO P p)) = tokOf x (e + y.length) ms.length (some ov) :: finO u x (e + y.length) y.length true (hitsO P O (nextO P p)) := finO_cons
        dsimp only at hrem ⊢
        rw [hcons, List.cons_append] at hrem ⊢
        k_steps
        refine Stop.off ?_
        k_dflt (refine isnot_ref_off (off44 hta) (N _ hta).1 (F.keep _ _ (XG _ _ h44)) h44c ?_)
        k_steps
        unfold pairObj tupO at hta
        refine seg_cons (seg_plain ?_)
        rw [over_while]
        k_steps
        dsimp only [kNext]
        refine seg_cons (seg_plain ?_)
        rw [over_while]
        k_steps
        dsimp only [kNext]
        refine seg_cons (seg_plain ?_)
        rw [over_while]
        k_steps
        dsimp only [kNext]
        refine seg_cons (seg_yield1 rfl rfl rfl ?_)
        rw [over_while]
        k_steps
        rename_i kap hkap
        rename Fr _ _ _ _ => Fy
        rename News _ _ _ _ => Ny
        rename ∀ p, p ∈ led → p.1 < _ => hdl
        have hSd := hdl _ hS5
        have hSx := Nat.lt_trans hSd (by assumption)
        refine yieldG hrem ⟨_, _, _, _, _, _, rfl, hSx, hSd, (Ny _ (.head _)).1, (Ny _ (.tail _ (.head _))).1, ⟨_, rfl⟩, ⟨_, rfl⟩, ⟨_, rfl⟩, _, rfl⟩ ⟨_, _, rfl, (T.mono fun p hp => .tail _ (.tail _ hp)).keep Fy Ny⟩ fun s4 hk4 hS4 => hkap s4 ?_
        obtain ⟨led4, F4, N4, T4, hl4, oS4, hSS4⟩ := resumeG Fy Ny (.tail _ (.tail _ hI5)) hcI hIS hCS hgS hk4 hS4
        have hI4 := hl4 _ (.tail _ (.tail _ hI5)) (Nat.ne_of_gt hIS)
        have hnw4 : ∀ r ∈ news, r ∈ led4 := fun r hr => hl4 _ (.tail _ (.tail _ (hnw r hr))) (Nat.ne_of_lt (Nat.lt_trans (hltC r hr) hCS))
        have hNb3 := hnw4 _ (hmb (nb.a, nodeObj 71 nb) (.head _))
        have hNb4 := hnw4 _ (hmb (nb.dx, dictOf [] 0) (.tail _ (.head _)))
        unfold nodeObj at hNb3
        rw [hfa] at hNb3
        clear Fy Ny
        dsimp only [kNext]
        refine seg_cons (seg_plain ?_)
        rw [over_while]
        k_steps
        dsimp only [kNext]
        refine seg_execs_nil ?_
        dsimp only [kNext]
        refine seg_cons (seg_plain ?_)
        rw [over_while]
        k_steps
        dsimp only [kNext]
        refine seg_execs_nil ?_
        dsimp only [kTurn]
        rename Fr _ _ _ _ => F17
        rename News _ _ _ _ => N17
        exact seg_again rfl (ih2 (nextO P p, true) _ s4 _ hmeas ⟨done' ++ [tokOf x (e + y.length) ms.length (some ov)], by (rw [hrem]; simp), rfl, ⟨_, led4, F17, N17, T4, hnw4, ⟨_, hSS4⟩, hl4 _ (.tail _ (.tail _ hl5)) (Nat.ne_of_gt hlS), hI4, ⟨⟨m1, m2, m3, m4⟩, m6, _, m7⟩, rfl, m9,
          (fun q => congrArg (fun a => some (Value.ref a)) (hfa1 q)), fun q hq => ⟨(hfa2 q hq).1, congrArg (fun a => some (Value.ref a)) (hfa2 q hq).2⟩⟩, ⟨_, _, rfl⟩⟩)
  · k_dflt (refine kdg_notin (knd := PySem.strKind _ _) N hK1 hks hlok (strKind_is _ _ _ _) false (by rw [known_at]; exact decide_eq_false hyk) ?_)
    (try dsimp only [Bool.not_true, Bool.not_false])
    k_steps
    refine seg_cons (seg_plain ?_)
    rw [over_for]
    k_steps
    dsimp only [kNext]
    refine seg_cons (seg_If ?_)
    rw [over_for]
    k_steps
    · refine seg_cons (seg_plain ?_)
      rw [over_for]
      k_steps
      dsimp only [kNext]
      refine seg_cons (seg_plain ?_)
      rw [over_for]
      k_steps
      dsimp only [kNext]
      refine seg_cons (seg_plain ?_)
      rw [over_for]
      k_steps
      have hu1 : u = true := by assumption
      have hstep : iterStep P O ks u sp x σ e y = ([tokOf x (e + y.length) y.length none], []) := by unfold iterStep; rw [if_neg hnsp, if_neg hyk, if_pos hu1]
      have hrun : iterRun P O ks u sp x ((splitTok (Txt.lower x)).drop i) σ e = tokOf x (e + y.length) y.length none :: iterRun P O ks u sp x ((splitTok (Txt.lower x)).drop (i + 1)) [] (e + y.length) := by
        rw [hdrop]; show (iterStep P O ks u sp x σ e y).1 ++ iterRun P O ks u sp x _ (iterStep P O ks u sp x σ e y).2 _ = _
        rw [hstep]; rfl
      rw [hrun] at hout ⊢
      dsimp only [kNext]
      refine seg_cons (seg_yield1 rfl rfl rfl ?_)
      rw [over_for]
      k_steps
      rename_i kap hkap
      rename Fr _ _ _ _ => Fy
      rename News _ _ _ _ => Ny
      rename ∀ p, p ∈ led3 → p.1 < _ => hdl
      have hSd := hdl _ hS₃
      have hSx := Nat.lt_trans hSd (by assumption)
      refine yieldG hout ⟨_, _, _, _, _, _, rfl, hSx, hSd, (Ny _ (.head _)).1, (Ny _ (.tail _ (.head _))).1, ⟨_, rfl⟩, ⟨_, rfl⟩, ⟨_, rfl⟩, rfl⟩ ⟨_, _, rfl, (T₃.mono fun p hp => .tail _ (.tail _ hp)).keep Fy Ny⟩ fun s4 hk4 hS4 => hkap s4 ?_
      obtain ⟨led4, F4, N4, T4, hl4, oS4, hSS4⟩ := resumeG Fy Ny (.tail _ (.tail _ hI₃)) hcI hIS hCS hgS hk4 hS4
      have hI4 := hl4 _ (.tail _ (.tail _ hI₃)) (Nat.ne_of_gt hIS)
      dsimp only [kNext]
      refine seg_execs_nil ?_
      dsimp only [kNext]
      clear Fy Ny
      refine seg_cons (seg_plain ?_)
      rw [over_for]
      k_steps
      dsimp only [kNext, kTurn]
      exact seg_again rfl (close [] s4 _ (done ++ [tokOf x (e + y.length) y.length none]) (by rw [hout]; simp) ⟨⟨_, led4, _, 0, F4, N4, T4, fun p hp => hl4 _ (.tail _ (.tail _ (hnw₃ p hp))) (Nat.ne_of_lt (Nat.lt_trans (hltC p hp) hCS)), ⟨_, hSS4⟩, hl4 _ (.tail _ (.tail _ hl₃)) (Nat.ne_of_gt hlS), hI4,
        hit₂.at fun o e => by (rw [hoI₂] at e; cases e; exact (N4 _ hI4).1), ⟨m1, m2, m3, m4⟩, hn.root, rfl, _, m7⟩, ⟨_, _, rfl⟩⟩)
    · have hu1 : u = false := by assumption
      have hstep : iterStep P O ks u sp x σ e y = ([], []) := by unfold iterStep; rw [if_neg hnsp, if_neg hyk, if_neg (by rw [hu1]; decide)]
      have hrun : iterRun P O ks u sp x ((splitTok (Txt.lower x)).drop i) σ e = iterRun P O ks u sp x ((splitTok (Txt.lower x)).drop (i + 1)) [] (e + y.length) := by
        rw [hdrop]; show (iterStep P O ks u sp x σ e y).1 ++ iterRun P O ks u sp x _ (iterStep P O ks u sp x σ e y).2 _ = _
        rw [hstep]; rfl
      rw [hrun] at hout ⊢
      refine seg_execs_nil ?_
      dsimp only [kNext]
      refine seg_cons (seg_plain ?_)
      rw [over_for]
      k_steps
      dsimp only [kNext, kTurn]
      rename Fr _ _ _ _ => Fy
      rename News _ _ _ _ => Ny
      exact seg_again rfl (close [] s₀ _ done hout ⟨⟨_, led3, _, 0, Fy, Ny, T₃, hnw₃, ⟨_, hS₃⟩, hl₃, hI₃, hit₂.at fun o e => by (rw [hoI₂] at e; cases e; exact (Ny _ hI₃).1), ⟨m1, m2, m3, m4⟩, hn.root, rfl, _, m7⟩, ⟨_, _, rfl⟩⟩)
end
end Mine
end
section
theorem Mine.switch_S32 : True := by
  w_top off
  trivial
open Lean Elab Tactic Meta PySem PySem.W PySem.Calls PyProof.Rows
set_option pp.deepTerms false
set_option pp.maxSteps 800
set_option pp.deepTerms.threshold 5
namespace Mine
local macro_rules | `(tactic| walk_at "exec For Name Name cons nil") => `(tactic| (refine Mine.Stop.on ?_))
local macro_rules | `(tactic| walk_at "exec For Name Call cons nil") => `(tactic| (refine Mine.Stop.on ?_))
local macro_rules | `(tactic| walk_at "exec Assign cons ListComp") => `(tactic| (refine Mine.Stop.on ?_))
local macro_rules | `(tactic| walk_at "LeaveC") => `(tactic| fail "here")
local macro_rules | `(tactic| k_room) => `(tactic| first | ktr_room | ((simp only [Mine.mark_depth, depth_under_make, depth_under_kw, depth_in1, depth_deeper, depth_caller]); (try dsimp only [ktrTop]); (try simp only [recursionLimit] at *); omega))
local macro_rules | `(tactic| k_all) => `(tactic| first | assumption | exact Mine.offLt (by assumption) | exact Mine.offLt2 (by assumption) (by assumption) | (refine List.forall_mem_append.mpr ⟨?a, ?b⟩; (case a => k_all); (case b => k_all)))
local macro_rules | `(tactic| walk_at "setItem ref str") => `(tactic| (k_here; k_dflt (refine' kda_setB (knd := PySem.strKind _ _) ?F ?N ?hm ?d (strKind_is _ _ _ _) ?z ?_; (case F => k_asm); (case N => k_asm); (case hm => k_mem); (case d => k_asm); (case z => k_asm)); intro h' o' F' N' hd'))
local macro_rules | `(tactic| walk_at "compareOp Is str ref") => `(tactic| (k_here; refine wpAny_is_other (by rfl) (by intro x; cases x) ?_))
local macro_rules | `(tactic| k_mem) => `(tactic| assumption)
local macro_rules | `(tactic| walk_at "eval Name") => `(tactic| (k_here; (with_reducible show wpAny _ _ (eval (Expr.Name _ _) (envOf _ _ _ _ _)) _ _ _); k_dflt (refine' ld ?k1 ?k2 ?_; (case k1 => k_asm); (case k2 => first | exact rfl | assumption); k_whole)))
local macro_rules | `(tactic| walk_at "eval Name") => `(tactic| (k_here; (with_reducible show wpAny _ _ (eval (Expr.Name _ _) (envOfC _ _ _ _ _)) _ _ _); k_dflt (refine' nameX_L ?F ?v ?_ ?a ?b; (case F => k_asm); (case a => rfl); (case b => rfl); (case v => first | rfl | assumption); k_whole)))
local macro_rules | `(tactic| walk_at "call builtin:len") => `(tactic| (k_here; (with_reducible show wpAny _ _ (call (Value.builtin "len") [Value.ref _]) _ _ _); k_dflt (first | refine len_L (by k_asm) (by k_mem) (by omega) ?_ | refine len_T (by k_asm) (by k_mem) (by omega) ?_)))
local macro_rules | `(tactic| walk_at "subscriptTail") => `(tactic| (k_here; (with_reducible show wpAny _ _ (subscriptTail _ (PySem.Expr.Slice _ _ _ _) (Value.ref _) (Value.ref _)) _ _ _); refine Mine.Stop.on ?_))
local macro_rules | `(tactic| walk_at "compareOp Eq ref ref") => `(tactic| (refine Mine.Stop.on ?_))
local macro_rules | `(tactic| walk_at "compareOp NotEq ref ref") => `(tactic| (refine Mine.Stop.on ?_))
local macro_rules | `(tactic| walk_at "call type:list") => `(tactic| (k_here; k_dflt (refine list_of_tuple (by k_asm) (by k_asm) (by k_mem) (by omega) ?_); intro D' c' h' F' N' l1; (try k_sweep)))
section
variable {prog : Program} {w : World} {dp un : Nat} {gd : Option (List Code)} {cn : Str} {cs : Scope} {a : Addr} {ccd : Value} {cl : List (Str × Addr)} {outer : List Env} {base h₀ : Heap} {L : Addr} {m : Str → Option Value} {news : List (Addr × Obj)} {s : Shared} {Q E : Value → Shared → Prop}
set_option maxRecDepth 100000
set_option maxHeartbeats 1000000
theorem iter_spec {x : Str} {t : Tok} {u sp : Bool} {kw : List (Str × Value)} {H : TrieHd} {nd ndA : List Nd} {P : List (List Str)} {O : List (Option (Str × Str))} {ks : List Str} {rest : List (Addr × Obj)} {f : Nat → Option Nat}
   (X : Cx (Mine.hd.heap_39 w.params) cs outer base h₀ L s.heap m news) (hd : dp + 60 < recursionLimit) (hu : un + 400 < cLine) (hx : x.length ≤ 1000) (hx0 : x.length ≠ 0) (ha : x.cps.all (· < 128) = true)
   (hkw : (kw = [] ∧ u = false ∧ sp = false) ∨ (kw = [(("include_unmatched" : Str), Value.bool u)] ∧ sp = false) ∨ kw = [(("include_unmatched" : Str), Value.bool u), (("include_space" : Str), Value.bool sp)])
   (hup : ∀ p ∈ hdObjs w.params 169 true H (adOf nd 0) ++ (objsOf 71 ndA ++ rest), p ∈ news) (hn : NodesOk prog w nd P) (hO : Outs 44 nd O rest) (hks : H.okd.IsDictOf (strKind prog w) (kvKnown ks)) (hlok : (H.kd == sysModules) = false)
   (hA : AutI prog w 44 nd ndA P (ex1 P ks) f) (hOl : ∀ (i : Nat) (ms ov : Str), O[i]? = some (some (ms, ov)) → ms.length ≤ 1000) (hf0 : f 0 = none) (hf : ∀ (i : Nat) (p : List Str), P[i]? = some p → p ≠ [] → f i = some (P.idxOf (fo P p)))
   (hQ : ∀ C ag oC oa h' tk' gs, gs.bare = true → Cx (Mine.hd.heap_39 w.params) cs outer base h₀ L h' m ((ag, oa) :: (C, oC) :: news) → L < C → C < ag → h'.objs.size = ag + 1 → (∀ p ∈ news, p.1 < C) → h'.IsGen ag s.gens.size →
     GenFor prog w (ktrTop dp un gd cn cs L a ccd cl outer).in1.in1.in1 (Mine.hd.heap_39 w.params) cs outer base L 271 news gs C ag oC (iterOut P O ks u sp x) → Q (.ref ag) { s with gens := s.gens.push gs, heap := h', toks := tk' }) :
   wpAny (model prog w) (ktrTop dp un gd cn cs L a ccd cl outer) (call (.ref 160) [.ref H.tr, .str x t] kw) Q E s := by
  refine wpAny_call ?_
  have hkcs := X.k
  obtain ⟨⟨A0, B0⟩, F0, XB0, N0, ⟨p0, loose0, mean0, mg0, mb0, TB0⟩, D0, hk0⟩ := id X
  have X0 := XB0.keeps B0.stays
  have T0 := TB0.keeps B0.stays
  have fin : ∀ (mC : Str → Option Value) (C ag : Addr) (oC oa : Obj) (h' : Heap) (tk' : Nat), mC "self" = some (.ref H.tr) → mC "tokens_string" = some (.str x t) → mC "include_unmatched" = some (.bool u) → mC "include_space" = some (.bool sp) →
      Cx (Mine.hd.heap_39 w.params) cs outer base h₀ L h' m ((ag, oa) :: (C, oC) :: news) → h'.Ns C mC → L < C → C < ag → h'.objs.size = ag + 1 → (∀ p ∈ news, p.1 < C) → h'.IsGen ag s.gens.size →
      Q (.ref ag) { s with gens := s.gens.push (.fresh (.func iterBody (iterEnv C))), heap := h', toks := tk' } := fun mC C ag oC oa h' tk' h1 h2 h3 h4 X' hns hLC hCa hsz hlt hgen => by
    refine hQ C ag oC oa h' tk' _ rfl X' hLC hCa hsz hlt hgen (iter_goes hd hu hkcs hx hx0 ha (fun h e => ?_) h1 h2 h3 h4 hlt hLC hCa hup hn hO hks hlok hA hOl hf0 hf)
    exact hns.at' fun o e' => by
      have h5 := (X'.N _ (.tail _ (.head _))).1
      dsimp only at h5
      rw [h5] at e'; cases e'; exact e
  rcases hkw with ⟨rfl, rfl, rfl⟩ | ⟨rfl, rfl⟩ | rfl
  · k_dflt (refine' enterG X ?ho ?hcd ?hroom ?hbind ?hloc ?_ ?hco ?hgen ?hk ?hcell; (case ho => k_is); (case hcd => k_is); (case hroom => (show dp < _; omega)); (case hbind => first | exact BindsTo.of_eq rfl | exact binds_K (by k_in) rfl (by k_is) rfl rfl rfl); (case hloc => exact locs rfl); (case hco => exact rfl); (case hgen => exact rfl); (case hk => exact rfl); (case hcell => decide))
    intro C ag oC oa h' tk' X' hns hLC hCa hsz hlt hgen
    with_unfolding_all exact fin _ C ag oC oa h' tk' rfl rfl rfl rfl X' hns hLC hCa hsz hlt hgen
  · k_dflt (refine' enterG X ?ho ?hcd ?hroom ?hbind ?hloc ?_ ?hco ?hgen ?hk ?hcell; (case ho => k_is); (case hcd => k_is); (case hroom => (show dp < _; omega)); (case hbind => first | exact BindsTo.of_eq rfl | exact binds_K (by k_in) rfl (by k_is) rfl rfl rfl); (case hloc => exact locs rfl); (case hco => exact rfl); (case hgen => exact rfl); (case hk => exact rfl); (case hcell => decide))
    intro C ag oC oa h' tk' X' hns hLC hCa hsz hlt hgen
    with_unfolding_all exact fin _ C ag oC oa h' tk' rfl rfl rfl rfl X' hns hLC hCa hsz hlt hgen
  · k_dflt (refine' enterG X ?ho ?hcd ?hroom ?hbind ?hloc ?_ ?hco ?hgen ?hk ?hcell; (case ho => k_is); (case hcd => k_is); (case hroom => (show dp < _; omega)); (case hbind => first | exact BindsTo.of_eq rfl | exact binds_K (by k_in) rfl (by k_is) rfl rfl rfl); (case hloc => exact locs rfl); (case hco => exact rfl); (case hgen => exact rfl); (case hk => exact rfl); (case hcell => decide))
    intro C ag oC oa h' tk' X' hns hLC hCa hsz hlt hgen
    with_unfolding_all exact fin _ C ag oC oa h' tk' rfl rfl rfl rfl X' hns hLC hCa hsz hlt hgen
end
end Mine
end
section
theorem Mine.switch_S50 : True := by
  w_top off
  trivial
open Lean Elab Tactic Meta PySem PySem.W PySem.Calls PyProof.Rows
set_option pp.deepTerms false
set_option pp.maxSteps 800
set_option pp.deepTerms.threshold 5
namespace Mine
local macro_rules | `(tactic| walk_at "exec For Name Name cons nil") => `(tactic| (refine Mine.Stop.on ?_))
local macro_rules | `(tactic| walk_at "exec For Name Call cons nil") => `(tactic| (refine Mine.Stop.on ?_))
local macro_rules | `(tactic| walk_at "exec Assign cons ListComp") => `(tactic| (refine Mine.Stop.on ?_))
local macro_rules | `(tactic| walk_at "LeaveC") => `(tactic| fail "here")
local macro_rules | `(tactic| k_room) => `(tactic| first | ktr_room | ((simp only [Mine.mark_depth, depth_under_make, depth_under_kw, depth_in1, depth_deeper, depth_caller]); (try dsimp only [ktrTop]); (try simp only [recursionLimit] at *); omega))
local macro_rules | `(tactic| k_all) => `(tactic| first | assumption | exact Mine.offLt (by assumption) | exact Mine.offLt2 (by assumption) (by assumption) | (refine List.forall_mem_append.mpr ⟨?a, ?b⟩; (case a => k_all); (case b => k_all)))
local macro_rules | `(tactic| walk_at "setItem ref str") => `(tactic| (k_here; k_dflt (refine' kda_setB (knd := PySem.strKind _ _) ?F ?N ?hm ?d (strKind_is _ _ _ _) ?z ?_; (case F => k_asm); (case N => k_asm); (case hm => k_mem); (case d => k_asm); (case z => k_asm)); intro h' o' F' N' hd'))
local macro_rules | `(tactic| walk_at "compareOp Is str ref") => `(tactic| (k_here; refine wpAny_is_other (by rfl) (by intro x; cases x) ?_))
local macro_rules | `(tactic| k_mem) => `(tactic| assumption)
local macro_rules | `(tactic| walk_at "eval Name") => `(tactic| (k_here; (with_reducible show wpAny _ _ (eval (Expr.Name _ _) (envOf _ _ _ _ _)) _ _ _); k_dflt (refine' ld ?k1 ?k2 ?_; (case k1 => k_asm); (case k2 => first | exact rfl | assumption); k_whole)))
local macro_rules | `(tactic| walk_at "eval Name") => `(tactic| (k_here; (with_reducible show wpAny _ _ (eval (Expr.Name _ _) (envOfC _ _ _ _ _)) _ _ _); k_dflt (refine' nameX_L ?F ?v ?_ ?a ?b; (case F => k_asm); (case a => rfl); (case b => rfl); (case v => first | rfl | assumption); k_whole)))
local macro_rules | `(tactic| walk_at "call builtin:len") => `(tactic| (k_here; (with_reducible show wpAny _ _ (call (Value.builtin "len") [Value.ref _]) _ _ _); k_dflt (first | refine len_L (by k_asm) (by k_mem) (by omega) ?_ | refine len_T (by k_asm) (by k_mem) (by omega) ?_)))
local macro_rules | `(tactic| walk_at "subscriptTail") => `(tactic| (k_here; (with_reducible show wpAny _ _ (subscriptTail _ (PySem.Expr.Slice _ _ _ _) (Value.ref _) (Value.ref _)) _ _ _); refine Mine.Stop.on ?_))
local macro_rules | `(tactic| walk_at "compareOp Eq ref ref") => `(tactic| (refine Mine.Stop.on ?_))
local macro_rules | `(tactic| walk_at "compareOp NotEq ref ref") => `(tactic| (refine Mine.Stop.on ?_))
local macro_rules | `(tactic| walk_at "call type:list") => `(tactic| (k_here; k_dflt (refine list_of_tuple (by k_asm) (by k_asm) (by k_mem) (by omega) ?_); intro D' c' h' F' N' l1; (try k_sweep)))
local macro_rules | `(tactic| walk_at "exec FunctionDef") => `(tactic| (refine Mine.Stop.on ?_))
local macro_rules | `(tactic| walk_at "call builtin:sorted") => `(tactic| (refine Mine.Stop.on ?_))
def keyT (d : TokD) : I2 := (d.st, -(d.en - d.st + 1))
def KeyLt (a b : TokD) : Prop := lt2 (keyT a) (keyT b) = true
abbrev keyPos : Pos := ⟨218, 8, 219, 37⟩
theorem tab_off {h₀ h : Heap} {L P : Addr} {pos : Pos} {qual : Str} {led : List (Addr × Obj)} (N : News h₀ L h led) (hP : TabSt P pos qual led) {q : Addr × Obj} (hq : q ∈ led) (hne : ∀ vs, q.2.data ≠ .fields vs) : q.1 ≠ P := fun e => by
  have h1 := (N q hq).1
  rcases hP with hp | ⟨_, _, _, _, hp, _⟩
  · have h2 := (N _ hp).1
    dsimp only at h2
    rw [e, h2] at h1
    exact hne _ (by rw [← Option.some.inj h1])
  · have h2 := (N _ hp).1
    dsimp only at h2
    rw [e, h2] at h1
    exact hne _ (by rw [← Option.some.inj h1])
theorem toks_off {cT : Addr} {a b : List (Addr × Obj)} (k : ∀ p ∈ a, (∀ vs, p.2.data ≠ .fields vs) → p ∈ b) : ∀ {vs : List Value} {ds : List TokD}, ToksIn cT a vs ds → ToksIn cT b vs ds
  | _, _, .nil => .nil
  | _, _, .cons ⟨ta, dx, en, st, tx, vl, e, h1, h2, h3⟩ r => .cons ⟨ta, dx, en, st, tx, vl, e, k _ h1 (fun vs q => by cases q), k _ h2 (fun vs q => by cases q), h3⟩ (toks_off k r)
def TokFit (d : TokD) : Prop := 0 ≤ d.st ∧ d.st ≤ d.en ∧ d.en ≤ 2000
theorem toks_pick {cT : Addr} {a : List (Addr × Obj)} {vs : List Value} {ds : List TokD} (h : ToksIn cT a vs ds) : ∀ p : List Nat, (∀ i ∈ p, i < ds.length) → ∃ es, p.map (fun i => ds[i]?) = es.map some ∧ ToksIn cT a (p.map fun i => vs.getD i Value.none) es
  | [], _ => ⟨[], rfl, .nil⟩
  | i :: p, hp => by
    obtain ⟨es, h1, h2⟩ := toks_pick h p fun j hj => hp j (.tail _ hj)
    have hi := hp i (.head _)
    have hv : vs[i]? = some (vs[i]'(by rw [toks_len h]; exact hi)) := List.getElem?_eq_getElem _
    obtain ⟨d, hd, ht⟩ := toks_at h hv
    refine ⟨d :: es, ?_, .cons ?_ h2⟩
    · rw [List.map_cons, List.map_cons, h1, hd]
    · show TokIn cT a (vs.getD i Value.none) d
      rw [List.getD_eq_getElem?_getD, hv]; exact ht
theorem pick_perm {ds es : List TokD} {p : List Nat} (h : p.map (fun i => ds[i]?) = es.map some) (hp : p.Perm (List.range ds.length)) : es.Perm ds := by
  have h1 : (p.map fun i => ds[i]?).Perm ((List.range ds.length).map fun i => ds[i]?) := hp.map _
  have h2 : (List.range ds.length).map (fun i => ds[i]?) = ds.map some := by
    refine List.ext_getElem? fun i => ?_
    rw [List.getElem?_map, List.getElem?_map]
    by_cases hi : i < ds.length
    · rw [List.getElem?_range hi, List.getElem?_eq_getElem hi]; simp [hi]
    · rw [List.getElem?_eq_none (by simpa using hi), List.getElem?_eq_none (by omega)]; rfl
  rw [h, h2] at h1
  have h3 := h1.filterMap id
  simpa using h3
theorem pick_sorted {ds es : List TokD} {p : List Nat} (h : p.map (fun i => ds[i]?) = es.map some) (hp : p.Pairwise fun i j => lt2 ((ds.map keyT).getD i (0, 0)) ((ds.map keyT).getD j (0, 0)) = true) : es.Pairwise KeyLt := by
  have hg : ∀ i d, ds[i]? = some d → (ds.map keyT).getD i (0, 0) = keyT d := fun i d hd => by
    rw [List.getD_eq_getElem?_getD, List.getElem?_map, hd]; rfl
  rw [List.pairwise_iff_getElem] at hp ⊢
  intro i j hi hj hij
  have hl := congrArg List.length h
  rw [List.length_map, List.length_map] at hl
  have hat : ∀ k (hk : k < es.length), ds[p[k]'(by omega)]? = some es[k] := fun k hk => by
    have := congrArg (fun l => l[k]?) h
    simp only [List.getElem?_map] at this
    rw [List.getElem?_eq_getElem (by omega), List.getElem?_eq_getElem hk] at this
    exact Option.some.inj this
  have := hp i j (by omega) (by omega) hij
  rw [hg _ _ (hat i hi), hg _ _ (hat j hj)] at this
  exact this
section
variable {prog : Program} {w : World} {dp un : Nat} {gd : Option (List Code)} {cn : Str} {cs : Scope} {a : Addr} {ccd : Value} {cl : List (Str × Addr)} {outer : List Env} {base h₀ : Heap} {L : Addr} {m : Str → Option Value} {news : List (Addr × Obj)} {s : Shared} {Q E : Value → Shared → Prop}
set_option maxRecDepth 100000
set_option maxHeartbeats 1000000
set_option maxHeartbeats 4000000
def paramsOf : Stmt → Arguments
  | .FunctionDef _ p _ .. => p
  | _ => default
def keyStmt : Stmt := (bodyOf ((bodyOf (PySem.Challenge.pw_ew0015_03.main.body.getD 8 passS)).getD 7 passS)).getD 0 passS
theorem key_spec {f c' : Addr} {oc : Obj} {vs' : Array Value} {t : Tok} {doc pm ctv v : Value} {d : TokD} (C : Cx (Mine.hd.heap_39 w.params) cs outer base h₀ L s.heap m news) (hd : dp + 10 < recursionLimit) (hu : un + 60 < cLine)
   (hf : (f, fnMade "key" "Token.sort.<locals>.key" (paramsOf keyStmt) (bodyOf keyStmt) (scopeOf keyStmt) [] doc pm c' ctv) ∈ news) (hoc : (c', oc) ∈ news) (hod : oc.data = .fields vs') (hov : vs'[1]? = some (.str "Token.sort.<locals>.key" t)) (hv : TokIn 271 news v d) (hfit : TokFit d)
   (hQ : ∀ h' tk' x t u, Cx (Mine.hd.heap_39 w.params) cs outer base h₀ L h' m ((x, tupO [.int (keyT d).1 t, .int (keyT d).2 u]) :: news) → (∀ p ∈ news, p.1 < x) → Q (.ref x) { s with heap := h', toks := tk' }) :
   wpAny (model prog w) (ktrTop dp un gd cn cs L a ccd cl outer) (call (.ref f) [v]) Q E s := by
  obtain ⟨ta, dx, en, st, tx, vl, rfl, hA1, hA2, ⟨ten, rfl⟩, ⟨tst, rfl⟩, ⟨ttx, rfl⟩, hvl⟩ := hv
  obtain ⟨hf1, hf2, hf3⟩ := hfit
  unfold tokObj at hA1
  have hk0 := C.k
  refine wpAny_call ?_
  with_unfolding_all (refine' enterN (binds := [("s", .ref ta)]) C ?kA ?kF ?kK hf hoc hod hov ?k8 ?k9 ?kB ?_ ?c2 ?c3 ?c4 ?c5; (case kA => exact rfl); (case kF => exact rfl); (case kK => exact hk0); (case k8 => (show dp < _; omega)); (case k9 => exact BindsTo.of_eq rfl); (case kB => exact locs rfl); (case c2 => exact rfl); (case c3 => exact rfl); (case c4 => exact rfl); (case c5 => decide))
  intro g2 L2 hh2 C2 hlt2
  obtain ⟨⟨A2, B2⟩, F2, XB2, N2, ⟨p2, loose2, mean2, mg2, mb2, TB2⟩, D2, hk2⟩ := id C2
  have X2 := XB2.keeps B2.stays
  have T2 := TB2.keeps B2.stays
  with_unfolding_all show wpAny _ ((ktrTop dp un gd cn cs L a ccd cl outer).deeper (envX _ ⟨_, _, _, _, _⟩ _ _ _ _)) (execs (_ :: _) (envX _ ⟨_, _, _, _, _⟩ _ _ _ _)) _ _ _
  try k_fold
  k_steps
  rename Fr g2 _ _ _ => F9
  rename News g2 _ _ _ => N9
  exact leaveC0 F9 N9 fun C => hQ _ _ _ _ _ C (by assumption)
theorem sort_spec {R : Result → Shared → Prop} {l : Addr} {vs : List Value} {n : Nat} {ds : List TokD}
   (C : Cx (Mine.hd.heap_39 w.params) cs outer base h₀ L s.heap m news) (hd : dp + 20 < recursionLimit) (hu : un + 100 < cLine)
   (hl : (l, listOf vs.toArray n) ∈ news) (hv : ToksIn 271 news vs ds) (hdn : (ds.map keyT).Nodup) (hn1 : 1 ≤ ds.length) (hn2 : ds.length < 64) (hfit : ∀ d ∈ ds, TokFit d) (hCd : CodeHd base 235 231) (hP : TabSt 231 keyPos "Token.sort.<locals>.key" news)
   (hQ : ∀ h' tk' D c vs' ds' led', Cx (Mine.hd.heap_39 w.params) cs outer base h₀ L h' m ((D, listOf vs'.toArray c) :: led') → (∀ q ∈ news, q.1 ≠ 231 → q ∈ led') → (∀ q ∈ led', q.1 < D) → TabSt 231 keyPos "Token.sort.<locals>.key" led' → ToksIn 271 led' vs' ds' → ds'.Perm ds → ds'.Pairwise KeyLt → R (.ok (.ret (.ref D))) { s with heap := h', toks := tk' }) :
   codeAny (model prog w) (ktrTop dp un gd cn cs L a ccd cl outer) (.call (.ref 236) ⟨[.ref 271, .ref l], []⟩) R s := by
  obtain ⟨⟨A0, B0⟩, F0, XB0, N0, ⟨p0, loose0, mean0, mg0, mb0, TB0⟩, D0, hk0⟩ := id C
  have X0 := XB0.keeps B0.stays
  have T0 := TB0.keeps B0.stays
  k_dflt (refine' enterC C ?kA ?kF ?kK ?k6 ?k7 ?k8 ?k9 ?kB ?_ ?c2 ?c3 ?c4 ?c5; (case kA => exact rfl); (case kF => exact rfl); (case kK => exact hk0); (case k6 => k_is); (case k7 => k_is); (case k8 => (show dp < _; omega)); (case k9 => first | exact BindsTo.of_eq rfl | exact binds_K (by k_in) rfl (by k_is) rfl rfl rfl); (case kB => exact locs rfl); (case c2 => exact rfl); (case c3 => exact rfl); (case c4 => exact rfl); (case c5 => decide); k_whole)
  intro g L1 hh1 C1 hlt1
  clear B0 F0 N0 X0 T0 D0
  obtain ⟨⟨A1, B1⟩, F1, XB1, N1, ⟨p1, loose1, mean1, mg1, mb1, TB1⟩, D1, hk1⟩ := id C1
  have X1 := XB1.keeps B1.stays
  have T1 := TB1.keeps B1.stays
  dsimp only
  try k_fold
  k_steps
  refine Stop.off ?_
  rename Fr _ _ _ _ => F3
  rename News _ _ _ _ => N3
  k_dflt (refine' nestDef_K ?d0 ?k0 ?a0 ?_; (case d0 => exact rfl); (case k0 => exact rfl); (case a0 => exact rfl))
  have h231 : (231 : Nat) < L1 := by
    rcases hP with h | ⟨_, _, _, _, h, _⟩
    · exact hlt1 _ h
    · exact hlt1 _ h
  k_dflt (refine make_nest (cl := []) (mg := mg1) F3 N3 T1 (hCd.keeps B1.stays) rfl hP rfl ?_)
  intro f c' oc vs' t ctv doc h4 tk4 led4 F4 N4 hf hoc hod hov hS4 hsub hlt4 hnew
  have hsub' : ∀ q ∈ news, (∀ vs, q.2.data ≠ .fields vs) → q ∈ led4 := fun q hq hne => hsub q hq (tab_off N3 hP hq hne)
  have hl4 := hsub' _ hl (fun vs q => by cases q)
  have hv4 := toks_off hsub' hv
  have hvl := toks_len hv
  clear F3 N3
  k_steps
  refine Stop.off ?_
  rename Fr _ _ _ _ => F5
  rename News _ _ _ _ => N5
  obtain ⟨m5, F5⟩ : ∃ m5 : Str → Option Value, Fr g L1 _ m5 := ⟨_, F5⟩
  have key : ∀ (i : Nat) (v : Value) (k : I2), vs[i]? = some v → (ds.map keyT)[i]? = some k → ∃ d, TokIn 271 led4 v d ∧ TokFit d ∧ keyT d = k := fun i v k hvi hki => by
    obtain ⟨d, hd1, hd2⟩ := toks_at hv4 hvi
    rw [List.getElem?_map, hd1] at hki
    exact ⟨d, hd2, hfit d (List.mem_of_getElem? hd1), Option.some.inj hki⟩
  by_cases h2 : 2 ≤ vs.length
  · k_dflt (refine sorted_key F5 N5 hl4 (kz := ds.map keyT) (by rw [List.length_map, hvl]) h2 (by omega) hdn (fun i v k hvi hki h tk led F6 N6 hb => ?_) ?_)
    · obtain ⟨d, k1, k2, k3⟩ := key i v k hvi hki
      (with_unfolding_all refine key_spec ⟨⟨_, B1⟩, F6, XB1, N6, ⟨_, _, _, _, _, TB1⟩, D1, hk1⟩ ?_ ?_ (hb _ hf) (hb _ hoc) hod hov (toks_mono hb (.cons k1 .nil) |> fun | .cons h _ => h) k2 ?_)
      · show dp + 1 + 10 < _; omega
      · show un + 3 + 1 + 1 + 60 < _; omega
      intro h' tk' x t u C' hx
      rw [k3] at C'
      exact ⟨h', tk', x, t, u, rfl, rfl, C'.F, C'.N, fun p hp => Nat.ne_of_lt (hx p hp)⟩
    · intro D c h' tk p F6 N6 hlt6 hsp
      obtain ⟨es, q1, q2⟩ := toks_pick hv4 p (fun i hi => by have := (hsp.1.mem_iff).mp hi; rw [List.mem_range, List.length_map] at this; exact this)
      have q3 := hsp.1
      rw [List.length_map] at q3
      exact leaveC0 F6 N6 fun C => hQ h' tk D c _ es led4 C hsub hlt6 hS4 q2 (pick_perm q1 q3) (pick_sorted q1 hsp.2)
  · obtain ⟨v, rfl⟩ : ∃ v, vs = [v] := by
      match vs, hvl, h2 with
      | [], hvl, _ => rw [← hvl] at hn1; exact absurd hn1 (by decide)
      | [v], _, _ => exact ⟨v, rfl⟩
      | _ :: _ :: _, _, h2 => exact absurd (by simp) h2
    obtain ⟨d, rfl⟩ : ∃ d, ds = [d] := by
      match ds, hvl with
      | [d], _ => exact ⟨d, rfl⟩
    obtain ⟨d', k1, k2, k3⟩ := key 0 v (keyT d) rfl rfl
    k_dflt (refine sorted_key1 (k := keyT d) F5 N5 hl4 (fun h tk led F6 N6 hb => ?_) ?_)
    · (with_unfolding_all refine key_spec ⟨⟨_, B1⟩, F6, XB1, N6, ⟨_, _, _, _, _, TB1⟩, D1, hk1⟩ ?_ ?_ (hb _ hf) (hb _ hoc) hod hov (toks_mono hb (.cons k1 .nil) |> fun | .cons h _ => h) k2 ?_)
      · show dp + 1 + 10 < _; omega
      · show un + 3 + 1 + 1 + 60 < _; omega
      intro h' tk' x t u C' hx
      rw [k3] at C'
      exact ⟨h', tk', x, t, u, rfl, rfl, C'.F, C'.N, fun p hp => Nat.ne_of_lt (hx p hp)⟩
    · intro D c h' tk F6 N6 hlt6
      exact leaveC0 F6 N6 fun C => hQ h' tk D c _ [d] led4 C hsub hlt6 hS4 hv4 (.refl _) (List.pairwise_singleton _ _)
end
end Mine
end
section
theorem Mine.switch_S51 : True := by
  w_top off
  trivial
open Lean Elab Tactic Meta PySem PySem.W PySem.Calls PyProof.Rows
set_option pp.deepTerms false
set_option pp.maxSteps 800
set_option pp.deepTerms.threshold 5
namespace Mine
local macro_rules | `(tactic| walk_at "exec For Name Name cons nil") => `(tactic| (refine Mine.Stop.on ?_))
local macro_rules | `(tactic| walk_at "exec For Name Call cons nil") => `(tactic| (refine Mine.Stop.on ?_))
local macro_rules | `(tactic| walk_at "exec Assign cons ListComp") => `(tactic| (refine Mine.Stop.on ?_))
local macro_rules | `(tactic| walk_at "LeaveC") => `(tactic| fail "here")
local macro_rules | `(tactic| k_room) => `(tactic| first | ktr_room | ((simp only [Mine.mark_depth, depth_under_make, depth_under_kw, depth_in1, depth_deeper, depth_caller]); (try dsimp only [ktrTop]); (try simp only [recursionLimit] at *); omega))
local macro_rules | `(tactic| k_all) => `(tactic| first | assumption | exact Mine.offLt (by assumption) | exact Mine.offLt2 (by assumption) (by assumption) | (refine List.forall_mem_append.mpr ⟨?a, ?b⟩; (case a => k_all); (case b => k_all)))
local macro_rules | `(tactic| walk_at "setItem ref str") => `(tactic| (k_here; k_dflt (refine' kda_setB (knd := PySem.strKind _ _) ?F ?N ?hm ?d (strKind_is _ _ _ _) ?z ?_; (case F => k_asm); (case N => k_asm); (case hm => k_mem); (case d => k_asm); (case z => k_asm)); intro h' o' F' N' hd'))
local macro_rules | `(tactic| walk_at "compareOp Is str ref") => `(tactic| (k_here; refine wpAny_is_other (by rfl) (by intro x; cases x) ?_))
local macro_rules | `(tactic| k_mem) => `(tactic| assumption)
local macro_rules | `(tactic| walk_at "eval Name") => `(tactic| (k_here; (with_reducible show wpAny _ _ (eval (Expr.Name _ _) (envOf _ _ _ _ _)) _ _ _); k_dflt (refine' ld ?k1 ?k2 ?_; (case k1 => k_asm); (case k2 => first | exact rfl | assumption); k_whole)))
local macro_rules | `(tactic| walk_at "eval Name") => `(tactic| (k_here; (with_reducible show wpAny _ _ (eval (Expr.Name _ _) (envOfC _ _ _ _ _)) _ _ _); k_dflt (refine' nameX_L ?F ?v ?_ ?a ?b; (case F => k_asm); (case a => rfl); (case b => rfl); (case v => first | rfl | assumption); k_whole)))
local macro_rules | `(tactic| walk_at "call builtin:len") => `(tactic| (k_here; (with_reducible show wpAny _ _ (call (Value.builtin "len") [Value.ref _]) _ _ _); k_dflt (first | refine len_L (by k_asm) (by k_mem) (by omega) ?_ | refine len_T (by k_asm) (by k_mem) (by omega) ?_)))
local macro_rules | `(tactic| walk_at "subscriptTail") => `(tactic| (k_here; (with_reducible show wpAny _ _ (subscriptTail _ (PySem.Expr.Slice _ _ _ _) (Value.ref _) (Value.ref _)) _ _ _); refine Mine.Stop.on ?_))
local macro_rules | `(tactic| walk_at "compareOp Eq ref ref") => `(tactic| (refine Mine.Stop.on ?_))
local macro_rules | `(tactic| walk_at "compareOp NotEq ref ref") => `(tactic| (refine Mine.Stop.on ?_))
local macro_rules | `(tactic| walk_at "call type:list") => `(tactic| (k_here; k_dflt (refine list_of_tuple (by k_asm) (by k_asm) (by k_mem) (by omega) ?_); intro D' c' h' F' N' l1; (try k_sweep)))
local macro_rules | `(tactic| walk_at "call ref") => `(tactic| ((rename News _ _ _ ((_, methodObj _ _) :: _) => kN); refine Mine.Stop.on ?_))
local macro_rules | `(tactic| walk_at "exec While") => `(tactic| (refine Mine.Stop.on ?_))
local macro_rules | `(tactic| walk_at "subscriptTail") => `(tactic| (refine Mine.Stop.on ?_))
local macro_rules | `(tactic| walk_at "delItem ref int") => `(tactic| (refine Mine.Stop.on ?_))
local macro_rules | `(tactic| walk_at "loadName") => `(tactic| (k_here; k_dflt (refine' ldn ?k1 ?k2 ?_; (case k1 => k_asm); (case k2 => first | exact rfl | assumption); k_whole)))
/-! what filter_overlapping leaves -/
def dropIn (c : TokD) (r : List TokD) : List TokD := r.dropWhile fun d => decide (d.st ≤ c.en)
def filtT : Nat → List TokD → List TokD
  | 0, l => l
  | _ + 1, [] => []
  | f + 1, c :: r => c :: filtT f (dropIn c r)
theorem dropIn_len (c : TokD) : ∀ r, (dropIn c r).length ≤ r.length
  | [] => Nat.le_refl _
  | d :: r => by
    unfold dropIn
    rw [List.dropWhile_cons]
    split
    · exact Nat.le_trans (dropIn_len c r) (Nat.le_succ _)
    · exact Nat.le_refl _
theorem filtT_fuel : ∀ (f : Nat) (l : List TokD), l.length ≤ f → filtT f l = filtT l.length l
  | 0, l, h => by rw [List.eq_nil_of_length_eq_zero (Nat.le_zero.mp h)]; rfl
  | f + 1, [], _ => rfl
  | f + 1, c :: r, h => by
    have h1 := dropIn_len c r
    simp only [List.length_cons] at h
    show c :: filtT f (dropIn c r) = c :: filtT r.length (dropIn c r)
    rw [filtT_fuel f _ (by omega), filtT_fuel r.length _ h1]
def filt (l : List TokD) : List TokD := filtT l.length l
theorem filt_cons (c : TokD) (r : List TokD) : filt (c :: r) = c :: filt (dropIn c r) := by
  show c :: filtT r.length (dropIn c r) = _
  rw [filtT_fuel _ _ (dropIn_len c r)]; rfl
theorem filt_short {l : List TokD} (h : l.length ≤ 1) : filt l = l := by
  match l, h with
  | [], _ => rfl
  | [c], _ => rfl
  | _ :: _ :: _, h => simp only [List.length_cons] at h; omega
theorem dropIn_nil (c : TokD) : dropIn c [] = [] := rfl
theorem dropIn_in {c d : TokD} {r : List TokD} (h : d.st ≤ c.en) : dropIn c (d :: r) = dropIn c r := by
  unfold dropIn; rw [List.dropWhile_cons, if_pos (decide_eq_true h)]
theorem dropIn_out {c d : TokD} {r : List TokD} (h : c.en < d.st) : dropIn c (d :: r) = d :: r := by
  unfold dropIn; rw [List.dropWhile_cons, if_neg (by simp; omega)]
def Lap (a b : TokD) : Prop := a.en < b.st ∨ (a.st ≤ b.st ∧ b.en ≤ a.en)
theorem toks_cut {cT : Addr} {a : List (Addr × Obj)} : ∀ {ds es : List TokD} {vs : List Value}, ToksIn cT a vs (ds ++ es) → ∃ us ws, vs = us ++ ws ∧ ToksIn cT a us ds ∧ ToksIn cT a ws es
  | [], _, vs, h => ⟨[], vs, rfl, .nil, h⟩
  | d :: ds, es, _, .cons h r => by
    obtain ⟨us, ws, e, h1, h2⟩ := toks_cut (ds := ds) r
    exact ⟨_ :: us, ws, by rw [e]; rfl, .cons h h1, h2⟩
theorem toks_hd {cT : Addr} {a : List (Addr × Obj)} {d : TokD} {ds : List TokD} {vs : List Value} (h : ToksIn cT a vs (d :: ds)) : ∃ v us, vs = v :: us ∧ TokIn cT a v d ∧ ToksIn cT a us ds := by
  cases h with
  | cons h r => exact ⟨_, _, rfl, h, r⟩
def FiltMid (g : Heap) (L1 D : Addr) (led2 : List (Addr × Obj)) (done : List TokD) (cur : TokD) (r : List TokD) (s : Shared) (f : Flow) (s' : Shared) : Prop :=
  f = .next ∧ ∃ h' tk' m' vs2 c2 r2, s' = { s with heap := h', toks := tk' } ∧ Fr g L1 h' m' ∧ News g L1 h' ((D, listOf (List.toArray vs2) c2) :: led2) ∧ m' "tokens" = some (.ref D) ∧ (∃ t, m' "i" = some (.int (done.length : Nat) t)) ∧ ToksIn 271 led2 vs2 (done ++ cur :: r2) ∧ r2.Pairwise Lap ∧ (∀ d ∈ r2, TokFit d) ∧ r2 = dropIn cur r ∧ r2.length ≤ r.length
section
variable {prog : Program} {w : World} {dp un : Nat} {gd : Option (List Code)} {cn : Str} {cs : Scope} {a : Addr} {ccd : Value} {cl : List (Str × Addr)} {outer : List Env} {base h₀ : Heap} {L : Addr} {m : Str → Option Value} {news : List (Addr × Obj)} {s : Shared} {Q E : Value → Shared → Prop}
set_option maxRecDepth 100000
set_option maxHeartbeats 1000000
set_option maxHeartbeats 4000000
theorem filter_spec {l : Addr} {vs : List Value} {n : Nat} {ds out : List TokD}
   (C : Cx (Mine.hd.heap_39 w.params) cs outer base h₀ L s.heap m news) (hd : dp + 30 < recursionLimit) (hu : un + 150 < cLine)
   (hl : (l, listOf vs.toArray n) ∈ news) (hv : ToksIn 271 news vs ds) (hdn : (ds.map keyT).Nodup) (hn1 : 1 ≤ ds.length) (hn2 : ds.length < 64) (hfit : ∀ d ∈ ds, TokFit d) (hCd : CodeHd base 235 231) (hP : TabSt 231 keyPos "Token.sort.<locals>.key" news)
   (hout : ∀ ds', ds'.Perm ds → ds'.Pairwise KeyLt → ds'.Pairwise Lap ∧ filt ds' = out)
   (hQ : ∀ h' tk' D c vs' led', Cx (Mine.hd.heap_39 w.params) cs outer base h₀ L h' m ((D, listOf vs'.toArray c) :: led') → (∀ q ∈ news, q.1 ≠ 231 → q ∈ led') → (∀ q ∈ led', q.1 < D) → TabSt 231 keyPos "Token.sort.<locals>.key" led' → ToksIn 271 led' vs' out → Q (.ref D) { s with heap := h', toks := tk' }) :
   wpAny (model prog w) (ktrTop dp un gd cn cs L a ccd cl outer) (call (.ref 180) [.ref l]) Q E s := by
  obtain ⟨⟨A0, B0⟩, F0, XB0, N0, ⟨p0, loose0, mean0, mg0, mb0, TB0⟩, D0, hk0⟩ := id C
  have X0 := XB0.keeps B0.stays
  have T0 := TB0.keeps B0.stays
  refine wpAny_call ?_
  k_dflt (refine' enterC C ?kA ?kF ?kK ?k6 ?k7 ?k8 ?k9 ?kB ?_ ?c2 ?c3 ?c4 ?c5; (case kA => exact rfl); (case kF => exact rfl); (case kK => exact hk0); (case k6 => k_is); (case k7 => k_is); (case k8 => (show dp < _; omega)); (case k9 => first | exact BindsTo.of_eq rfl | exact binds_K (by k_in) rfl (by k_is) rfl rfl rfl); (case kB => exact locs rfl); (case c2 => exact rfl); (case c3 => exact rfl); (case c4 => exact rfl); (case c5 => decide); k_whole)
  intro g L1 hh1 C1 hlt1
  clear B0 F0 N0 X0 T0 D0
  obtain ⟨⟨A1, B1⟩, F1, XB1, N1, ⟨p1, loose1, mean1, mg1, mb1, TB1⟩, D1, hk1⟩ := id C1
  have X1 := XB1.keeps B1.stays
  have T1 := TB1.keeps B1.stays
  dsimp only
  try k_fold
  k_steps
  refine Stop.off ?_
  rename Fr _ _ _ _ => F1b
  rename News _ _ _ _ => N1b
  rename ∀ p ∈ news, p.1 < _ => hq1
  k_dflt (refine call_meth N1b (.head _) ?_)
  k_dflt (refine sort_spec ⟨⟨_, B1⟩, F1b, XB1, N1b, ⟨_, _, _, _, _, TB1⟩, D1, hk1⟩ ?_ ?_ (.tail _ hl) (toks_mono (fun p hp => .tail _ hp) hv) hdn hn1 hn2 hfit hCd (tabSt_mono hP fun p hp => .tail _ hp) ?_)
  · show dp + 1 + 20 < _; omega
  · show un + 3 + 100 < _; omega
  intro h2 tk2 D c vs2 ds2 led2 C2 hsub2 hlt2 hS2 hv2 hperm hsort
  have F2 := C2.F
  have N2 := C2.N
  clear F1 N1 F1b N1b
  try dsimp only
  k_steps
  refine Stop.off ?_
  rename Fr _ _ _ _ => F3
  rename News _ _ _ _ => N3
  obtain ⟨hlap, hfl⟩ := hout ds2 hperm hsort
  have hlen2 := hperm.length_eq
  have hfit2 : ∀ d ∈ ds2, TokFit d := fun d hd => hfit d (hperm.mem_iff.mp hd)
  k_dflt (refine While_J (n₀ := ds2.length) (fun k m' nx => ∃ done rest vs' c', nx = (D, listOf (List.toArray vs') c') :: led2 ∧ m' "tokens" = some (.ref D) ∧ (∃ t, m' "i" = some (.int (done.length : Nat) t)) ∧ ToksIn 271 led2 vs' (done ++ rest) ∧ rest.Pairwise Lap ∧ (∀ d ∈ rest, TokFit d) ∧ done ++ filt rest = out ∧ k = rest.length ∧ (done ++ rest).length ≤ 64) F3 N3 ⟨[], ds2, vs2, c, rfl, rfl, ⟨_, rfl⟩, hv2, hlap, hfit2, hfl, rfl, by simp; omega⟩ ?_)
  rintro k m₁ nx h4 tk4 F4 N4 ⟨done, rest, vs', c', rfl, hm1, ⟨ti, hm2⟩, hv', hlap', hfit', hout', rfl, hz'⟩
  clear F3 N3 hv2 hfl hlap
  have hDm : (D, listOf (List.toArray vs') c') ∈ (D, listOf (List.toArray vs') c') :: led2 := .head _
  have hvl := toks_len hv'
  have hvz : vs'.length ≤ 64 := by omega
  have hll : (vs'.length : Int) = (done.length : Int) + rest.length := by rw [hvl, List.length_append]; omega
  generalize hlq : (D, listOf (List.toArray vs') c') :: led2 = ledq at *
  k_steps
  · refine Stop.off ?_
    rename Fr _ _ _ _ => F5
    rename News _ _ _ _ => N5
    obtain ⟨cur, r, rfl⟩ : ∃ cur r, rest = cur :: r := by
      cases rest with
      | nil => exfalso; simp only [List.length_nil] at hll; omega
      | cons cur r => exact ⟨cur, r, rfl⟩
    rw [filt_cons] at hout'
    refine wpAny_mono (Q := FiltMid g L1 D led2 done cur r { s with heap := h4, toks := tk4 }) ?_ ?_ (fun _ _ e => e)
    · k_dflt (refine While_J (n₀ := r.length) (fun k m' nx => ∃ vs2 c2 r2, nx = (D, listOf (List.toArray vs2) c2) :: led2 ∧ m' "tokens" = some (.ref D) ∧ (∃ t, m' "i" = some (.int (done.length : Nat) t)) ∧ (∃ t, m' "j" = some (.int ((done.length : Nat) + 1) t)) ∧ ToksIn 271 led2 vs2 (done ++ cur :: r2) ∧ (cur :: r2).Pairwise Lap ∧ (∀ d ∈ cur :: r2, TokFit d) ∧ dropIn cur r2 = dropIn cur r ∧ k = r2.length ∧ r2.length ≤ r.length) F5 (hlq ▸ N5) ⟨vs', c', r, rfl, hm1, ⟨_, hm2⟩, ⟨_, rfl⟩, hv', hlap', hfit', rfl, rfl, Nat.le_refl _⟩ ?_)
      rintro k m₂ nx h6 tk6 F6 N6 ⟨vs2, c2, r2, rfl, hn1', ⟨tj, hn2'⟩, ⟨tk2, hn3'⟩, hv2, hlap2, hfit2, hdrop2, rfl, hrl⟩
      clear F5 N5 hDm hlq
      obtain ⟨us, ws0, rfl, hus, hws0⟩ := toks_cut hv2
      obtain ⟨cv, ws, rfl, hcv, hws1⟩ := toks_hd hws0
      have hul := toks_len hus
      have hwl := toks_len hws1
      have hD2 : (D, listOf (List.toArray (us ++ cv :: ws)) c2) ∈ (D, listOf (List.toArray (us ++ cv :: ws)) c2) :: led2 := .head _
      have hvl2 := toks_len hv2
      rw [List.length_append, List.length_cons] at hvl2 hz'
      have hvz2 : (us ++ cv :: ws).length ≤ 64 := by rw [List.length_append, List.length_cons]; omega
      have hll2 : ((us ++ cv :: ws).length : Int) = (done.length : Int) + 1 + r2.length := by rw [List.length_append, List.length_cons]; omega
      have hup2 : ∀ p ∈ led2, p ∈ (D, listOf (List.toArray (us ++ cv :: ws)) c2) :: led2 := fun p hp => .tail _ hp
      generalize hlq : (D, listOf (List.toArray (us ++ cv :: ws)) c2) :: led2 = ledq at *
      k_steps
      · refine Stop.off ?_
        refine list_item (PySem.IsL.isList (n := c2) (N6 _ hD2).1) (by omega) (by omega) (v := cv) (by rw [Int.toNat_natCast, ← hul]; simp) ?_
        obtain ⟨nx, r3, rfl⟩ : ∃ nx r3, r2 = nx :: r3 := by
          cases r2 with
          | nil => exfalso; simp only [List.length_nil] at hll2; omega
          | cons nx r3 => exact ⟨nx, r3, rfl⟩
        obtain ⟨nv, ws, rfl, hnv, hws2⟩ := toks_hd hws1
        have hcv' := toks_mono hup2 (.cons hcv .nil)
        have hnv' := toks_mono hup2 (.cons hnv .nil)
        obtain ⟨ta, dx, en, st, tx, vl, rfl, hA1, hA2, ⟨ten, rfl⟩, ⟨tst, rfl⟩, ⟨ttx, rfl⟩, hvlA⟩ := (hcv' |> fun | .cons h _ => h)
        obtain ⟨tb, dy, en2, st2, tx2, vl2, rfl, hB1, hB2, ⟨ten2, rfl⟩, ⟨tst2, rfl⟩, ⟨ttx2, rfl⟩, hvlB⟩ := (hnv' |> fun | .cons h _ => h)
        unfold tokObj at hA1 hB1
        k_steps
        refine Stop.off ?_
        rename Fr _ _ _ _ => F7
        rename News _ _ _ _ => N7
        refine list_item (PySem.IsL.isList (n := c2) (N7 _ hD2).1) (by omega) (by omega) (v := .ref tb) (by rw [show ((done.length : Int) + 1).toNat = us.length + 1 by omega]; simp) ?_
        have hfn := hfit2 nx (.tail _ (.head _))
        have hnl := (List.pairwise_cons.mp hlap2).1 nx (.head _)
        have hlap3 : (cur :: r3).Pairwise Lap := List.Pairwise.sublist (List.cons_sublist_cons.mpr (List.sublist_cons_self _ _)) hlap2
        have hfit3 : ∀ d ∈ cur :: r3, TokFit d := fun d hd => hfit2 d (by
          rcases List.mem_cons.mp hd with rfl | hd
          · exact .head _
          · exact .tail _ (.tail _ hd))
        obtain ⟨hf1, hf2, hf3⟩ := hfn
        rw [List.length_cons] at hrl
        rcases hnl with hL | ⟨hL1, hL2⟩
        · k_steps
          rename Fr g L1 _ _ => F8
          rename News g L1 _ _ => N8
          rw [dropIn_out hL] at hdrop2
          exact ⟨rfl, _, _, _, _, _, _, rfl, F8, hlq ▸ N8, hn1', ⟨_, hn2'⟩, hv2, (List.pairwise_cons.mp hlap2).2, fun d hd => hfit2 d (.tail _ hd), hdrop2, hrl⟩
        · have hL3 : nx.st ≤ cur.en := by omega
          k_steps
          refine Stop.off ?_
          rename Fr g L1 _ _ => F8
          rename News g L1 _ _ => N8
          refine del_B (k := us.length + 1) F8 N8 hD2 (by omega) (by simp) (by omega) fun h9 F9 N9 => ?_
          rw [show (us ++ .ref ta :: .ref tb :: ws).eraseIdx (us.length + 1) = us ++ .ref ta :: ws by rw [List.eraseIdx_append_of_length_le (by omega)]; simp] at N9
          k_steps
          refine WStep.cont F9 (News.sub (h₀ := g) (L := L1) N9 fun p hp => ?_) (n' := r3.length) (by simp) ⟨us ++ .ref ta :: ws, c2 + 1, r3, rfl, hn1', ⟨_, hn2'⟩, ⟨_, hn3'⟩, ?_, hlap3, hfit3, by rw [← hdrop2, dropIn_in hL3], rfl, by omega⟩
          · rcases List.mem_cons.mp hp with rfl | hp
            · exact .head _
            · exact mem_put (hup2 p hp) (Nat.ne_of_lt (hlt2 p hp))
          · exact toks_app hus (.cons hcv hws2)
      · rename Fr g L1 _ _ => F8
        have hr2 : r2 = [] := List.eq_nil_of_length_eq_zero (by omega)
        subst hr2
        exact ⟨rfl, _, _, _, _, _, _, rfl, F8, hlq ▸ N6, hn1', ⟨_, hn2'⟩, hv2, .nil, (fun d hd => nomatch hd), hdrop2, Nat.zero_le _⟩
    · rintro f s' ⟨rfl, h7, tk7, m7, vs7, c7, r7, rfl, F7, N7, hm71, ⟨t7, hm72⟩, hv7, hlap7, hfit7, hr7, hrl7⟩
      clear F5 N5
      try dsimp only
      have hD7 : (D, listOf (List.toArray vs7) c7) ∈ (D, listOf (List.toArray vs7) c7) :: led2 := .head _
      generalize hlq7 : (D, listOf (List.toArray vs7) c7) :: led2 = ledq7 at *
      k_steps
      rename Fr g L1 _ _ => F8
      rename News g L1 _ _ => N8
      rw [List.length_append, List.length_cons] at hz'
      have e : done ++ cur :: r7 = (done ++ [cur]) ++ r7 := by simp
      rw [e] at hv7
      rw [← hr7, ← List.singleton_append, ← List.append_assoc] at hout'
      show WStep _ _ _ _ _ _ _ _
      refine WStep.next F8 (hlq7 ▸ N8) (n' := r7.length) (show r7.length < (cur :: r).length by rw [List.length_cons]; omega) ⟨done ++ [cur], r7, vs7, c7, rfl, hm71, ⟨_, (show _ = some (Value.int ((done.length : Int) + 1) _) from rfl).trans (by rw [List.length_append]; rfl)⟩, hv7, hlap7, hfit7, hout', rfl, by simp; omega⟩
  · rename Fr _ _ _ _ => F5
    have hr : rest.length ≤ 1 := by omega
    rw [filt_short hr] at hout'
    rw [hout'] at hv'
    rw [← hlq] at N4
    exact leaveC0 F5 N4 fun C => hQ _ _ D c' vs' led2 C (fun q hq hn => hsub2 q (.tail _ hq) hn) hlt2 hS2 hv'
end
end Mine
end
section
theorem Mine.switch_S52 : True := by
  w_top off
  trivial
open Lean Elab Tactic Meta PySem PySem.W PySem.Calls PyProof.Rows
set_option pp.deepTerms false
set_option pp.maxSteps 800
set_option pp.deepTerms.threshold 5
namespace Mine
local macro_rules | `(tactic| walk_at "exec For Name Name cons nil") => `(tactic| (refine Mine.Stop.on ?_))
local macro_rules | `(tactic| walk_at "exec For Name Call cons nil") => `(tactic| (refine Mine.Stop.on ?_))
local macro_rules | `(tactic| walk_at "exec Assign cons ListComp") => `(tactic| (refine Mine.Stop.on ?_))
local macro_rules | `(tactic| walk_at "LeaveC") => `(tactic| fail "here")
local macro_rules | `(tactic| k_room) => `(tactic| first | ktr_room | ((simp only [Mine.mark_depth, depth_under_make, depth_under_kw, depth_in1, depth_deeper, depth_caller]); (try dsimp only [ktrTop]); (try simp only [recursionLimit] at *); omega))
local macro_rules | `(tactic| k_all) => `(tactic| first | assumption | exact Mine.offLt (by assumption) | exact Mine.offLt2 (by assumption) (by assumption) | (refine List.forall_mem_append.mpr ⟨?a, ?b⟩; (case a => k_all); (case b => k_all)))
local macro_rules | `(tactic| walk_at "setItem ref str") => `(tactic| (k_here; k_dflt (refine' kda_setB (knd := PySem.strKind _ _) ?F ?N ?hm ?d (strKind_is _ _ _ _) ?z ?_; (case F => k_asm); (case N => k_asm); (case hm => k_mem); (case d => k_asm); (case z => k_asm)); intro h' o' F' N' hd'))
local macro_rules | `(tactic| walk_at "compareOp Is str ref") => `(tactic| (k_here; refine wpAny_is_other (by rfl) (by intro x; cases x) ?_))
local macro_rules | `(tactic| k_mem) => `(tactic| assumption)
local macro_rules | `(tactic| walk_at "eval Name") => `(tactic| (k_here; (with_reducible show wpAny _ _ (eval (Expr.Name _ _) (envOf _ _ _ _ _)) _ _ _); k_dflt (refine' ld ?k1 ?k2 ?_; (case k1 => k_asm); (case k2 => first | exact rfl | assumption); k_whole)))
local macro_rules | `(tactic| walk_at "eval Name") => `(tactic| (k_here; (with_reducible show wpAny _ _ (eval (Expr.Name _ _) (envOfC _ _ _ _ _)) _ _ _); k_dflt (refine' nameX_L ?F ?v ?_ ?a ?b; (case F => k_asm); (case a => rfl); (case b => rfl); (case v => first | rfl | assumption); k_whole)))
local macro_rules | `(tactic| walk_at "call builtin:len") => `(tactic| (k_here; (with_reducible show wpAny _ _ (call (Value.builtin "len") [Value.ref _]) _ _ _); k_dflt (first | refine len_L (by k_asm) (by k_mem) (by omega) ?_ | refine len_T (by k_asm) (by k_mem) (by omega) ?_)))
local macro_rules | `(tactic| walk_at "subscriptTail") => `(tactic| (k_here; (with_reducible show wpAny _ _ (subscriptTail _ (PySem.Expr.Slice _ _ _ _) (Value.ref _) (Value.ref _)) _ _ _); refine Mine.Stop.on ?_))
local macro_rules | `(tactic| walk_at "compareOp Eq ref ref") => `(tactic| (refine Mine.Stop.on ?_))
local macro_rules | `(tactic| walk_at "compareOp NotEq ref ref") => `(tactic| (refine Mine.Stop.on ?_))
local macro_rules | `(tactic| walk_at "call type:list") => `(tactic| (k_here; k_dflt (refine list_of_tuple (by k_asm) (by k_asm) (by k_mem) (by omega) ?_); intro D' c' h' F' N' l1; (try k_sweep)))
local macro_rules | `(tactic| walk_at "call ref") => `(tactic| ((with_reducible show wpAny _ _ (call (Value.ref 160) _) _ _ _); refine Mine.Stop.on ?_))
local macro_rules | `(tactic| walk_at "call ref") => `(tactic| ((with_reducible show wpAny _ _ (call (Value.ref 180) _) _ _ _); refine Mine.Stop.on ?_))
local macro_rules | `(tactic| walk_at "call type:list") => `(tactic| (refine Mine.Stop.on ?_))
local macro_rules | `(tactic| walk_at "call ref") => `(tactic| ((with_reducible show wpAny _ _ (call (Value.ref 160) _ _) _ _ _); refine Mine.Stop.on ?_))
section
variable {prog : Program} {w : World} {dp un : Nat} {gd : Option (List Code)} {cn : Str} {cs : Scope} {a : Addr} {ccd : Value} {cl : List (Str × Addr)} {outer : List Env} {base h₀ : Heap} {L : Addr} {m : Str → Option Value} {news : List (Addr × Obj)} {s : Shared} {Q E : Value → Shared → Prop}
set_option maxRecDepth 100000
set_option maxHeartbeats 1000000
set_option maxHeartbeats 4000000
theorem tokenize_spec {x : Str} {t : Tok} {H : TrieHd} {nd ndA : List Nd} {P : List (List Str)} {O : List (Option (Str × Str))} {ks : List Str} {rest : List (Addr × Obj)} {f : Nat → Option Nat} {out : List TokD}
   (X : Cx (Mine.hd.heap_39 w.params) cs outer base h₀ L s.heap m news) (hd : dp + 80 < recursionLimit) (hu : un + 450 < cLine) (hx : x.length ≤ 1000) (hx0 : x.length ≠ 0) (ha : x.cps.all (· < 128) = true)
   (hup : ∀ p ∈ hdObjs w.params 169 true H (adOf nd 0) ++ (objsOf 71 ndA ++ rest), p ∈ news) (hn : NodesOk prog w nd P) (hO : Outs 44 nd O rest) (hks : H.okd.IsDictOf (strKind prog w) (kvKnown ks)) (hlok : (H.kd == sysModules) = false)
   (hA : AutI prog w 44 nd ndA P (ex1 P ks) f) (hOl : ∀ (i : Nat) (ms ov : Str), O[i]? = some (some (ms, ov)) → ms.length ≤ 1000) (hf0 : f 0 = none) (hf : ∀ (i : Nat) (p : List Str), P[i]? = some p → p ≠ [] → f i = some (P.idxOf (fo P p)))
   (hb : AllBare s.gens) (hdn : ((iterOut P O ks true false x).map keyT).Nodup) (hn1 : 1 ≤ (iterOut P O ks true false x).length) (hn2 : (iterOut P O ks true false x).length < 64) (hfit : ∀ d ∈ iterOut P O ks true false x, TokFit d ∧ d.tx.length ≤ 1000 ∧ nonblank d.tx = true)
   (hCd : CodeHd base 235 231) (hP : TabSt 231 keyPos "Token.sort.<locals>.key" news) (hout : ∀ ds', ds'.Perm (iterOut P O ks true false x) → ds'.Pairwise KeyLt → ds'.Pairwise Lap ∧ filt ds' = out)
   (hQ : ∀ h' tk' gens' D c vs' led', AllBare gens' → Cx (Mine.hd.heap_39 w.params) cs outer base h₀ L h' m ((D, listOf vs'.toArray c) :: led') → (∀ q ∈ news, q.1 ≠ 231 → q ∈ led') → (∀ q ∈ led', q.1 < D) → TabSt 231 keyPos "Token.sort.<locals>.key" led' → ToksIn 271 led' vs' out → Q (.ref D) { s with gens := gens', heap := h', toks := tk' }) :
   wpAny (model prog w) (ktrTop dp un gd cn cs L a ccd cl outer) (call (.ref 166) [.ref H.tr, .str x t]) Q E s := by
  have C := X
  obtain ⟨⟨A0, B0⟩, F0, XB0, N0, ⟨p0, loose0, mean0, mg0, mb0, TB0⟩, D0, hk0⟩ := id C
  have X0 := XB0.keeps B0.stays
  have T0 := TB0.keeps B0.stays
  refine wpAny_call ?_
  k_dflt (refine' enterC C ?kA ?kF ?kK ?k6 ?k7 ?k8 ?k9 ?kB ?_ ?c2 ?c3 ?c4 ?c5; (case kA => exact rfl); (case kF => exact rfl); (case kK => exact hk0); (case k6 => k_is); (case k7 => k_is); (case k8 => (show dp < _; omega)); (case k9 => first | exact BindsTo.of_eq rfl | exact binds_K (by k_in) rfl (by k_is) rfl rfl rfl); (case kB => exact locs rfl); (case c2 => exact rfl); (case c3 => exact rfl); (case c4 => exact rfl); (case c5 => decide); k_whole)
  intro g L1 hh1 C1 hlt1
  clear B0 F0 N0 X0 T0 D0
  obtain ⟨⟨A1, B1⟩, F1, XB1, N1, ⟨p1, loose1, mean1, mg1, mb1, TB1⟩, D1, hk1⟩ := id C1
  have X1 := XB1.keeps B1.stays
  have T1 := TB1.keeps B1.stays
  dsimp only
  try k_fold
  have htr : (H.tr, ({ cls := .ref 169, dict := some H.dx, data := .plain } : Obj)) ∈ news := hup _ (.head _)
  have hdx : (H.dx, dictOf (hdEnts w.params true H (adOf nd 0)) 3) ∈ news := hup _ (.tail _ (.head _))
  unfold hdEnts at hdx
  k_steps
  refine Stop.off ?_
  rename Fr _ _ _ _ => F2
  rename News _ _ _ _ => N2
  k_dflt (refine iter_spec (u := true) (sp := false) ⟨⟨_, B1⟩, F2, XB1, N2, ⟨_, _, _, _, _, TB1⟩, D1, hk1⟩ ?_ ?_ hx hx0 ha (.inr (.inr rfl)) hup hn hO hks hlok hA hOl hf0 hf ?_)
  · show dp + 1 + 60 < _; omega
  · show un + 3 + 400 < _; omega
  intro C1 ag oC oag h3 tk3 gs hbare X3 hLC hCa hsz hlt hgen G
  have F3 := X3.F
  have N3 := X3.N
  clear F2 N2
  try dsimp only
  k_steps
  refine Stop.off ?_
  rename Fr _ _ _ _ => F4
  rename News _ _ _ _ => N4
  rename Heap => h4
  have hgen4 : h4.IsGen ag s.gens.size := by
    obtain ⟨o, q1, q2, ho, hc⟩ := hgen
    have h1 := (X3.N _ (.head _)).1
    dsimp only at h1
    rw [ho] at h1
    exact ⟨o, q1, q2, (N4 _ (.head _)).1.trans h1.symm, hc⟩
  k_dflt (refine list_iter (g := s.gens.size) ⟨⟨_, B1⟩, F4, XB1, N4, ⟨_, _, _, _, _, TB1⟩, D1, hk1⟩ (by rfl) (show dp + 1 < _ by omega) (fun p hp => .tail _ (.tail _ hp)) (.tail _ (.head _)) (.head _) hCa hLC hgen4 (by simp) G (by omega) (hb.push hbare) ?_)
  intro h5 tk5 gens5 S vs5 n5 led5 hbare5 X5 hkeep5 hS5 _ hT5 _
  have hk5 : ∀ p ∈ news, p ∈ led5 := fun p hp => hkeep5 p (.tail _ (.tail _ hp)) fun e => Nat.lt_irrefl _ (by have := hlt p hp; rw [e] at this; exact this)
  have F5 := X5.F
  have N5 := X5.N
  clear F4 N4
  try dsimp only
  generalize iterOut P O ks true false x = ds at *
  k_steps
  refine Stop.off ?_
  k_dflt (refine LCt.Assign_ListComp_T (F₀ := by k_asm) (by rfl) (by with_unfolding_all rfl) (by with_unfolding_all rfl) (by decide) (by rfl) (by decide) (by rfl) (by rfl) (by rfl) ?_)
  k_steps
  rename Fr g L1 _ _ => F6
  rename News g L1 _ _ => N6
  have hvl5 := toks_len hT5
  k_dflt (refine LCt.CompSrcT.ledger (by rfl) F6 N6 hS5 (by rw [sizeLine_eq, List.size_toArray]; omega) (fun _ => restT_ind (fun i ys nx => nx = led5 ∧ ys = vs5.take i) ?_ ?_ _ 0 _ _ (Nat.zero_add _) ⟨rfl, rfl⟩))
  rotate_left
  · rintro i ys nx v I oI C oC D m₂ h tk E' hi ⟨rfl, rfl⟩ hv hC hxv F N off ne
    have hv' : vs5[i]? = some v := by simpa using hv
    obtain ⟨d, hd1, hd2⟩ := toks_at hT5 hv'
    obtain ⟨-, hfl, hfb⟩ := hfit d (List.mem_of_getElem? hd1)
    unfold nonblank at hfb
    have hfb := of_decide_eq_true hfb
    have hnext : vs5.take (i + 1) = vs5.take i ++ [v] := by rw [List.take_add_one, hv']; rfl
    obtain ⟨ta, dx, en, st, tx, vl, rfl, hA1, hA2, ⟨ten, rfl⟩, ⟨tst, rfl⟩, ⟨ttx, rfl⟩, hvl⟩ := hd2
    have hA1' : (ta, tokObj 271 dx (.int d.en ten) (.int d.st tst) (.str d.tx ttx) vl) ∈ (I, oI) :: (C, oC) :: (D, LCg.lst (vs5.take i)) :: nx := .tail _ (.tail _ (.tail _ hA1))
    have hA2' : (dx, dictOf [] 0) ∈ (I, oI) :: (C, oC) :: (D, LCg.lst (vs5.take i)) :: nx := .tail _ (.tail _ (.tail _ hA2))
    unfold tokObj at hA1'
    k_steps
    · exact LCg.CompEnd.intro (by assumption) (by assumption) nx (fun p hp => hp) off (.inr ⟨_, hS5, rfl, _, rfl⟩) ⟨rfl, hnext.symm⟩
    · exfalso; omega
  · rintro ys nx ⟨rfl, rfl⟩ D h2 tk2 F2 N2 off2
    clear F6 N6
    rw [List.size_toArray, List.take_length] at N2
    try dsimp only
    try k_fold
    k_steps
    refine Stop.off ?_
    rename Fr g L1 _ _ => F7
    rename News g L1 _ _ => N7
    have hD7 : (D, listOf vs5.toArray vs5.length) ∈ (D, LCg.lst vs5) :: nx := .head _
    k_dflt (refine filter_spec (out := out) ⟨⟨_, B1⟩, F7, XB1, N7, ⟨_, _, _, _, _, TB1⟩, D1, hk1⟩ ?_ ?_ hD7 (toks_mono (fun p hp => .tail _ hp) hT5) hdn hn1 hn2 (fun d hd => (hfit d hd).1) hCd (tabSt_mono hP fun p hp => .tail _ (hk5 p hp)) hout ?_)
    · show dp + 1 + 30 < _; omega
    · show un + 3 + 150 < _; omega
    intro h8 tk8 D8 c8 vs8 led8 C8 hsub8 hlt8 hS8 hT8
    have F8 := C8.F
    have N8 := C8.N
    clear F7 N7
    try dsimp only
    k_steps
    rename Fr g L1 _ _ => F9
    rename News g L1 _ _ => N9
    exact leaveC0 F9 N9 fun C => hQ _ _ _ D8 c8 vs8 led8 hbare5 C (fun q hq hn => hsub8 q (.tail _ (hk5 q hq)) hn) hlt8 hS8 hT8
end
end Mine
end
section
open Lean Elab Tactic Meta PySem PySem.W PySem.Calls PyProof.Rows
set_option pp.deepTerms false
set_option pp.maxSteps 800
set_option pp.deepTerms.threshold 5
namespace Mine
def textOf (ws : List Str) (b : Bool) : Str := if b = true then Txt.upper (Txt.join (Str.ofString " ") ws) else Txt.join (Str.ofString " ") ws
def valOf (ws : List Str) : Str := Str.ofString "<" ++ textOf ws false ++ Str.ofString ">"
theorem join_len (ws : List Str) : (Txt.join (Str.ofString " ") ws).length ≤ (ws.map (·.length)).sum + ws.length := by
  rw [show Txt.join (Str.ofString " ") ws = Str.join (Str.ofString " ") ws from by simpa using join_plain_closes (Str.ofString " ") ws]
  induction ws with
  | nil => exact Nat.le_refl _
  | cons x r ih =>
    cases r with
    | nil => rw [join_one]; simp
    | cons y r =>
      rw [join_cons_cons, str_app_len, str_app_len]
      have e : (Str.ofString " ").length = 1 := rfl
      simp only [List.map_cons, List.sum_cons, List.length_cons] at *
      omega
/-! words, and the texts that they make -/
def goodC (c : Nat) : Bool := decide (c < 128) && decide (lo1 c = c) && decide (up1 c < 128) && decide (lo1 (up1 c) = c)
def textC (c : Nat) : Bool := decide (kindOf c = "text")
def okWord (w : Str) : Bool := w.cps.toList.all goodC && !w.cps.toList.isEmpty && (w.cps.toList == [40] || w.cps.toList == [41] || w.cps.toList.all textC) && nonblank w && decide (w.length ≤ 8)
def OkWs (ws : List Str) : Prop := ∀ w ∈ ws, okWord w = true
def wkind (w : Str) : Str := if w.cps.toList = [40] ∨ w.cps.toList = [41] then "parens" else "text"
theorem str_eta (w : Str) : (⟨w.cps.toList.toArray⟩ : Str) = w := by cases w; simp
theorem kind_ne1 : (Str.ofString "space" == Str.ofString "text") = false := by decide
theorem kind_ne2 : Str.ofString "text" ≠ Str.ofString "parens" := by decide
theorem fold_same {k : Str} (hk0 : k ≠ "parens") : ∀ (w : List Nat), (∀ c ∈ w, kindOf c = k) → ∀ (f : List Str) (u : Str), w.foldl splitStep (f ++ [u], k) = (f ++ [u ++ ⟨w.toArray⟩], k)
  | [], _, f, u => by
    have e : u ++ (⟨#[]⟩ : Str) = u := by show (⟨u.cps ++ #[]⟩ : Str) = u; cases u; simp
    simp [e]
  | c :: r, h, f, u => by
    rw [List.foldl_cons]
    have hc := h c (.head _)
    have e : splitStep (f ++ [u], k) c = (f ++ [u ++ ⟨#[c]⟩], k) := by
      unfold splitStep
      rw [hc, if_pos ⟨rfl, hk0⟩]
      simp [gl]
    rw [e, fold_same hk0 r (fun d hd => h d (.tail _ hd))]
    have e2 : u ++ (⟨#[c]⟩ : Str) ++ ⟨r.toArray⟩ = u ++ ⟨(c :: r).toArray⟩ := by
      show (⟨(u.cps ++ #[c]) ++ r.toArray⟩ : Str) = ⟨u.cps ++ (c :: r).toArray⟩
      congr 1
      rw [Array.append_assoc]; simp
    rw [e2]
theorem fold_seg {k : Str} (hk0 : k ≠ "parens") {w : List Nat} (hne : w ≠ []) (h : ∀ c ∈ w, kindOf c = k) {st : List Str × Str} (hst : st.2 ≠ k) : w.foldl splitStep st = (st.1 ++ [⟨w.toArray⟩], k) := by
  cases w with
  | nil => exact absurd rfl hne
  | cons c r =>
    rw [List.foldl_cons]
    have hc := h c (.head _)
    have e : splitStep st c = (st.1 ++ [⟨#[c]⟩], k) := by
      unfold splitStep
      rw [hc, if_neg (fun q => hst q.1.symm)]
    rw [e, fold_same hk0 r fun d hd => h d (.tail _ hd)]
    congr 2
    show [(⟨#[c] ++ r.toArray⟩ : Str)] = [⟨(c :: r).toArray⟩]
    congr 2; simp
theorem fold_word {w : Str} (hw : okWord w = true) {st : List Str × Str} (hst : st.2 ≠ "text") : w.cps.toList.foldl splitStep st = (st.1 ++ [w], wkind w) := by
  unfold okWord at hw
  simp only [Bool.and_eq_true, Bool.or_eq_true, beq_iff_eq, Bool.not_eq_true'] at hw
  obtain ⟨⟨⟨⟨h1, h2⟩, h3⟩, h4⟩, _⟩ := hw
  by_cases hp : w.cps.toList = [40] ∨ w.cps.toList = [41]
  · unfold wkind
    rw [if_pos hp]
    have : ∀ c, (c = 40 ∨ c = 41) → w.cps.toList = [c] → w.cps.toList.foldl splitStep st = (st.1 ++ [w], ("parens" : Str)) := fun c hc e => by
      have ew : w = ⟨#[c]⟩ := by rw [← str_eta w, e]
      rw [e, List.foldl_cons, List.foldl_nil, step_par (by unfold kindOf; rw [if_pos hc]), ew]
    rcases hp with hp | hp
    · exact this 40 (.inl rfl) hp
    · exact this 41 (.inr rfl) hp
  · unfold wkind
    rw [if_neg hp]
    have h3 : w.cps.toList.all textC = true := by
      rcases h3 with (h | h) | h
      · exact absurd (.inl h) hp
      · exact absurd (.inr h) hp
      · exact h
    rw [fold_seg (k := "text") kind_ne2 (by intro q; rw [q] at h2; cases h2) (fun c hc => of_decide_eq_true (List.all_eq_true.mp h3 c hc)) hst, str_eta]
theorem blank_kind : kindOf 32 = "space" := by decide +kernel
theorem wkind_ne (w : Str) : wkind w ≠ "space" := by
  unfold wkind
  split <;> decide
theorem fold_blank {st : List Str × Str} (hst : st.2 ≠ "space") : splitStep st 32 = (st.1 ++ [Str.ofString " "], ("space" : Str)) := by
  have := fold_seg (k := "space") (by decide) (w := [32]) (by simp) (fun c hc => by rw [List.mem_singleton.mp hc]; exact blank_kind) hst
  rw [List.foldl_cons, List.foldl_nil] at this
  rw [this]; rfl
/-- words with blanks between -/
def inter : List Str → List Str
  | [] => []
  | [w] => [w]
  | w :: x :: r => w :: Str.ofString " " :: inter (x :: r)
theorem cps_app (a b : Str) : (a ++ b).cps.toList = a.cps.toList ++ b.cps.toList := by
  show (a.cps ++ b.cps).toList = _; simp
theorem fold_join : ∀ (ws : List Str), OkWs ws → ws ≠ [] → ∀ {st : List Str × Str}, st.2 ≠ "text" → ((Str.join (Str.ofString " ") ws).cps.toList.foldl splitStep st).1 = st.1 ++ inter ws
  | [], _, h, _, _ => absurd rfl h
  | [w], h, _, st, hst => by rw [join_one, fold_word (h w (.head _)) hst]; rfl
  | w :: x :: r, h, _, st, hst => by
    rw [join_cons_cons, cps_app, cps_app, List.foldl_append, List.foldl_append, fold_word (h w (.head _)) hst]
    have e : (Str.ofString " ").cps.toList = [32] := rfl
    rw [e, List.foldl_cons, List.foldl_nil, fold_blank (wkind_ne w)]
    rw [fold_join (x :: r) (fun y hy => h y (.tail _ hy)) (by simp) (by show (Str.ofString "space") ≠ Str.ofString "text"; decide)]
    simp [inter]
theorem split_join {ws : List Str} (h : OkWs ws) (hne : ws ≠ []) : splitTok (Str.join (Str.ofString " ") ws) = inter ws := by
  unfold splitTok splitAt
  have e : (Str.join (Str.ofString " ") ws).cps.toList.take (Str.join (Str.ofString " ") ws).cps.size = (Str.join (Str.ofString " ") ws).cps.toList := by
    rw [← Array.length_toList, List.take_length]
  rw [e, fold_join ws h hne (by show Str.ofString "" ≠ Str.ofString "text"; decide), List.nil_append]
theorem blank_blank : nonblank (Str.ofString " ") = false := by decide +kernel
theorem word_nonblank {w : Str} (h : okWord w = true) : nonblank w = true := by
  unfold okWord at h
  simp only [Bool.and_eq_true] at h
  exact h.1.2
theorem filter_inter : ∀ {ws : List Str}, OkWs ws → (inter ws).filter nonblank = ws
  | [], _ => rfl
  | [w], h => by rw [inter, List.filter_cons, if_pos (word_nonblank (h w (.head _)))]; rfl
  | w :: x :: r, h => by
    rw [inter, List.filter_cons, if_pos (word_nonblank (h w (.head _))), List.filter_cons, if_neg (by rw [blank_blank]; decide), filter_inter fun y hy => h y (.tail _ hy)]
theorem join_good : ∀ {ws : List Str}, OkWs ws → ∀ c ∈ (Str.join (Str.ofString " ") ws).cps.toList, goodC c = true
  | [], _, c, hc => by cases hc
  | [w], h, c, hc => by
    rw [join_one] at hc
    have := h w (.head _)
    unfold okWord at this
    simp only [Bool.and_eq_true] at this
    exact List.all_eq_true.mp this.1.1.1.1 c hc
  | w :: x :: r, h, c, hc => by
    rw [join_cons_cons, cps_app, cps_app] at hc
    rcases List.mem_append.mp hc with hc | hc
    · rcases List.mem_append.mp hc with hc | hc
      · have := h w (.head _)
        unfold okWord at this
        simp only [Bool.and_eq_true] at this
        exact List.all_eq_true.mp this.1.1.1.1 c hc
      · have e : (Str.ofString " ").cps.toList = [32] := rfl
        rw [e] at hc
        rw [List.mem_singleton.mp hc]; decide
    · exact join_good (fun y hy => h y (.tail _ hy)) c hc
theorem txt_join (ws : List Str) : Txt.join (Str.ofString " ") ws = Str.join (Str.ofString " ") ws := by simpa using join_plain_closes (Str.ofString " ") ws
theorem lower_text {ws : List Str} (h : OkWs ws) (b : Bool) : Txt.lower (textOf ws b) = Str.join (Str.ofString " ") ws := by
  have hg := join_good h
  have g : ∀ c ∈ (Str.join (Str.ofString " ") ws).cps.toList, c < 128 ∧ lo1 c = c ∧ up1 c < 128 ∧ lo1 (up1 c) = c := fun c hc => by
    have := hg c hc
    unfold goodC at this
    simp only [Bool.and_eq_true, decide_eq_true_eq] at this
    exact ⟨this.1.1.1, this.1.1.2, this.1.2, this.2⟩
  unfold textOf
  rw [txt_join]
  have ext : ∀ (f : Nat → Nat) (x : Str), (∀ c ∈ x.cps.toList, f c = c) → (⟨x.cps.map f⟩ : Str) = x := fun f x hf => by
    cases x with
    | mk cps =>
      congr 1
      apply Array.toList_inj.mp
      rw [Array.toList_map]
      exact (List.map_congr_left (fun c hc => hf c hc)).trans (List.map_id _)
  cases b with
  | false =>
    rw [if_neg (by decide), lower_ascii (fun c hc => (g c hc).1)]
    exact ext _ _ fun c hc => (g c hc).2.1
  | true =>
    rw [if_pos rfl, upper_ascii (fun c hc => (g c hc).1), lower_ascii]
    · show (⟨((Str.join (Str.ofString " ") ws).cps.map up1).map lo1⟩ : Str) = _
      rw [Array.map_map]
      exact ext _ _ fun c hc => (g c hc).2.2.2
    · intro c hc
      have hc : c ∈ ((Str.join (Str.ofString " ") ws).cps.map up1).toList := hc
      rw [Array.toList_map] at hc
      obtain ⟨d, hd, rfl⟩ := List.mem_map.mp hc
      exact (g d hd).2.2.1
theorem words_of_text {ws : List Str} (h : OkWs ws) (hne : ws ≠ []) (b : Bool) : (splitTok (Txt.lower (textOf ws b))).filter nonblank = ws := by
  rw [lower_text h, split_join h hne, filter_inter h]
theorem text_ascii {ws : List Str} (h : OkWs ws) (b : Bool) : (textOf ws b).cps.all (· < 128) = true := by
  have g : ∀ c ∈ (Str.join (Str.ofString " ") ws).cps.toList, c < 128 ∧ up1 c < 128 := fun c hc => by
    have := join_good h c hc
    unfold goodC at this
    simp only [Bool.and_eq_true, decide_eq_true_eq] at this
    exact ⟨this.1.1.1, this.1.2⟩
  unfold textOf
  rw [txt_join, Array.all_eq_true_iff_forall_mem]
  cases b with
  | false =>
    rw [if_neg (by decide)]
    intro c hc
    exact decide_eq_true (g c (Array.mem_toList_iff.mpr hc)).1
  | true =>
    rw [if_pos rfl, upper_ascii (fun c hc => (g c hc).1)]
    intro c hc
    obtain ⟨d, hd, rfl⟩ := Array.mem_map.mp hc
    exact decide_eq_true (g d (Array.mem_toList_iff.mpr hd)).2
theorem word_len {w : Str} (h : okWord w = true) : w.length ≤ 8 ∧ w.length ≠ 0 := by
  unfold okWord at h
  simp only [Bool.and_eq_true, decide_eq_true_eq, Bool.not_eq_true'] at h
  refine ⟨h.2, fun q => ?_⟩
  have : w.cps.toList = [] := List.eq_nil_of_length_eq_zero (by rw [Array.length_toList]; exact q)
  rw [this] at h; simp at h
theorem upper_len {x : Str} (h : ∀ c ∈ x.cps.toList, c < 128) : (Txt.upper x).length = x.length := by rw [upper_ascii h]; simp [Str.length]
theorem text_len {ws : List Str} (h : OkWs ws) (b : Bool) : (textOf ws b).length = (Str.join (Str.ofString " ") ws).length := by
  unfold textOf
  rw [txt_join]
  cases b with
  | false => rw [if_neg (by decide)]
  | true =>
    rw [if_pos rfl]
    refine upper_len fun c hc => ?_
    have := join_good h c hc
    unfold goodC at this
    simp only [Bool.and_eq_true, decide_eq_true_eq] at this
    exact this.1.1.1
theorem sum_len {ws : List Str} (h : OkWs ws) : (ws.map (·.length)).sum ≤ 8 * ws.length := by
  induction ws with
  | nil => exact Nat.le_refl _
  | cons w r ih =>
    rw [List.map_cons, List.sum_cons, List.length_cons]
    have := (word_len (h w (.head _))).1
    have := ih fun y hy => h y (.tail _ hy)
    omega
theorem text_bound {ws : List Str} (h : OkWs ws) (b : Bool) : (textOf ws b).length ≤ 9 * ws.length := by
  rw [text_len h, ← txt_join]
  have := join_len ws
  have := sum_len h
  omega
theorem text_ne {ws : List Str} (h : OkWs ws) (hne : ws ≠ []) (b : Bool) : (textOf ws b).length ≠ 0 := by
  rw [text_len h]
  cases ws with
  | nil => exact absurd rfl hne
  | cons w r =>
    have := (word_len (h w (.head _))).2
    cases r with
    | nil => rw [join_one]; exact this
    | cons x r => rw [join_cons_cons, str_app_len, str_app_len]; omega
theorem okWs_strs {ws : List Str} (h : OkWs ws) : StrsOk ws := fun w hw => by
  have := h w hw
  unfold okWord at this
  simp only [Bool.and_eq_true] at this
  unfold PyData.strOk
  rw [Array.all_eq_true_iff_forall_mem]
  intro c hc
  have := List.all_eq_true.mp this.1.1.1.1 c (Array.mem_toList_iff.mpr hc)
  unfold goodC at this
  simp only [Bool.and_eq_true, decide_eq_true_eq] at this
  exact decide_eq_true (by omega)
def told (P : List (List Str)) (O : List (Option (Str × Str))) (ws : List Str) : Option (Str × Str) := (P.findIdx? (· == ws)).bind fun j => (O[j]?).join
theorem told_at {P : List (List Str)} {O : List (Option (Str × Str))} {ws : List Str} {j : Nat} (hn : P.Nodup) (hj : P[j]? = some ws) : told P O ws = (O[j]?).join := by
  unfold told
  have hlt := (List.getElem?_eq_some_iff.mp hj).1
  cases h : P.findIdx? (· == ws) with
  | none =>
    have := List.findIdx?_eq_none_iff.mp h ws (List.mem_of_getElem? hj)
    simp at this
  | some k =>
    obtain ⟨hk, h1, -⟩ := List.findIdx?_eq_some_iff_getElem.mp h
    have e : P[k]? = some ws := by rw [List.getElem?_eq_getElem hk]; simpa using h1
    have : k = j := (List.getElem?_inj hk hn).mp (e.trans hj.symm)
    rw [this]; rfl
theorem told_off {P : List (List Str)} {O : List (Option (Str × Str))} {ws : List Str} (h : ws ∉ P) : told P O ws = none := by
  unfold told
  rw [List.findIdx?_eq_none_iff.mpr (fun q hq => by
    have hne : q ≠ ws := fun e => h (e ▸ hq)
    simpa using hne)]; rfl
/-! what the adding of a row of words makes -/
theorem addFold_ext (ws : List Str) : ∀ st : List (List Str) × List Str, ∃ l, (ws.foldl addStep st).1 = st.1 ++ l := by
  induction ws with
  | nil => intro st; exact ⟨[], by simp⟩
  | cons x r ih =>
    intro st
    rw [List.foldl_cons]
    obtain ⟨l, hl⟩ := ih (addStep st x)
    have : ∃ k, (addStep st x).1 = st.1 ++ k := by
      unfold addStep; dsimp only; split
      · exact ⟨[], by simp⟩
      · exact ⟨_, rfl⟩
    obtain ⟨k, hk⟩ := this
    exact ⟨k ++ l, by rw [hl, hk, List.append_assoc]⟩
theorem addAll_ext (P : List (List Str)) (ws : List Str) : ∃ l, addAll P ws = P ++ l := addFold_ext ws (P, [])
theorem addFold_mem (ws : List Str) : ∀ (st : List (List Str) × List Str) (p : List Str), p ∈ (ws.foldl addStep st).1 ↔ p ∈ st.1 ∨ ∃ k, 1 ≤ k ∧ k ≤ ws.length ∧ p = st.2 ++ ws.take k := by
  induction ws with
  | nil =>
    intro st p
    constructor
    · exact .inl
    · rintro (h | ⟨k, h1, h2, -⟩)
      · exact h
      · rw [List.length_nil] at h2; omega
  | cons x r ih =>
    intro st p
    rw [List.foldl_cons, ih]
    have h1 : p ∈ (addStep st x).1 ↔ p ∈ st.1 ∨ p = st.2 ++ [x] := by
      unfold addStep; dsimp only; split
      · rename_i h
        constructor
        · exact .inl
        · rintro (h' | rfl)
          · exact h'
          · exact h
      · simp
    have h2 : (addStep st x).2 = st.2 ++ [x] := rfl
    rw [h1, h2]
    constructor
    · rintro ((h | h) | ⟨k, k1, k2, rfl⟩)
      · exact .inl h
      · exact .inr ⟨1, by omega, by simp, by simpa using h⟩
      · exact .inr ⟨k + 1, by omega, by simpa using k2, by simp⟩
    · rintro (h | ⟨k, k1, k2, rfl⟩)
      · exact .inl (.inl h)
      · by_cases hk : k = 1
        · subst hk; exact .inl (.inr (by simp))
        · obtain ⟨k', rfl⟩ : ∃ k', k = k' + 1 := ⟨k - 1, by omega⟩
          exact .inr ⟨k', by omega, by simpa using k2, by simp⟩
theorem addAll_mem {P : List (List Str)} {ws p : List Str} : p ∈ addAll P ws ↔ p ∈ P ∨ ∃ k, 1 ≤ k ∧ k ≤ ws.length ∧ p = ws.take k := by
  unfold addAll; rw [addFold_mem]; simp
theorem told_add {P : List (List Str)} {O : List (Option (Str × Str))} {ws q : List Str} {j k : Nat} {xy : Str × Str} (hO : O.length = P.length) (hk : (addAll P ws).length = P.length + k) (hj : (addAll P ws)[j]? = some ws) (hn : (addAll P ws).Nodup) :
    told (addAll P ws) (addOut O k j xy) q = if q = ws then some xy else told P O q := by
  have hjl : j < (addAll P ws).length := (List.getElem?_eq_some_iff.mp hj).1
  obtain ⟨l, hl⟩ := addAll_ext P ws
  have hnP : P.Nodup := by rw [hl] at hn; exact (List.nodup_append.mp hn).1
  by_cases hq : q = ws
  · subst hq
    rw [if_pos rfl, told_at hn hj]
    unfold addOut
    rw [List.getElem?_set_self (by simp; omega)]; rfl
  · rw [if_neg hq]
    by_cases hm : q ∈ addAll P ws
    · obtain ⟨i, hi⟩ := List.mem_iff_getElem?.mp hm
      have hij : j ≠ i := fun e => by
        rw [← e, hj] at hi
        exact hq (Option.some.inj hi).symm
      rw [told_at hn hi]
      unfold addOut
      rw [List.getElem?_set_ne hij]
      by_cases hlt : i < P.length
      · rw [hl, List.getElem?_append_left hlt] at hi
        rw [told_at hnP hi, List.getElem?_append_left (by omega)]
      · have hnp : q ∉ P := fun hp => by
          obtain ⟨i', hi'⟩ := List.mem_iff_getElem?.mp hp
          have hlt' := (List.getElem?_eq_some_iff.mp hi').1
          have : (addAll P ws)[i']? = some q := by rw [hl, List.getElem?_append_left hlt']; exact hi'
          have hil : i < (addAll P ws).length := (List.getElem?_eq_some_iff.mp hi).1
          have := (List.getElem?_inj hil hn).mp (hi.trans this.symm)
          omega
        rw [told_off hnp, List.getElem?_append_right (by omega)]
        cases h : (List.replicate k (none : Option (Str × Str)))[i - O.length]? with
        | none => rfl
        | some o =>
          have := List.mem_of_getElem? h
          rw [List.mem_replicate] at this
          rw [this.2]; rfl
    · rw [told_off hm, told_off fun hp => hm (addAll_mem.mpr (.inl hp))]

/-! the trie after rows of words have been added -/
theorem toldAt_told {P : List (List Str)} {O : List (Option (Str × Str))} (hn : P.Nodup) (hO : O.length = P.length) (q : List Str) : toldAt P O q = told P O q := by
  unfold toldAt
  by_cases h : q ∈ P
  · obtain ⟨i, hi⟩ := List.mem_iff_getElem?.mp h
    have hlt : P.idxOf q < P.length := List.idxOf_lt_length_of_mem h
    have e : P[P.idxOf q]? = some q := by rw [List.getElem?_eq_getElem hlt, List.getElem_idxOf hlt]
    rw [told_at hn e]
  · rw [told_off h, List.getElem?_eq_none]
    · rfl
    · rw [hO, List.idxOf_eq_length h]; exact Nat.le_refl _
structure InvA (rows : List (List Str)) (P : List (List Str)) (O : List (Option (Str × Str))) (ks : List Str) : Prop where
  told : ∀ q, told P O q = if q ∈ rows then some (textOf q false, valOf q) else none
  mem : ∀ q, q ∈ P ↔ q = [] ∨ ∃ r ∈ rows, r.take q.length = q
  ok : ∀ r ∈ rows, OkWs r ∧ 1 ≤ r.length ∧ r.length ≤ 3
  known : ∀ x, x ∈ ks ↔ ∃ r ∈ rows, x ∈ r
  nodup : ks.Nodup
theorem addKnown_mem {ks : List Str} {x y : Str} : y ∈ addKnown ks x ↔ y ∈ ks ∨ y = x := by
  unfold addKnown
  split
  · rename_i h
    exact ⟨.inl, fun q => q.elim id fun e => e ▸ h⟩
  · rw [List.mem_append, List.mem_singleton]
theorem addKnown_nodup {ks : List Str} {x : Str} (h : ks.Nodup) : (addKnown ks x).Nodup := by
  unfold addKnown
  split
  · exact h
  · rename_i hn
    rw [List.nodup_append]
    exact ⟨h, by simp, fun a ha b hb e => hn (by rw [List.mem_singleton.mp hb] at e; exact e ▸ ha)⟩
theorem foldKnown_mem (ws : List Str) : ∀ {ks : List Str} {y : Str}, y ∈ ws.foldl addKnown ks ↔ y ∈ ks ∨ y ∈ ws := by
  induction ws with
  | nil => intro ks y; simp
  | cons x r ih =>
    intro ks y
    rw [List.foldl_cons, ih, addKnown_mem, List.mem_cons]
    constructor
    · rintro ((h | h) | h)
      · exact .inl h
      · exact .inr (.inl h)
      · exact .inr (.inr h)
    · rintro (h | h | h)
      · exact .inl (.inl h)
      · exact .inl (.inr h)
      · exact .inr h
theorem foldKnown_nodup (ws : List Str) : ∀ {ks : List Str}, ks.Nodup → (ws.foldl addKnown ks).Nodup := by
  induction ws with
  | nil => intro ks h; exact h
  | cons x r ih => intro ks h; exact ih (addKnown_nodup h)
theorem InvA.nil : InvA [] [[]] [none] [] := by
  refine ⟨fun ws => ?_, fun ws => ?_, (fun r hr => nomatch hr), (fun x => by simp), List.nodup_nil⟩
  · rw [if_neg (List.not_mem_nil)]
    unfold Mine.told
    by_cases h : ws = []
    · subst h; rfl
    · have : ([[]] : List (List Str)).findIdx? (fun x => x == ws) = none := by
        rw [List.findIdx?_eq_none_iff]
        intro x hx
        rw [List.mem_singleton.mp hx]
        simpa using fun e => h e
      rw [this]; rfl
  · simp
theorem InvA.put {rows : List (List Str)} {P : List (List Str)} {O : List (Option (Str × Str))} {ks : List Str} {ws : List Str} {j k : Nat} (h : InvA rows P O ks) (hO : O.length = P.length) (hk : (addAll P ws).length = P.length + k) (hj : (addAll P ws)[j]? = some ws) (hn : (addAll P ws).Nodup)
    (hw : OkWs ws) (h1 : 1 ≤ ws.length) (h3 : ws.length ≤ 3) : InvA (rows ++ [ws]) (addAll P ws) (addOut O k j (textOf ws false, valOf ws)) (ws.foldl addKnown ks) := by
  refine ⟨fun q => ?_, fun q => ?_, fun r hr => ?_, fun x => ?_, foldKnown_nodup ws h.nodup⟩
  · rw [told_add hO hk hj hn, h.told q]
    by_cases hq : q = ws
    · rw [if_pos hq, if_pos (by rw [hq]; simp), hq]
    · rw [if_neg hq]
      by_cases hr : q ∈ rows
      · rw [if_pos hr, if_pos (List.mem_append_left _ hr)]
      · rw [if_neg hr, if_neg (by simp [hr, hq])]
  · rw [addAll_mem, h.mem q]
    constructor
    · rintro ((rfl | ⟨r, hr, e⟩) | ⟨k, k1, k2, rfl⟩)
      · exact .inl rfl
      · exact .inr ⟨r, List.mem_append_left _ hr, e⟩
      · refine .inr ⟨ws, List.mem_append_right _ (.head _), ?_⟩
        rw [List.length_take, Nat.min_eq_left k2]
    · rintro (rfl | ⟨r, hr, e⟩)
      · exact .inl (.inl rfl)
      · rcases List.mem_append.mp hr with hr | hr
        · exact .inl (.inr ⟨r, hr, e⟩)
        · rw [List.mem_singleton.mp hr] at e
          by_cases hq : q = []
          · exact .inl (.inl hq)
          · refine .inr ⟨q.length, List.length_pos_iff.mpr hq, ?_, e.symm⟩
            have := congrArg List.length e
            rw [List.length_take] at this
            omega
  · rcases List.mem_append.mp hr with hr | hr
    · exact h.ok r hr
    · rw [List.mem_singleton.mp hr]; exact ⟨hw, h1, h3⟩
  · rw [foldKnown_mem, h.known x]
    constructor
    · rintro (⟨r, hr, hx⟩ | hx)
      · exact ⟨r, List.mem_append_left _ hr, hx⟩
      · exact ⟨ws, List.mem_append_right _ (.head _), hx⟩
    · rintro ⟨r, hr, hx⟩
      rcases List.mem_append.mp hr with hr | hr
      · exact .inl ⟨r, hr, hx⟩
      · rw [List.mem_singleton.mp hr] at hx; exact .inr hx
end Mine
end
section
open Lean Elab Tactic Meta PySem PySem.W PySem.Calls PyProof.Rows
set_option pp.deepTerms false
set_option pp.maxSteps 800
set_option pp.deepTerms.threshold 5
namespace Mine
/-! the automaton's state, in plain words: the longest end of what has been read that is a path -/
def lng (P : List (List Str)) (t : List Str) : List Str := ((ends t).find? fun q => decide (q ∈ P)).getD []
theorem lng_nil (P : List (List Str)) : lng P [] = [] := by
  unfold lng
  rw [ends_nil, List.find?_cons]
  split <;> rfl
theorem lng_snoc {P : List (List Str)} (hc : ∀ q x, q ++ [x] ∈ P → q ∈ P) (h0 : [] ∈ P) (t : List Str) (x : Str) : best P (lng P t) x = lng P (t ++ [x]) := by
  rw [show best P (lng P t) x = best P t x from (find_drop hc h0 x t).symm]
  unfold lng best
  rw [tails_snoc, List.find?_append, List.find?_map]
  show _ = (Option.or (Option.map (fun q => q ++ [x]) (List.find? (fun q => decide (q ++ [x] ∈ P)) (ends t))) (List.find? (fun q => decide (q ∈ P)) [[]])).getD []
  cases List.find? (fun q => decide (q ++ [x] ∈ P)) (ends t) with
  | some q => rfl
  | none =>
    show [] = (List.find? (fun q => decide (q ∈ P)) [[]]).getD []
    rw [List.find?_cons]
    split <;> rfl
theorem lng_mem {P : List (List Str)} (h0 : [] ∈ P) (t : List Str) : lng P t ∈ P := by
  unfold lng
  cases h : (ends t).find? fun q => decide (q ∈ P) with
  | none => exact h0
  | some q => simpa using List.find?_some h
theorem lng_le (P : List (List Str)) (t : List Str) : (lng P t).length ≤ t.length := by
  unfold lng
  cases h : (ends t).find? fun q => decide (q ∈ P) with
  | none => exact Nat.zero_le _
  | some q => exact ends_le (List.mem_of_find?_eq_some h)
theorem lng_filter {P S : List (List Str)} (hS : ∀ q ∈ S, q ∈ P) (h0 : [] ∈ P) : ∀ t : List Str, (ends t).filter (fun q => decide (q ∈ S)) = (ends (lng P t)).filter (fun q => decide (q ∈ S))
  | [] => by rw [lng_nil]
  | y :: r => by
    by_cases h : y :: r ∈ P
    · have e : lng P (y :: r) = y :: r := by
        unfold lng
        rw [ends_cons, List.find?_cons, decide_eq_true h]; rfl
      rw [e]
    · have e : lng P (y :: r) = lng P r := by
        unfold lng
        rw [ends_cons, List.find?_cons, decide_eq_false h]
      rw [e, ← lng_filter hS h0 r, ends_cons, List.filter_cons, decide_eq_false (fun q => h (hS _ q))]
      rfl
theorem chain_ends {P : List (List Str)} (h0 : [] ∈ P) : ∀ (k : Nat) (q : List Str), q ∈ P → q.length < k → chain P k q = (ends q).filter fun q => decide (q ∈ P)
  | 0, _, _, h => absurd h (Nat.not_lt_zero _)
  | k + 1, [], hq, _ => by
    show [] :: (if ([] : List Str) = [] then [] else _) = _
    rw [if_pos rfl, ends_nil, List.filter_cons, decide_eq_true hq]; rfl
  | k + 1, y :: r, hq, hk => by
    show (y :: r) :: (if y :: r = [] then [] else chain P k (fo P (y :: r))) = _
    have e : fo P (y :: r) = lng P r := rfl
    rw [if_neg (by simp), e, ends_cons, List.filter_cons, decide_eq_true hq]
    rw [chain_ends h0 k _ (lng_mem h0 r) (by have := lng_le P r; simp only [List.length_cons] at hk; omega), ← lng_filter (fun _ h => h) h0 r]
    rfl
/-- what is told at a state -/
def rowPair (q : List Str) : Str × Str := (textOf q false, valOf q)
theorem hits_rows {rows P : List (List Str)} {O : List (Option (Str × Str))} {ks : List Str} (h : InvA rows P O ks) (hn : P.Nodup) (hO : O.length = P.length) (t : List Str) : hits P O (lng P t) = ((ends t).filter fun q => decide (q ∈ rows)).map rowPair := by
  have h0 : [] ∈ P := (h.mem []).mpr (.inl rfl)
  have hrP : ∀ q ∈ rows, q ∈ P := fun q hq => (h.mem q).mpr (.inr ⟨q, hq, List.take_length⟩)
  rw [lng_filter hrP h0 t]
  unfold hits
  rw [chain_ends h0 _ _ (lng_mem h0 t) (Nat.lt_succ_self _)]
  generalize ends (lng P t) = l
  induction l with
  | nil => rfl
  | cons q l ih =>
    have hq : toldAt P O q = if q ∈ rows then some (rowPair q) else none := by rw [toldAt_told hn hO, h.told]; rfl
    by_cases hr : q ∈ rows
    · rw [List.filter_cons, List.filter_cons, decide_eq_true hr, decide_eq_true (hrP q hr)]
      rw [if_pos hr] at hq
      simp only [if_true, List.filterMap_cons, hq, List.map_cons]
      rw [ih]
    · rw [if_neg hr] at hq
      rw [List.filter_cons, List.filter_cons (p := fun q => decide (q ∈ rows)), decide_eq_false hr]
      by_cases hp : q ∈ P
      · rw [decide_eq_true hp]
        simp only [if_true, List.filterMap_cons, hq]
        exact ih
      · rw [decide_eq_false hp]
        exact ih
theorem inv_closed {rows P : List (List Str)} {O : List (Option (Str × Str))} {ks : List Str} (h : InvA rows P O ks) (q : List Str) (x : Str) (hq : q ++ [x] ∈ P) : q ∈ P := by
  rcases (h.mem _).mp hq with e | ⟨r, hr, e⟩
  · simp at e
  · refine (h.mem q).mpr (.inr ⟨r, hr, ?_⟩)
    have h1 := congrArg (List.take q.length) e
    rw [List.take_take, List.length_append] at h1
    rw [Nat.min_eq_left (by omega), List.take_append_of_le_length (Nat.le_refl _), List.take_length] at h1
    exact h1
/-- the turn of a word -/
theorem step_word {rows P : List (List Str)} {O : List (Option (Str × Str))} {ks : List Str} {u sp : Bool} {x : Str} {e : Int} {y : Str} (h : InvA rows P O ks) (hn : P.Nodup) (hO : O.length = P.length) (t : List Str) (hy : okWord y = true) :
    iterStep P O ks u sp x (lng P t) e y = (if ((ends (t ++ [y])).filter fun q => decide (q ∈ rows)) = [] then (if u then [tokOf x (e + y.length) y.length none] else []) else (((ends (t ++ [y])).filter fun q => decide (q ∈ rows)).map rowPair).map fun m => tokOf x (e + y.length) m.1.length (some m.2), lng P (t ++ [y])) := by
  have h0 : [] ∈ P := (h.mem []).mpr (.inl rfl)
  unfold iterStep
  rw [if_neg (by rintro ⟨_, q⟩; rw [word_nonblank hy] at q; cases q)]
  rw [lng_snoc (inv_closed h) h0, hits_rows h hn hO]
  by_cases hk : y ∈ ks
  · rw [if_pos hk]
    congr 1
    generalize ((ends (t ++ [y])).filter fun q => decide (q ∈ rows)) = l
    cases l with
    | nil => rfl
    | cons a l => rfl
  · rw [if_neg hk]
    have hnone : ∀ q, q ++ [y] ∉ P := fun q hq => by
      rcases (h.mem _).mp hq with e | ⟨r, hr, e⟩
      · simp at e
      · exact hk ((h.known y).mpr ⟨r, hr, List.mem_of_mem_take (e.symm ▸ List.mem_append_right q (.head _))⟩)
    have hrow : ((ends (t ++ [y])).filter fun q => decide (q ∈ rows)) = [] := by
      rw [List.filter_eq_nil_iff]
      intro q hq hr
      have hr : q ∈ rows := by simpa using hr
      rw [tails_snoc] at hq
      rcases List.mem_append.mp hq with hq | hq
      · obtain ⟨q', _, rfl⟩ := List.mem_map.mp hq
        exact hnone q' ((h.mem _).mpr (.inr ⟨_, hr, List.take_length⟩))
      · rw [List.mem_singleton.mp hq] at hr
        exact absurd (h.ok _ hr).2.1 (by decide)
    have hl : lng P (t ++ [y]) = [] := by
      rw [← lng_snoc (inv_closed h) h0]
      unfold best
      rw [List.find?_eq_none.mpr (fun q _ => by simpa using hnone q)]
      rfl
    rw [hrow, hl, if_pos rfl]
end Mine
end
section
theorem Mine.switch_S53 : True := by
  w_top off
  trivial
open Lean Elab Tactic Meta PySem PySem.W PySem.Calls PyProof.Rows
set_option pp.deepTerms false
set_option pp.maxSteps 800
set_option pp.deepTerms.threshold 5
namespace Mine
local macro_rules | `(tactic| walk_at "exec For Name Name cons nil") => `(tactic| (refine Mine.Stop.on ?_))
local macro_rules | `(tactic| walk_at "exec For Name Call cons nil") => `(tactic| (refine Mine.Stop.on ?_))
local macro_rules | `(tactic| walk_at "exec Assign cons ListComp") => `(tactic| (refine Mine.Stop.on ?_))
local macro_rules | `(tactic| walk_at "LeaveC") => `(tactic| fail "here")
local macro_rules | `(tactic| k_room) => `(tactic| first | ktr_room | ((simp only [Mine.mark_depth, depth_under_make, depth_under_kw, depth_in1, depth_deeper, depth_caller]); (try dsimp only [ktrTop]); (try simp only [recursionLimit] at *); omega))
local macro_rules | `(tactic| k_all) => `(tactic| first | assumption | exact Mine.offLt (by assumption) | exact Mine.offLt2 (by assumption) (by assumption) | (refine List.forall_mem_append.mpr ⟨?a, ?b⟩; (case a => k_all); (case b => k_all)))
local macro_rules | `(tactic| walk_at "setItem ref str") => `(tactic| (k_here; k_dflt (refine' kda_setB (knd := PySem.strKind _ _) ?F ?N ?hm ?d (strKind_is _ _ _ _) ?z ?_; (case F => k_asm); (case N => k_asm); (case hm => k_mem); (case d => k_asm); (case z => k_asm)); intro h' o' F' N' hd'))
local macro_rules | `(tactic| walk_at "compareOp Is str ref") => `(tactic| (k_here; refine wpAny_is_other (by rfl) (by intro x; cases x) ?_))
local macro_rules | `(tactic| k_mem) => `(tactic| assumption)
local macro_rules | `(tactic| walk_at "eval Name") => `(tactic| (k_here; (with_reducible show wpAny _ _ (eval (Expr.Name _ _) (envOf _ _ _ _ _)) _ _ _); k_dflt (refine' ld ?k1 ?k2 ?_; (case k1 => k_asm); (case k2 => first | exact rfl | assumption); k_whole)))
local macro_rules | `(tactic| walk_at "eval Name") => `(tactic| (k_here; (with_reducible show wpAny _ _ (eval (Expr.Name _ _) (envOfC _ _ _ _ _)) _ _ _); k_dflt (refine' nameX_L ?F ?v ?_ ?a ?b; (case F => k_asm); (case a => rfl); (case b => rfl); (case v => first | rfl | assumption); k_whole)))
local macro_rules | `(tactic| walk_at "call builtin:len") => `(tactic| (k_here; (with_reducible show wpAny _ _ (call (Value.builtin "len") [Value.ref _]) _ _ _); k_dflt (first | refine len_L (by k_asm) (by k_mem) (by omega) ?_ | refine len_T (by k_asm) (by k_mem) (by omega) ?_)))
local macro_rules | `(tactic| walk_at "subscriptTail") => `(tactic| (k_here; (with_reducible show wpAny _ _ (subscriptTail _ (PySem.Expr.Slice _ _ _ _) (Value.ref _) (Value.ref _)) _ _ _); refine Mine.Stop.on ?_))
local macro_rules | `(tactic| walk_at "compareOp Eq ref ref") => `(tactic| (refine Mine.Stop.on ?_))
local macro_rules | `(tactic| walk_at "compareOp NotEq ref ref") => `(tactic| (refine Mine.Stop.on ?_))
local macro_rules | `(tactic| walk_at "call type:list") => `(tactic| (k_here; k_dflt (refine list_of_tuple (by k_asm) (by k_asm) (by k_mem) (by omega) ?_); intro D' c' h' F' N' l1; (try k_sweep)))
local macro_rules | `(tactic| walk_at "call builtin:str.join") => `(tactic| (refine Mine.Stop.on ?_))
local macro_rules | `(tactic| walk_at "compareOp In str ref") => `(tactic| (refine Mine.Stop.on ?_))
def lawWords : List Str := ["mit", "gpl", "bsd", "new", "(", ")", "x", "or", "zlib"]
def lawKeys : List Str := ["mit", "gpl", "mit gpl", "bsd", "bsd new", "bsd new (", "(", ")", "x or"]
theorem words_at {w : World} {h : Heap} (X : (Mine.hd.heap_39 w.params).In h) : ∃ vs, h.IsList 299 vs.toArray ∧ StrsAre vs lawWords :=
  ⟨[.str "mit" _, .str "gpl" _, .str "bsd" _, .str "new" _, .str "(" _, .str ")" _, .str "x" _, .str "or" _, .str "zlib" _], ⟨_, X _ _ (by k_is), rfl, _, rfl⟩, .cons _ _ (.cons _ _ (.cons _ _ (.cons _ _ (.cons _ _ (.cons _ _ (.cons _ _ (.cons _ _ (.cons _ _ .nil))))))))⟩
def joinW (row : List Str) : Str := Txt.join (Str.ofString " ") row
theorem join_lenW (ws : List Str) : (joinW ws).length ≤ (ws.map (·.length)).sum + ws.length := by
  unfold joinW
  rw [show Txt.join (Str.ofString " ") ws = Str.join (Str.ofString " ") ws from by simpa using join_plain_closes (Str.ofString " ") ws]
  induction ws with
  | nil => exact Nat.le_refl _
  | cons x r ih =>
    cases r with
    | nil => rw [join_one]; simp
    | cons y r =>
      rw [join_cons_cons, str_app_len, str_app_len]
      have e : (Str.ofString " ").length = 1 := rfl
      simp only [List.map_cons, List.sum_cons, List.length_cons] at *
      omega
theorem sum_le10 : ∀ {ws : List Str}, (∀ q ∈ ws, q.length ≤ 10) → (ws.map (·.length)).sum ≤ 10 * ws.length
  | [], _ => Nat.le_refl _
  | x :: r, h => by
    have h1 := h x (.head _)
    have h2 := sum_le10 (ws := r) fun q hq => h q (.tail _ hq)
    simp only [List.map_cons, List.sum_cons, List.length_cons]
    omega
theorem ascii_ok {x : Str} (h : x.cps.all (· < 128) = true) : PyData.strOk x = true := by
  unfold PyData.strOk
  rw [Array.all_eq_true_iff_forall_mem] at *
  intro c hc
  have := of_decide_eq_true (h c hc)
  exact decide_eq_true (by omega)
def seg (words : List Str) (a z : Nat) : List Str := (words.drop a).take z
def hasW (kk words : List Str) (a z : Nat) : Bool := decide (a + z ≤ words.length ∧ joinW (seg words a z) ∈ kk)
def sizeW (kk words : List Str) (a : Nat) : Nat := if hasW kk words a 3 then 3 else if hasW kk words a 2 then 2 else if hasW kk words a 1 then 1 else 0
section
variable {prog : Program} {w : World} {dp un : Nat} {gd : Option (List Code)} {cn : Str} {cs : Scope} {a : Addr} {ccd : Value} {cl : List (Str × Addr)} {outer : List Env} {base h₀ : Heap} {L : Addr} {m : Str → Option Value} {news : List (Addr × Obj)} {s : Shared} {Q E : Value → Shared → Prop}
set_option maxRecDepth 100000
set_option maxHeartbeats 1000000
theorem law_keys_spec (C : Cx (Mine.hd.heap_39 w.params) cs outer base h₀ L s.heap m news) (hd : dp + 10 < recursionLimit) (hu : un + 60 < cLine)
   (hQ : ∀ h' tk' D n vs, Cx (Mine.hd.heap_39 w.params) cs outer base h₀ L h' m ((D, listOf vs.toArray n) :: news) → (∀ p ∈ news, p.1 < D) → StrsAre vs lawKeys → Q (.ref D) { s with heap := h', toks := tk' }) :
   wpAny (model prog w) (ktrTop dp un gd cn cs L a ccd cl outer) (call (.ref 298) []) Q E s := by
  obtain ⟨⟨A0, B0⟩, F0, XB0, N0, ⟨p0, loose0, mean0, mg0, mb0, TB0⟩, D0, hk0⟩ := id C
  have X0 := XB0.keeps B0.stays
  have T0 := TB0.keeps B0.stays
  refine wpAny_call ?_
  k_dflt (refine' enterC C ?kA ?kF ?kK ?k6 ?k7 ?k8 ?k9 ?kB ?_ ?c2 ?c3 ?c4 ?c5; (case kA => exact rfl); (case kF => exact rfl); (case kK => exact hk0); (case k6 => k_is); (case k7 => k_is); (case k8 => (show dp < _; omega)); (case k9 => first | exact BindsTo.of_eq rfl | exact binds_K (by k_in) rfl (by k_is) rfl rfl rfl); (case kB => exact locs rfl); (case c2 => exact rfl); (case c3 => exact rfl); (case c4 => exact rfl); (case c5 => decide); k_whole)
  intro g L1 hh1 C1 hlt1
  clear B0 F0 N0 X0 T0 D0
  obtain ⟨⟨A1, B1⟩, F1, XB1, N1, ⟨p1, loose1, mean1, mg1, mb1, TB1⟩, D1, hk1⟩ := id C1
  have X1 := XB1.keeps B1.stays
  have T1 := TB1.keeps B1.stays
  dsimp only
  try k_fold
  k_steps
  rename Fr _ _ _ _ => F2
  rename News _ _ _ _ => N2
  exact leaveC0 F2 N2 fun C => hQ _ _ _ 0 _ C (by assumption) (.cons _ _ (.cons _ _ (.cons _ _ (.cons _ _ (.cons _ _ (.cons _ _ (.cons _ _ (.cons _ _ (.cons _ _ .nil)))))))))
theorem law_has_spec {kl wl : Addr} {kv wv : List Value} {kn wn : Nat} {kk words : List Str} {a0 z : Nat} {ta tz : Tok} (C : Cx (Mine.hd.heap_39 w.params) cs outer base h₀ L s.heap m news) (hd : dp + 10 < recursionLimit) (hu : un + 100 < cLine)
   (hk : (kl, listOf kv.toArray kn) ∈ news) (hkv : StrsAre kv kk) (hw : (wl, listOf wv.toArray wn) ∈ news) (hwv : StrsAre wv words) (hkl : kk.length ≤ 20) (hkok : StrsOk kk) (hwl : words.length ≤ 20) (hwo : OkWs words) (ha : a0 ≤ words.length) (hz : z ≤ 3)
   (hQ : ∀ h' tk' led', Cx (Mine.hd.heap_39 w.params) cs outer base h₀ L h' m led' → (∀ p ∈ news, p ∈ led') → Q (.bool (hasW kk words a0 z)) { s with heap := h', toks := tk' }) :
   wpAny (model prog w) (ktrTop dp un gd cn cs L a ccd cl outer) (call (.ref 313) [.ref kl, .ref wl, .int (a0 : Nat) ta, .int (z : Nat) tz]) Q E s := by
  obtain ⟨⟨A0, B0⟩, F0, XB0, N0, ⟨p0, loose0, mean0, mg0, mb0, TB0⟩, D0, hk0⟩ := id C
  have X0 := XB0.keeps B0.stays
  have T0 := TB0.keeps B0.stays
  refine wpAny_call ?_
  k_dflt (refine' enterC C ?kA ?kF ?kK ?k6 ?k7 ?k8 ?k9 ?kB ?_ ?c2 ?c3 ?c4 ?c5; (case kA => exact rfl); (case kF => exact rfl); (case kK => exact hk0); (case k6 => k_is); (case k7 => k_is); (case k8 => (show dp < _; omega)); (case k9 => first | exact BindsTo.of_eq rfl | exact binds_K (by k_in) rfl (by k_is) rfl rfl rfl); (case kB => exact locs rfl); (case c2 => exact rfl); (case c3 => exact rfl); (case c4 => exact rfl); (case c5 => decide); k_whole)
  intro g L1 hh1 C1 hlt1
  clear B0 F0 N0 X0 T0 D0
  obtain ⟨⟨A1, B1⟩, F1, XB1, N1, ⟨p1, loose1, mean1, mg1, mb1, TB1⟩, D1, hk1⟩ := id C1
  have X1 := XB1.keeps B1.stays
  have T1 := TB1.keeps B1.stays
  dsimp only
  try k_fold
  have hwn := hwv.length
  have hwi : (wv.length : Int) = words.length := by omega
  k_steps
  · refine Stop.off ?_
    rename Fr _ _ _ _ => F2
    rename News _ _ _ _ => N2
    have hle : a0 + z ≤ words.length := by omega
    refine slice_list_midI (a := a0) (b := a0 + z) F2 N2 hw ?_ ?_ (by omega) (by omega) (by omega) ?_
    · rfl
    · rw [Int.natCast_add]
    intro R h3 F3 N3 hR
    clear F2 N2
    have hrow : StrsAre ((wv.drop a0).take (a0 + z - a0)) (seg words a0 z) := by
      rw [show a0 + z - a0 = z by omega]
      exact strs_take (strs_drop hwv a0) z
    have hsm : ∀ y ∈ seg words a0 z, y ∈ words := fun y hy => List.mem_of_mem_drop (List.mem_of_mem_take hy)
    have hsl : (seg words a0 z).length ≤ 3 := by unfold seg; rw [List.length_take]; omega
    have hso : OkWs (seg words a0 z) := fun y hy => hwo y (hsm y hy)
    have hsum := sum_len hso
    k_steps
    refine Stop.off ?_
    rename Fr _ _ _ _ => F4
    rename News _ _ _ _ => N4
    refine join_listW (PySem.IsL.isList (n := 0) (N4 _ (.head _)).1) hrow (by decide) (by omega) fun t' k => ?_
    have hjo : PyData.strOk (joinW (seg words a0 z)) = true := ascii_ok (text_ascii hso false)
    k_steps
    refine Stop.off ?_
    rename Fr _ _ _ _ => F5
    rename News _ _ _ _ => N5
    have hplain : plainAll (kk.map PyData.str) = true := plainAll_strs hkok
    have hin : (decide (joinW (seg words a0 z) ∈ kk)) = true ↔ PyData.str (joinW (seg words a0 z)) ∈ kk.map PyData.str := by
      rw [decide_eq_true_eq, List.mem_map]
      constructor
      · intro h; exact ⟨_, h, rfl⟩
      · rintro ⟨x, hx, e⟩; cases e; exact hx
    k_dflt (refine in_rd (c := decide (joinW (seg words a0 z) ∈ kk)) N5 (rd_str _ _) (rd_list (.tail _ hk) (rdAll_strs hkv)) (by rw [plainD]; exact hjo) hplain (by rw [PyData.depth]; omega) (by show un + 3 + 64 < cLine; omega) hin ?_)
    k_steps
    have e : hasW kk words a0 z = decide (joinW (seg words a0 z) ∈ kk) := by unfold hasW; rw [decide_eq_decide]; exact ⟨fun h => h.2, fun h => ⟨hle, h⟩⟩
    rw [e] at hQ
    exact leaveC0 F5 N5 fun C => hQ _ _ _ C fun p hp => .tail _ hp
  · have hle : ¬ a0 + z ≤ words.length := by omega
    have e : hasW kk words a0 z = false := by unfold hasW; rw [decide_eq_false]; exact fun h => hle h.1
    have e2 : decide ((a0 : Int) + z ≤ wv.length) = false := decide_eq_false (by omega)
    rw [e] at hQ
    rw [e2]
    exact leaveC0 F1 N1 fun C => hQ _ _ _ C fun p hp => hp
end
end Mine
end
section
theorem Mine.switch_S54 : True := by
  w_top off
  trivial
open Lean Elab Tactic Meta PySem PySem.W PySem.Calls PyProof.Rows
set_option pp.deepTerms false
set_option pp.maxSteps 800
set_option pp.deepTerms.threshold 5
namespace Mine
local macro_rules | `(tactic| walk_at "exec For Name Name cons nil") => `(tactic| (refine Mine.Stop.on ?_))
local macro_rules | `(tactic| walk_at "exec For Name Call cons nil") => `(tactic| (refine Mine.Stop.on ?_))
local macro_rules | `(tactic| walk_at "exec Assign cons ListComp") => `(tactic| (refine Mine.Stop.on ?_))
local macro_rules | `(tactic| walk_at "LeaveC") => `(tactic| fail "here")
local macro_rules | `(tactic| k_room) => `(tactic| first | ktr_room | ((simp only [Mine.mark_depth, depth_under_make, depth_under_kw, depth_in1, depth_deeper, depth_caller]); (try dsimp only [ktrTop]); (try simp only [recursionLimit] at *); omega))
local macro_rules | `(tactic| k_all) => `(tactic| first | assumption | exact Mine.offLt (by assumption) | exact Mine.offLt2 (by assumption) (by assumption) | (refine List.forall_mem_append.mpr ⟨?a, ?b⟩; (case a => k_all); (case b => k_all)))
local macro_rules | `(tactic| walk_at "setItem ref str") => `(tactic| (k_here; k_dflt (refine' kda_setB (knd := PySem.strKind _ _) ?F ?N ?hm ?d (strKind_is _ _ _ _) ?z ?_; (case F => k_asm); (case N => k_asm); (case hm => k_mem); (case d => k_asm); (case z => k_asm)); intro h' o' F' N' hd'))
local macro_rules | `(tactic| walk_at "compareOp Is str ref") => `(tactic| (k_here; refine wpAny_is_other (by rfl) (by intro x; cases x) ?_))
local macro_rules | `(tactic| k_mem) => `(tactic| assumption)
local macro_rules | `(tactic| walk_at "eval Name") => `(tactic| (k_here; (with_reducible show wpAny _ _ (eval (Expr.Name _ _) (envOf _ _ _ _ _)) _ _ _); k_dflt (refine' ld ?k1 ?k2 ?_; (case k1 => k_asm); (case k2 => first | exact rfl | assumption); k_whole)))
local macro_rules | `(tactic| walk_at "eval Name") => `(tactic| (k_here; (with_reducible show wpAny _ _ (eval (Expr.Name _ _) (envOfC _ _ _ _ _)) _ _ _); k_dflt (refine' nameX_L ?F ?v ?_ ?a ?b; (case F => k_asm); (case a => rfl); (case b => rfl); (case v => first | rfl | assumption); k_whole)))
local macro_rules | `(tactic| walk_at "call builtin:len") => `(tactic| (k_here; (with_reducible show wpAny _ _ (call (Value.builtin "len") [Value.ref _]) _ _ _); k_dflt (first | refine len_L (by k_asm) (by k_mem) (by omega) ?_ | refine len_T (by k_asm) (by k_mem) (by omega) ?_)))
local macro_rules | `(tactic| walk_at "subscriptTail") => `(tactic| (k_here; (with_reducible show wpAny _ _ (subscriptTail _ (PySem.Expr.Slice _ _ _ _) (Value.ref _) (Value.ref _)) _ _ _); refine Mine.Stop.on ?_))
local macro_rules | `(tactic| walk_at "compareOp Eq ref ref") => `(tactic| (refine Mine.Stop.on ?_))
local macro_rules | `(tactic| walk_at "compareOp NotEq ref ref") => `(tactic| (refine Mine.Stop.on ?_))
local macro_rules | `(tactic| walk_at "call type:list") => `(tactic| (k_here; k_dflt (refine list_of_tuple (by k_asm) (by k_asm) (by k_mem) (by omega) ?_); intro D' c' h' F' N' l1; (try k_sweep)))
local macro_rules | `(tactic| walk_at "call ref") => `(tactic| ((with_reducible show wpAny _ _ (call (Value.ref 313) _) _ _ _); refine Mine.Stop.on ?_))
local macro_rules | `(tactic| walk_at "exec For") => `(tactic| (refine Mine.Stop.on ?_))
local macro_rules | `(tactic| walk_at "exec For Name Tuple cons nil") => `(tactic| (refine Mine.Stop.on ?_))
local macro_rules | `(tactic| walk_at "pyIter ref") => `(tactic| (refine Mine.Stop.on ?_))
section
variable {prog : Program} {w : World} {dp un : Nat} {gd : Option (List Code)} {cn : Str} {cs : Scope} {a : Addr} {ccd : Value} {cl : List (Str × Addr)} {outer : List Env} {base h₀ : Heap} {L : Addr} {m : Str → Option Value} {news : List (Addr × Obj)} {s : Shared} {Q E : Value → Shared → Prop}
set_option maxRecDepth 100000
set_option maxHeartbeats 1000000
theorem law_size_spec {kl wl : Addr} {kv wv : List Value} {kn wn : Nat} {kk words : List Str} {a0 : Nat} {ta : Tok} (C : Cx (Mine.hd.heap_39 w.params) cs outer base h₀ L s.heap m news) (hd : dp + 20 < recursionLimit) (hu : un + 150 < cLine)
   (hk : (kl, listOf kv.toArray kn) ∈ news) (hkv : StrsAre kv kk) (hw : (wl, listOf wv.toArray wn) ∈ news) (hwv : StrsAre wv words) (hkl : kk.length ≤ 20) (hkok : StrsOk kk) (hwl : words.length ≤ 20) (hwo : OkWs words) (ha : a0 ≤ words.length)
   (hQ : ∀ h' tk' led' t, Cx (Mine.hd.heap_39 w.params) cs outer base h₀ L h' m led' → (∀ p ∈ news, p ∈ led') → Q (.int (sizeW kk words a0 : Nat) t) { s with heap := h', toks := tk' }) :
   wpAny (model prog w) (ktrTop dp un gd cn cs L a ccd cl outer) (call (.ref 320) [.ref kl, .ref wl, .int (a0 : Nat) ta]) Q E s := by
  obtain ⟨⟨A0, B0⟩, F0, XB0, N0, ⟨p0, loose0, mean0, mg0, mb0, TB0⟩, D0, hk0⟩ := id C
  have X0 := XB0.keeps B0.stays
  have T0 := TB0.keeps B0.stays
  refine wpAny_call ?_
  k_dflt (refine' enterC C ?kA ?kF ?kK ?k6 ?k7 ?k8 ?k9 ?kB ?_ ?c2 ?c3 ?c4 ?c5; (case kA => exact rfl); (case kF => exact rfl); (case kK => exact hk0); (case k6 => k_is); (case k7 => k_is); (case k8 => (show dp < _; omega)); (case k9 => first | exact BindsTo.of_eq rfl | exact binds_K (by k_in) rfl (by k_is) rfl rfl rfl); (case kB => exact locs rfl); (case c2 => exact rfl); (case c3 => exact rfl); (case c4 => exact rfl); (case c5 => decide); k_whole)
  intro g L1 hh1 C1 hlt1
  clear B0 F0 N0 X0 T0 D0
  obtain ⟨⟨A1, B1⟩, F1, XB1, N1, ⟨p1, loose1, mean1, mg1, mb1, TB1⟩, D1, hk1⟩ := id C1
  have X1 := XB1.keeps B1.stays
  have T1 := TB1.keeps B1.stays
  dsimp only
  try k_fold
  k_steps
  refine Stop.off ?_
  refine For_A L1 g ?_ (by intro _; rfl)
  k_steps
  refine Stop.off ?_
  rename Fr _ _ _ _ => F2
  rename News _ _ _ _ => N2
  rename ∀ p ∈ news, p.1 < _ => hT
  have hvs : ∀ (t1 t2 t3 : Tok) {j : Nat} {v : Value}, [Value.int 3 t1, .int 2 t2, .int 1 t3][j]? = some v → ∃ (z : Nat) (t : Tok), v = .int (z : Nat) t ∧ z = 3 - j ∧ j < 3 := fun t1 t2 t3 {j v} h => by
    match j, h with
    | 0, h => cases h; exact ⟨3, _, rfl, rfl, by decide⟩
    | 1, h => cases h; exact ⟨2, _, rfl, rfl, by decide⟩
    | 2, h => cases h; exact ⟨1, _, rfl, rfl, by decide⟩
    | j + 3, h => simp at h
  have hIs := News.isTup (h₀ := g) (L := L1) N2 (.head _)
  have hTL := (N2 _ (.head _)).2.1
  refine iter_tupleA (fun j m' nx => (m' "keys" = some (.ref kl) ∧ m' "words" = some (.ref wl) ∧ m' "at" = some (.int (a0 : Nat) ta)) ∧ (∀ p ∈ news, p ∈ nx) ∧ ∀ i, i < j → hasW kk words a0 (3 - i) = false) (by rfl) (fun _ _ => rfl) hIs hTL F2 (News.sub (h₀ := g) (L := L1) N2 fun p hp => .tail _ hp) ⟨⟨rfl, rfl, rfl⟩, fun p hp => hp, fun i hi => absurd hi (Nat.not_lt_zero _)⟩ ?_ ?_
  · clear F2 N2
    rintro j v m₁ nx I own h tk hv ⟨⟨hm1, hm2, hm3⟩, hsub, hno⟩ hown hoff ⟨oI, hoI⟩ hTI F₁ N₁
    obtain ⟨z, tz, rfl, hz, hj3⟩ := hvs _ _ _ hv
    have hsub2 : ∀ p ∈ news, p ∈ nx ++ own := fun p hp => List.mem_append_left _ (hsub p hp)
    have hown2 : ∀ p ∈ own, p ∈ nx ++ own := fun p hp => List.mem_append_right _ hp
    have hoff2 : ∀ p ∈ nx, p ∈ nx ++ own ∧ p.1 ≠ I := fun p hp => ⟨List.mem_append_left _ hp, hoff p hp⟩
    generalize hlq : nx ++ own = ledq at *
    k_steps
    refine Stop.off ?_
    rename Fr _ _ _ _ => F3
    rename News _ _ _ _ => N3
    k_dflt (refine law_has_spec (z := z) ⟨⟨_, B1⟩, F3, XB1, N3, ⟨_, _, _, _, _, TB1⟩, D1, hk1⟩ ?_ ?_ (hsub2 _ hk) hkv (hsub2 _ hw) hwv hkl hkok hwl hwo ha (by omega) ?_)
    · show dp + 1 + 10 < _; omega
    · show un + 3 + 100 < _; omega
    intro h4 tk4 led4 C4 hk4
    have F4 := C4.F
    have N4 := C4.N
    clear F3 N3
    cases hq : hasW kk words a0 z with
    | true =>
      try dsimp only
      k_steps
      rename Fr _ _ _ _ => F5
      rename News _ _ _ _ => N5
      have e : sizeW kk words a0 = z := by
        unfold sizeW
        match j, hz, hj3 with
        | 0, hz, _ => subst hz; rw [if_pos hq]
        | 1, hz, _ => subst hz; rw [if_neg (by rw [hno 0 (by decide)]; decide), if_pos hq]
        | 2, hz, _ => subst hz; rw [if_neg (by rw [hno 0 (by decide)]; decide), if_neg (by rw [hno 1 (by decide)]; decide), if_pos hq]
      dsimp only [TurnPost]
      rw [e] at hQ
      exact leaveC0 F5 N5 fun C => hQ _ _ _ _ C fun p hp => hk4 _ (hsub2 p hp)
    | false =>
      try dsimp only
      k_steps
      show TurnEnd _ _ _ _ _ _ _
      rename Fr _ _ _ _ => F5
      rename News _ _ _ _ => N5
      refine TurnEnd.mk nx F5 N5 (fun p hp => hk4 _ (hown2 p hp)) (fun p hp => hk4 _ (hoff2 p hp).1) hoff ⟨⟨hm1, hm2, hm3⟩, hsub, fun i hi => ?_⟩
      rcases Nat.lt_succ_iff_lt_or_eq.mp hi with h | h
      · exact hno i h
      · rw [h, ← hz]; exact hq
  · clear F2 N2
    rintro m₁ nx h tk ⟨⟨hm1, hm2, hm3⟩, hsub, hno⟩ F₁ N₁
    k_steps
    rename Fr _ _ _ _ => F5
    rename News _ _ _ _ => N5
    have e : sizeW kk words a0 = 0 := by
      unfold sizeW
      rw [if_neg (by rw [hno 0 (Nat.le_of_ble_eq_true rfl)]; decide), if_neg (by rw [hno 1 (Nat.le_of_ble_eq_true rfl)]; decide), if_neg (by rw [hno 2 (Nat.le_of_ble_eq_true rfl)]; decide)]
    rw [e] at hQ
    exact leaveC0 F5 N5 fun C => hQ _ _ _ _ C hsub
end
end Mine
end
section
theorem Mine.switch_S55 : True := by
  w_top off
  trivial
open Lean Elab Tactic Meta PySem PySem.W PySem.Calls PyProof.Rows
set_option pp.deepTerms false
set_option pp.maxSteps 800
set_option pp.deepTerms.threshold 5
namespace Mine
local macro_rules | `(tactic| walk_at "exec For Name Name cons nil") => `(tactic| (refine Mine.Stop.on ?_))
local macro_rules | `(tactic| walk_at "exec For Name Call cons nil") => `(tactic| (refine Mine.Stop.on ?_))
local macro_rules | `(tactic| walk_at "exec Assign cons ListComp") => `(tactic| (refine Mine.Stop.on ?_))
local macro_rules | `(tactic| walk_at "LeaveC") => `(tactic| fail "here")
local macro_rules | `(tactic| k_room) => `(tactic| first | ktr_room | ((simp only [Mine.mark_depth, depth_under_make, depth_under_kw, depth_in1, depth_deeper, depth_caller]); (try dsimp only [ktrTop]); (try simp only [recursionLimit] at *); omega))
local macro_rules | `(tactic| k_all) => `(tactic| first | assumption | exact Mine.offLt (by assumption) | exact Mine.offLt2 (by assumption) (by assumption) | (refine List.forall_mem_append.mpr ⟨?a, ?b⟩; (case a => k_all); (case b => k_all)))
local macro_rules | `(tactic| walk_at "setItem ref str") => `(tactic| (k_here; k_dflt (refine' kda_setB (knd := PySem.strKind _ _) ?F ?N ?hm ?d (strKind_is _ _ _ _) ?z ?_; (case F => k_asm); (case N => k_asm); (case hm => k_mem); (case d => k_asm); (case z => k_asm)); intro h' o' F' N' hd'))
local macro_rules | `(tactic| walk_at "compareOp Is str ref") => `(tactic| (k_here; refine wpAny_is_other (by rfl) (by intro x; cases x) ?_))
local macro_rules | `(tactic| k_mem) => `(tactic| assumption)
local macro_rules | `(tactic| walk_at "eval Name") => `(tactic| (k_here; (with_reducible show wpAny _ _ (eval (Expr.Name _ _) (envOf _ _ _ _ _)) _ _ _); k_dflt (refine' ld ?k1 ?k2 ?_; (case k1 => k_asm); (case k2 => first | exact rfl | assumption); k_whole)))
local macro_rules | `(tactic| walk_at "eval Name") => `(tactic| (k_here; (with_reducible show wpAny _ _ (eval (Expr.Name _ _) (envOfC _ _ _ _ _)) _ _ _); k_dflt (refine' nameX_L ?F ?v ?_ ?a ?b; (case F => k_asm); (case a => rfl); (case b => rfl); (case v => first | rfl | assumption); k_whole)))
local macro_rules | `(tactic| walk_at "call builtin:len") => `(tactic| (k_here; (with_reducible show wpAny _ _ (call (Value.builtin "len") [Value.ref _]) _ _ _); k_dflt (first | refine len_L (by k_asm) (by k_mem) (by omega) ?_ | refine len_T (by k_asm) (by k_mem) (by omega) ?_)))
local macro_rules | `(tactic| walk_at "subscriptTail") => `(tactic| (k_here; (with_reducible show wpAny _ _ (subscriptTail _ (PySem.Expr.Slice _ _ _ _) (Value.ref _) (Value.ref _)) _ _ _); refine Mine.Stop.on ?_))
local macro_rules | `(tactic| walk_at "compareOp Eq ref ref") => `(tactic| (refine Mine.Stop.on ?_))
local macro_rules | `(tactic| walk_at "compareOp NotEq ref ref") => `(tactic| (refine Mine.Stop.on ?_))
local macro_rules | `(tactic| walk_at "call type:list") => `(tactic| (k_here; k_dflt (refine list_of_tuple (by k_asm) (by k_asm) (by k_mem) (by omega) ?_); intro D' c' h' F' N' l1; (try k_sweep)))
local macro_rules | `(tactic| walk_at "call ref") => `(tactic| ((with_reducible show wpAny _ _ (call (Value.ref 298) _) _ _ _); refine Mine.Stop.on ?_))
local macro_rules | `(tactic| walk_at "call ref") => `(tactic| ((with_reducible show wpAny _ _ (call (Value.ref 313) _) _ _ _); refine Mine.Stop.on ?_))
local macro_rules | `(tactic| walk_at "call ref") => `(tactic| ((with_reducible show wpAny _ _ (call (Value.ref 320) _) _ _ _); refine Mine.Stop.on ?_))
local macro_rules | `(tactic| walk_at "call ref") => `(tactic| ((with_reducible show wpAny _ _ (call (Value.ref 97) _) _ _ _); refine Mine.Stop.on ?_))
local macro_rules | `(tactic| walk_at "call ref") => `(tactic| ((with_reducible show wpAny _ _ (call (Value.ref 152) _) _ _ _); refine Mine.Stop.on ?_))
local macro_rules | `(tactic| walk_at "call ref") => `(tactic| ((with_reducible show wpAny _ _ (call (Value.ref 160) _) _ _ _); refine Mine.Stop.on ?_))
local macro_rules | `(tactic| walk_at "call ref") => `(tactic| ((with_reducible show wpAny _ _ (call (Value.ref 166) _) _ _ _); refine Mine.Stop.on ?_))
local macro_rules | `(tactic| walk_at "exec For") => `(tactic| (refine Mine.Stop.on ?_))
local macro_rules | `(tactic| walk_at "call type:list") => `(tactic| (refine Mine.Stop.on ?_))
local macro_rules | `(tactic| walk_at "call builtin:str.join") => `(tactic| (refine Mine.Stop.on ?_))
def lawStmt : Stmt := PySem.Challenge.pw_ew0015_03.main.body.getD 17 passS
def lawBody : List Stmt := bodyOf lawStmt
def lawScope : Scope := scopeOf lawStmt
abbrev lawEnv (L fa : Addr) (cd : Value) : Env := envOfC "law" lawScope L fa cd
abbrev LedOf (w : World) (H : TrieHd) (nd : List Nd) (rest : List (Addr × Obj)) : List (Addr × Obj) := hdObjs w.params 169 false H (adOf nd 0) ++ (objsOf 71 nd ++ rest)
theorem joinW_text (ws : List Str) : joinW ws = textOf ws false := rfl
theorem same_at {h₀ h : Heap} {L : Addr} {led : List (Addr × Obj)} (N : News h₀ L h led) {p q : Addr × Obj} (hp : p ∈ led) (hq : q ∈ led) (e : p.1 = q.1) : p = q := by
  have h1 := (N p hp).1
  have h2 := (N q hq).1
  rw [e, h2] at h1
  exact Prod.ext e (Option.some.inj h1).symm
theorem addKnown_len (ws : List Str) : ∀ ks : List Str, (ws.foldl addKnown ks).length ≤ ks.length + ws.length := by
  induction ws with
  | nil => intro ks; exact Nat.le_refl _
  | cons x r ih =>
    intro ks
    have h := ih (addKnown ks x)
    have h2 : (addKnown ks x).length ≤ ks.length + 1 := by
      unfold addKnown
      split
      · omega
      · simp
    rw [List.foldl_cons, List.length_cons]
    omega
section
variable {prog : Program} {w : World} {base : Heap} {L fa : Addr} {cd : Value} {m : Str → Option Value} {s : Shared} {Q : Flow → Shared → Prop} {E : Value → Shared → Prop} {H : TrieHd} {nd : List Nd} {P : List (List Str)} {O : List (Option (Str × Str))} {ks : List Str} {rest : List (Addr × Obj)}
set_option maxRecDepth 100000
set_option maxHeartbeats 4000000
/-- what stands after some rows have been added -/
structure Added (prog : Program) (w : World) (tr : Addr) (rest₀ : List (Addr × Obj)) (rows : List (List Str)) (H : TrieHd) (nd : List Nd) (P : List (List Str)) (O : List (Option (Str × Str))) (ks : List Str) (ex : List (Addr × Obj)) : Prop where
  tr : H.tr = tr
  lo : (H.kd == sysModules) = false
  trie : TrieS prog w 44 169 71 H nd P O ks (ex ++ rest₀)
  inv : InvA rows P O ks
  pl : P.length ≤ 1 + 3 * rows.length
  kl : ks.length ≤ 3 * rows.length
theorem adds_spec {kl : Addr} {kv : List Value} {kn : Nat} {keys : List (List Str)} (C : Cx (Mine.hd.heap_39 w.params) lawScope [] base base L s.heap m (LedOf w H nd rest)) (hA : Added prog w H.tr rest [] H nd P O ks [])
   (hkl : (kl, listOf kv.toArray kn) ∈ rest) (hkv : StrsAre kv (keys.map fun r => textOf r false)) (hok : ∀ r ∈ keys, OkWs r ∧ 1 ≤ r.length ∧ r.length ≤ 3) (hn : keys.length ≤ 9) (hm1 : m "keys" = some (.ref kl)) (hm2 : m "trie" = some (.ref H.tr))
   (hE : PassesOwn (model prog w) (callerA.deeper (lawEnv L fa cd)) (lawEnv L fa cd) E)
   (hQ : ∀ h' tk' m' H' nd' P' O' ks' ex, Cx (Mine.hd.heap_39 w.params) lawScope [] base base L h' m' (LedOf w H' nd' (ex ++ rest)) → Added prog w H.tr rest keys H' nd' P' O' ks' ex → (∀ x : Str, x ≠ "key" → m' x = m x) → Q .next { s with heap := h', toks := tk' }) :
   wpAny (model prog w) (callerA.deeper (lawEnv L fa cd)) (exec (lawBody.getD 2 passS) (lawEnv L fa cd)) Q E s := by
  with_unfolding_all show wpAny _ (callerA.deeper (envOfC _ ⟨_, _, _, _, _⟩ _ _ _)) (exec (Stmt.For _ _ _ _ _) (envOfC _ ⟨_, _, _, _, _⟩ _ _ _)) _ _ _
  obtain ⟨⟨A1, B1⟩, F1, XB1, N1, ⟨p1, loose1, mean1, mg1, mb1, TB1⟩, D1, hk1⟩ := id C
  have X1 := XB1.keeps B1.stays
  have T1 := TB1.keeps B1.stays
  have hkvl := strs_len hkv
  rw [List.length_map] at hkvl
  refine For_A L base ?_ (by intro _; rfl) hE
  k_steps
  refine iter_listA (l := kl) (vs := kv) (fun i m' nx => (∀ x : Str, x ≠ "key" → m' x = m x) ∧ ∃ H' nd' P' O' ks' ex, nx = LedOf w H' nd' (ex ++ rest) ∧ Added prog w H.tr rest (keys.take i) H' nd' P' O' ks' ex) (by rfl) (fun _ _ => rfl) (PySem.IsL.isList (n := kn) (N1 _ (List.mem_append_right _ (List.mem_append_right _ hkl))).1) (N1 _ (List.mem_append_right _ (List.mem_append_right _ hkl))).2.1 F1 N1 ⟨fun _ _ => rfl, H, nd, P, O, ks, [], rfl, hA⟩ ?_ ?_
  · clear F1 N1
    rintro i v m₁ nx I own h tk hv ⟨hm, H', nd', P', O', ks', ex, rfl, hA'⟩ hown hoff ⟨oI, hoI, hoIc⟩ hqI F₁ N₁
    obtain ⟨xr, ty, hxr, rfl⟩ := strs_at hkv hv
    rw [List.getElem?_map] at hxr
    obtain ⟨row, hri, hxr⟩ : ∃ row, keys[i]? = some row ∧ textOf row false = xr := by
      cases hk : keys[i]? with
      | none => rw [hk] at hxr; cases hxr
      | some row => rw [hk] at hxr; exact ⟨row, rfl, Option.some.inj hxr⟩
    subst hxr
    obtain ⟨hro, hr1, hr3⟩ := hok row (List.mem_of_getElem? hri)
    have hn2 : m₁ "trie" = some (.ref H.tr) := (hm _ (by decide)).trans hm2
    rw [← hA'.tr] at hn2
    have htr : (H'.tr, ({ cls := .ref 169, dict := some H'.dx, data := .plain } : Obj)) ∈ LedOf w H' nd' (ex ++ rest) ++ own := .head _
    have hdx : (H'.dx, dictOf (hdEnts w.params false H' (adOf nd' 0)) 3) ∈ LedOf w H' nd' (ex ++ rest) ++ own := .tail _ (.head _)
    have hre : ∀ p ∈ ex ++ rest, p ∈ LedOf w H' nd' (ex ++ rest) ++ own := fun p hp => List.mem_append_left _ (List.mem_append_right _ (List.mem_append_right _ hp))
    have hled0 : ∀ p ∈ LedOf w H' nd' (ex ++ rest), p ∈ LedOf w H' nd' (ex ++ rest) ++ own := fun p hp => List.mem_append_left _ hp
    have hown0 : ∀ p ∈ own, p ∈ LedOf w H' nd' (ex ++ rest) ++ own := fun p hp => List.mem_append_right _ hp
    generalize hlq : LedOf w H' nd' (ex ++ rest) ++ own = ledq at *
    unfold hdEnts at hdx
    have hwl := text_bound hro false
    have hw0 := text_ne hro (fun e => by rw [e] at hr1; exact absurd hr1 (by decide)) false
    k_steps
    refine Stop.off ?_
    rename Fr _ _ _ _ => F4
    rename News _ _ _ _ => N4
    have hvl : valOf row = Str.ofString "<" ++ textOf row false ++ Str.ofString ">" := rfl
    have hv0 : (valOf row).length ≠ 0 ∧ (valOf row).length ≤ 1000 := by
      rw [hvl, str_app_len, str_app_len]
      have e1 : (Str.ofString "<").length = 1 := rfl
      have e2 : (Str.ofString ">").length = 1 := rfl
      omega
    rw [← hvl]
    have hIq : ∀ p ∈ LedOf w H' nd' ((I, oI) :: (ex ++ rest)), p ∈ ledq := fun p hp => by
      rcases List.mem_append.mp hp with hp | hp
      · exact hled0 p (List.mem_append_left _ hp)
      rcases List.mem_append.mp hp with hp | hp
      · exact hled0 p (List.mem_append_right _ (List.mem_append_left _ hp))
      rcases List.mem_cons.mp hp with rfl | hp
      · exact hown0 _ hoI
      · exact hled0 p (List.mem_append_right _ (List.mem_append_right _ hp))
    have hownq : ∀ p ∈ own, p = (I, oI) ∨ p ∈ ex ++ rest := fun p hp => by
      rcases hown p hp with e | e
      · exact .inl (same_at (h₀ := base) (L := L) N4 (hown0 p hp) (hown0 _ hoI) e)
      · exact .inr (same_at (h₀ := base) (L := L) N4 (hown0 p hp) (hre _ (List.mem_append_right _ hkl)) e ▸ List.mem_append_right _ hkl)
    have T0 : TrieS prog w 44 169 71 H' nd' P' O' ks' ((I, oI) :: (ex ++ rest)) := hA'.trie.keep (fun p hp _ => .tail _ hp) (apart_new hA'.trie.apart hoff)
    have C9 : Cx (Mine.hd.heap_39 w.params) lawScope [] base base L _ _ (LedOf w H' nd' ((I, oI) :: (ex ++ rest))) := ⟨⟨_, B1⟩, F4, XB1, News.sub (h₀ := base) (L := L) N4 hIq, ⟨_, _, _, _, _, TB1⟩, D1, hk1⟩
    have hkt : (keys.take i).length ≤ 9 := by rw [List.length_take]; omega
    have hPl := hA'.pl
    have hKl := hA'.kl
    have hwne : row ≠ [] := fun e => by rw [e] at hr1; exact absurd hr1 (by decide)
    have hxw := words_of_text hro hwne false
    k_dflt (refine add_spec (y := valOf row) (O := O') (ks := ks') C9 ?_ ?_ (by omega) (text_ne hro hwne false) (text_ascii hro false) (.inr ⟨_, rfl, hv0.1, hv0.2⟩) T0 (by omega) (by omega) ?_)
    · decide
    · decide
    intro g10 h10 tk10 nd2 okd2 j ta tt u TT10 hj10 hroot10 C10 T10
    replace C10 := cx_home TT10 C9 C10
    clear TT10 F4 N4 C9
    rw [hxw] at hj10 T10
    have hlen10 : (addAll P' row).length = P'.length + (nd2.length - nd'.length) := by
      have h1 := T10.ok.len
      have h2 := hA'.trie.ok.len
      have h3 : P'.length ≤ (addAll P' row).length := by
        obtain ⟨l, hl⟩ := addAll_ext P' row
        rw [hl, List.length_append]; omega
      omega
    have hI2 := hA'.inv.put (hA'.trie.outs.len.trans hA'.trie.ok.len) hlen10 hj10 T10.ok.nodup hro hr1 hr3
    have hPl2 := addFold_len row (P', [])
    have hKl2 := addKnown_len row ks'
    have htk : keys.take (i + 1) = keys.take i ++ [row] := by rw [List.take_add_one, hri]; rfl
    obtain ⟨h1, h2, h3, h4, h5, h6⟩ := apart3.mp T10.apart
    obtain ⟨a1, a2⟩ := apart_cons.mp h3
    obtain ⟨a3, a4⟩ := apart_cons.mp a2
    have hcut : ∀ p ∈ (ta, pairObj (textOf row false) tt (valOf row) u) :: (ex ++ rest), p ∈ (ta, pairObj (textOf row false) tt (valOf row) u) :: (I, oI) :: (ex ++ rest) := fun p hp => by
      rcases List.mem_cons.mp hp with rfl | hp
      · exact .head _
      · exact .tail _ (.tail _ hp)
    have hI10 : (I, oI) ∈ (ta, pairObj (textOf row false) tt (valOf row) u) :: (I, oI) :: (ex ++ rest) := .tail _ (.head _)
    have hap : Apart (LedOf w { H' with okd := okd2 } nd2 ((ta, pairObj (textOf row false) tt (valOf row) u) :: (ex ++ rest))) :=
      apart3.mpr ⟨h1, h2, apart_cons.mpr ⟨fun p hp => a1 p (.tail _ hp), a4⟩, h4, fun p hp q hq => h5 p hp q (hcut q hq), fun p hp q hq => h6 p hp q (hcut q hq)⟩
    have hcutT : ∀ p ∈ (ta, pairObj (textOf row false) tt (valOf row) u) :: (I, oI) :: (ex ++ rest), (∃ vs, p.2 = tupO vs) → p ∈ (ta, pairObj (textOf row false) tt (valOf row) u) :: (ex ++ rest) := fun p hp ht => by
      rcases List.mem_cons.mp hp with rfl | hp
      · exact .head _
      rcases List.mem_cons.mp hp with rfl | hp
      · obtain ⟨vs, e⟩ := ht
        have e2 : oI.cls = .type "tuple" := by rw [show oI = _ from e]
        rw [hoIc] at e2
        exact absurd e2 (by decide)
      · exact .tail _ hp
    have T11 := T10.keep hcutT hap
    have F10 := C10.F
    have N10 := C10.N
    dsimp only
    k_steps
    show TurnEnd _ _ _ _ _ _ _
    rename Fr _ _ _ _ => F12
    rename News _ _ _ _ => N12
    refine TurnEnd.mk (LedOf w { H' with okd := okd2 } nd2 ((ta, pairObj (textOf row false) tt (valOf row) u) :: (ex ++ rest))) F12 N12 (fun p hp => ?_) (fun p hp => ?_) (fun p hp => ?_) ⟨fun x hx => (if_neg hx).trans (hm x hx), { H' with okd := okd2 }, nd2, _, _, _, (ta, pairObj (textOf row false) tt (valOf row) u) :: ex, rfl, ⟨hA'.tr, hA'.lo, T11, by rw [htk]; exact hI2, ?_, ?_⟩⟩
    · refine List.mem_append_right _ (List.mem_append_right _ ?_)
      rcases hownq p hp with rfl | hp
      · exact hI10
      · exact .tail _ (.tail _ hp)
    · rcases List.mem_append.mp hp with hp | hp
      · exact List.mem_append_left _ hp
      rcases List.mem_append.mp hp with hp | hp
      · exact List.mem_append_right _ (List.mem_append_left _ hp)
      · exact List.mem_append_right _ (List.mem_append_right _ (hcut p hp))
    · rcases List.mem_append.mp hp with hp | hp
      · exact h5 p hp _ hI10
      rcases List.mem_append.mp hp with hp | hp
      · exact h6 p hp _ hI10
      rcases List.mem_cons.mp hp with rfl | hp
      · exact (a1 _ (.head _)).symm
      · exact a3 p hp
    · rw [htk, List.length_append, List.length_singleton]
      change (addAll P' row).length ≤ _ at hPl2
      dsimp only at hPl2
      unfold addAll at *
      omega
    · rw [htk, List.length_append, List.length_singleton]
      omega
  · rintro m₁ nx h tk ⟨hm, H', nd', P', O', ks', ex, rfl, hA'⟩ F₁ N₁
    rw [hkvl, List.take_length] at hA'
    exact hQ h tk m₁ H' nd' P' O' ks' ex ⟨⟨_, B1⟩, F₁, XB1, N₁, ⟨_, _, _, _, _, TB1⟩, D1, hk1⟩ hA' hm
end
end Mine
end
section
theorem Mine.switch_S56 : True := by
  w_top off
  trivial
open Lean Elab Tactic Meta PySem PySem.W PySem.Calls PyProof.Rows
set_option pp.deepTerms false
set_option pp.maxSteps 800
set_option pp.deepTerms.threshold 5
namespace Mine
local macro_rules | `(tactic| walk_at "exec For Name Name cons nil") => `(tactic| (refine Mine.Stop.on ?_))
local macro_rules | `(tactic| walk_at "exec For Name Call cons nil") => `(tactic| (refine Mine.Stop.on ?_))
local macro_rules | `(tactic| walk_at "exec Assign cons ListComp") => `(tactic| (refine Mine.Stop.on ?_))
local macro_rules | `(tactic| walk_at "LeaveC") => `(tactic| fail "here")
local macro_rules | `(tactic| k_room) => `(tactic| first | ktr_room | ((simp only [Mine.mark_depth, depth_under_make, depth_under_kw, depth_in1, depth_deeper, depth_caller]); (try dsimp only [ktrTop]); (try simp only [recursionLimit] at *); omega))
local macro_rules | `(tactic| k_all) => `(tactic| first | assumption | exact Mine.offLt (by assumption) | exact Mine.offLt2 (by assumption) (by assumption) | (refine List.forall_mem_append.mpr ⟨?a, ?b⟩; (case a => k_all); (case b => k_all)))
local macro_rules | `(tactic| walk_at "setItem ref str") => `(tactic| (k_here; k_dflt (refine' kda_setB (knd := PySem.strKind _ _) ?F ?N ?hm ?d (strKind_is _ _ _ _) ?z ?_; (case F => k_asm); (case N => k_asm); (case hm => k_mem); (case d => k_asm); (case z => k_asm)); intro h' o' F' N' hd'))
local macro_rules | `(tactic| walk_at "compareOp Is str ref") => `(tactic| (k_here; refine wpAny_is_other (by rfl) (by intro x; cases x) ?_))
local macro_rules | `(tactic| k_mem) => `(tactic| assumption)
local macro_rules | `(tactic| walk_at "eval Name") => `(tactic| (k_here; (with_reducible show wpAny _ _ (eval (Expr.Name _ _) (envOf _ _ _ _ _)) _ _ _); k_dflt (refine' ld ?k1 ?k2 ?_; (case k1 => k_asm); (case k2 => first | exact rfl | assumption); k_whole)))
local macro_rules | `(tactic| walk_at "eval Name") => `(tactic| (k_here; (with_reducible show wpAny _ _ (eval (Expr.Name _ _) (envOfC _ _ _ _ _)) _ _ _); k_dflt (refine' nameX_L ?F ?v ?_ ?a ?b; (case F => k_asm); (case a => rfl); (case b => rfl); (case v => first | rfl | assumption); k_whole)))
local macro_rules | `(tactic| walk_at "call builtin:len") => `(tactic| (k_here; (with_reducible show wpAny _ _ (call (Value.builtin "len") [Value.ref _]) _ _ _); k_dflt (first | refine len_L (by k_asm) (by k_mem) (by omega) ?_ | refine len_T (by k_asm) (by k_mem) (by omega) ?_)))
local macro_rules | `(tactic| walk_at "subscriptTail") => `(tactic| (k_here; (with_reducible show wpAny _ _ (subscriptTail _ (PySem.Expr.Slice _ _ _ _) (Value.ref _) (Value.ref _)) _ _ _); refine Mine.Stop.on ?_))
local macro_rules | `(tactic| walk_at "compareOp Eq ref ref") => `(tactic| (refine Mine.Stop.on ?_))
local macro_rules | `(tactic| walk_at "compareOp NotEq ref ref") => `(tactic| (refine Mine.Stop.on ?_))
local macro_rules | `(tactic| walk_at "call type:list") => `(tactic| (k_here; k_dflt (refine list_of_tuple (by k_asm) (by k_asm) (by k_mem) (by omega) ?_); intro D' c' h' F' N' l1; (try k_sweep)))
local macro_rules | `(tactic| walk_at "call ref") => `(tactic| ((with_reducible show wpAny _ _ (call (Value.ref 298) _) _ _ _); refine Mine.Stop.on ?_))
local macro_rules | `(tactic| walk_at "call ref") => `(tactic| ((with_reducible show wpAny _ _ (call (Value.ref 313) _) _ _ _); refine Mine.Stop.on ?_))
local macro_rules | `(tactic| walk_at "call ref") => `(tactic| ((with_reducible show wpAny _ _ (call (Value.ref 320) _) _ _ _); refine Mine.Stop.on ?_))
local macro_rules | `(tactic| walk_at "call ref") => `(tactic| ((with_reducible show wpAny _ _ (call (Value.ref 97) _) _ _ _); refine Mine.Stop.on ?_))
local macro_rules | `(tactic| walk_at "call ref") => `(tactic| ((with_reducible show wpAny _ _ (call (Value.ref 152) _) _ _ _); refine Mine.Stop.on ?_))
local macro_rules | `(tactic| walk_at "call ref") => `(tactic| ((with_reducible show wpAny _ _ (call (Value.ref 160) _) _ _ _); refine Mine.Stop.on ?_))
local macro_rules | `(tactic| walk_at "call ref") => `(tactic| ((with_reducible show wpAny _ _ (call (Value.ref 166) _) _ _ _); refine Mine.Stop.on ?_))
local macro_rules | `(tactic| walk_at "call type:enumerate") => `(tactic| (refine Mine.Stop.on ?_))
local macro_rules | `(tactic| walk_at "exec Assign cons ListComp") => `(tactic| (refine Mine.Stop.on ?_))
def keyRows : List (List Str) := [["mit"], ["gpl"], ["mit", "gpl"], ["bsd"], ["bsd", "new"], ["bsd", "new", "("], ["("], [")"], ["x", "or"]]
theorem keys_texts : lawKeys = keyRows.map fun r => textOf r false := by decide +kernel
def bitOn (c i : Nat) : Bool := decide (c / 2 ^ i % 2 = 1)
def rowsUp (c n : Nat) : List (List Str) := ((List.range n).filter (bitOn c)).map fun i => keyRows.getD i []
def rowsOf (c : Nat) : List (List Str) := rowsUp c 9
theorem rowsUp_succ (c n : Nat) : rowsUp c (n + 1) = rowsUp c n ++ if bitOn c n then [keyRows.getD n []] else [] := by
  unfold rowsUp
  rw [List.range_succ, List.filter_append, List.map_append, List.filter_cons]
  split <;> simp
theorem bit_eq (c i : Nat) : ((c : Int).fdiv (2 ^ ((i : Int)).toNat)).fmod 2 = ((c / 2 ^ i % 2 : Nat) : Int) := by
  rw [Int.toNat_natCast, Int.fdiv_eq_ediv_of_nonneg _ (by exact Int.pow_nonneg (by decide)), Int.fmod_eq_emod_of_nonneg _ (by decide)]
  rw [show ((2 : Int) ^ i) = ((2 ^ i : Nat) : Int) by rw [Int.natCast_pow]; rfl]
  rfl
theorem key_at {i : Nat} {y : Str} (h : lawKeys[i]? = some y) : textOf (keyRows.getD i []) false = y := by
  rw [keys_texts, List.getElem?_map] at h
  rw [List.getD_eq_getElem?_getD]
  cases hk : keyRows[i]? with
  | none => rw [hk] at h; cases h
  | some r => rw [hk] at h; exact Option.some.inj h
section
variable {prog : Program} {w : World} {base : Heap} {L fa : Addr} {cd : Value} {m : Str → Option Value} {s : Shared} {Q : Flow → Shared → Prop} {E : Value → Shared → Prop} {led : List (Addr × Obj)}
set_option maxRecDepth 100000
set_option maxHeartbeats 4000000
theorem keys_spec {c : Nat} {tc : Tok} {oc : Obj} (C : Cx (Mine.hd.heap_39 w.params) lawScope [] base base L s.heap m led) (hc : (L + 1 + 1, oc) ∈ led) (hoc : oc.data = .cell (some (.int (c : Nat) tc))) (hcl : c ≤ 1000)
   (hE : PassesOwn (model prog w) (callerA.deeper (lawEnv L fa cd)) (lawEnv L fa cd) E)
   (hQ : ∀ h' tk' D kv led', Cx (Mine.hd.heap_39 w.params) lawScope [] base base L h' (fun z => if z = "keys" then some (.ref D) else m z) ((D, LCg.lst kv) :: led') → (∀ p ∈ led, p ∈ led') → (∀ p ∈ led', p.1 < D) → StrsAre kv ((rowsOf c).map fun r => textOf r false) → Q .next { s with heap := h', toks := tk' }) :
   wpAny (model prog w) (callerA.deeper (lawEnv L fa cd)) (exec (lawBody.getD 1 passS) (lawEnv L fa cd)) Q E s := by
  with_unfolding_all show wpAny _ (callerA.deeper (envOfC _ ⟨_, _, _, _, _⟩ _ _ _)) (exec (Stmt.Assign _ _ _) (envOfC _ ⟨_, _, _, _, _⟩ _ _ _)) _ _ _
  obtain ⟨⟨A1, B1⟩, F1, XB1, N1, ⟨p1, loose1, mean1, mg1, mb1, TB1⟩, D1, hk1⟩ := id C
  have X1 := XB1.keeps B1.stays
  have T1 := TB1.keeps B1.stays
  k_dflt (refine Assign_CompP (cl := _) (by with_unfolding_all rfl) (by with_unfolding_all rfl) (by rfl) (by decide) ?_)
  k_steps
  refine Stop.off ?_
  rename Fr _ _ _ _ => F2
  rename News _ _ _ _ => N2
  k_dflt (refine law_keys_spec ⟨⟨_, B1⟩, F2, XB1, N2, ⟨_, _, _, _, _, TB1⟩, D1, hk1⟩ ?_ ?_ ?_)
  · decide
  · decide
  intro h3 tk3 K kn kv0 C3 hlt3 hkv3
  have F3 := C3.F
  have N3 := C3.N
  clear F2 N2
  try dsimp only
  k_steps
  refine Stop.off ?_
  rename Fr _ _ _ _ => F4
  rename News _ _ _ _ => N4
  have hkvl := strs_len hkv3
  have hc3 : (L + 1 + 1, oc) ∈ (K, listOf kv0.toArray kn) :: led := .tail _ hc
  k_dflt (refine enum_comp (fun i ys => StrsAre ys ((rowsUp c i).map fun r => textOf r false)) (by rfl) (by rfl) (by decide) (by rfl) (by rfl) (by rfl) (by decide) (by rfl) (by rfl) F4 N4 (.head _) (by rw [hkvl]; decide) .nil ?_ ?_)
  · rintro i ys x y own C oC D m₂ h tk E' hi ⟨t, rfl, hy⟩ hys hyl hC h1 h2 F N
    obtain ⟨yk, ty, hyk, rfl⟩ := strs_at hkv3 hy
    have hi9 : i < 9 := by rw [hkvl] at hi; exact hi
    have hc4 : (L + 1 + 1, oc) ∈ (C, oC) :: (D, LCg.lst ys) :: (own ++ (K, listOf kv0.toArray kn) :: led) := .tail _ (.tail _ (List.mem_append_right _ hc3))
    k_steps
    · rename Int.fmod _ _ = _ => hb
      rw [bit_eq] at hb
      have hb2 : bitOn c i = true := by unfold bitOn; exact decide_eq_true (by omega)
      refine PEnd.intro F N ?_
      rw [rowsUp_succ, hb2, if_pos rfl, List.map_append, List.map_singleton, key_at hyk]
      exact strs_snoc hys _ _
    · rename Int.fmod _ _ ≠ _ => hb
      rw [bit_eq] at hb
      have hb2 : bitOn c i = false := by unfold bitOn; exact decide_eq_false (by omega)
      refine PEnd.intro F N ?_
      rw [rowsUp_succ, hb2, if_neg (by decide), List.append_nil]
      exact hys
  · intro D h tk ys hj F N hlt
    rw [hkvl] at hj
    exact hQ h tk D ys _ ⟨⟨_, B1⟩, F, XB1, N, ⟨_, _, _, _, _, TB1⟩, D1, hk1⟩ (fun p hp => .tail _ hp) hlt hj
end
end Mine
end
section
theorem Mine.switch_S57 : True := by
  w_top off
  trivial
open Lean Elab Tactic Meta PySem PySem.W PySem.Calls PyProof.Rows
set_option pp.deepTerms false
set_option pp.maxSteps 800
set_option pp.deepTerms.threshold 5
namespace Mine
local macro_rules | `(tactic| walk_at "exec For Name Name cons nil") => `(tactic| (refine Mine.Stop.on ?_))
local macro_rules | `(tactic| walk_at "exec For Name Call cons nil") => `(tactic| (refine Mine.Stop.on ?_))
local macro_rules | `(tactic| walk_at "exec Assign cons ListComp") => `(tactic| (refine Mine.Stop.on ?_))
local macro_rules | `(tactic| walk_at "LeaveC") => `(tactic| fail "here")
local macro_rules | `(tactic| k_room) => `(tactic| first | ktr_room | ((simp only [Mine.mark_depth, depth_under_make, depth_under_kw, depth_in1, depth_deeper, depth_caller]); (try dsimp only [ktrTop]); (try simp only [recursionLimit] at *); omega))
local macro_rules | `(tactic| k_all) => `(tactic| first | assumption | exact Mine.offLt (by assumption) | exact Mine.offLt2 (by assumption) (by assumption) | (refine List.forall_mem_append.mpr ⟨?a, ?b⟩; (case a => k_all); (case b => k_all)))
local macro_rules | `(tactic| walk_at "setItem ref str") => `(tactic| (k_here; k_dflt (refine' kda_setB (knd := PySem.strKind _ _) ?F ?N ?hm ?d (strKind_is _ _ _ _) ?z ?_; (case F => k_asm); (case N => k_asm); (case hm => k_mem); (case d => k_asm); (case z => k_asm)); intro h' o' F' N' hd'))
local macro_rules | `(tactic| walk_at "compareOp Is str ref") => `(tactic| (k_here; refine wpAny_is_other (by rfl) (by intro x; cases x) ?_))
local macro_rules | `(tactic| k_mem) => `(tactic| assumption)
local macro_rules | `(tactic| walk_at "eval Name") => `(tactic| (k_here; (with_reducible show wpAny _ _ (eval (Expr.Name _ _) (envOf _ _ _ _ _)) _ _ _); k_dflt (refine' ld ?k1 ?k2 ?_; (case k1 => k_asm); (case k2 => first | exact rfl | assumption); k_whole)))
local macro_rules | `(tactic| walk_at "eval Name") => `(tactic| (k_here; (with_reducible show wpAny _ _ (eval (Expr.Name _ _) (envOfC _ _ _ _ _)) _ _ _); k_dflt (refine' nameX_L ?F ?v ?_ ?a ?b; (case F => k_asm); (case a => rfl); (case b => rfl); (case v => first | rfl | assumption); k_whole)))
local macro_rules | `(tactic| walk_at "call builtin:len") => `(tactic| (k_here; (with_reducible show wpAny _ _ (call (Value.builtin "len") [Value.ref _]) _ _ _); k_dflt (first | refine len_L (by k_asm) (by k_mem) (by omega) ?_ | refine len_T (by k_asm) (by k_mem) (by omega) ?_)))
local macro_rules | `(tactic| walk_at "subscriptTail") => `(tactic| (k_here; (with_reducible show wpAny _ _ (subscriptTail _ (PySem.Expr.Slice _ _ _ _) (Value.ref _) (Value.ref _)) _ _ _); refine Mine.Stop.on ?_))
local macro_rules | `(tactic| walk_at "compareOp Eq ref ref") => `(tactic| (refine Mine.Stop.on ?_))
local macro_rules | `(tactic| walk_at "compareOp NotEq ref ref") => `(tactic| (refine Mine.Stop.on ?_))
local macro_rules | `(tactic| walk_at "call type:list") => `(tactic| (k_here; k_dflt (refine list_of_tuple (by k_asm) (by k_asm) (by k_mem) (by omega) ?_); intro D' c' h' F' N' l1; (try k_sweep)))
local macro_rules | `(tactic| walk_at "call ref") => `(tactic| ((with_reducible show wpAny _ _ (call (Value.ref 298) _) _ _ _); refine Mine.Stop.on ?_))
local macro_rules | `(tactic| walk_at "call ref") => `(tactic| ((with_reducible show wpAny _ _ (call (Value.ref 313) _) _ _ _); refine Mine.Stop.on ?_))
local macro_rules | `(tactic| walk_at "call ref") => `(tactic| ((with_reducible show wpAny _ _ (call (Value.ref 320) _) _ _ _); refine Mine.Stop.on ?_))
local macro_rules | `(tactic| walk_at "call ref") => `(tactic| ((with_reducible show wpAny _ _ (call (Value.ref 97) _) _ _ _); refine Mine.Stop.on ?_))
local macro_rules | `(tactic| walk_at "call ref") => `(tactic| ((with_reducible show wpAny _ _ (call (Value.ref 152) _) _ _ _); refine Mine.Stop.on ?_))
local macro_rules | `(tactic| walk_at "call ref") => `(tactic| ((with_reducible show wpAny _ _ (call (Value.ref 160) _) _ _ _); refine Mine.Stop.on ?_))
local macro_rules | `(tactic| walk_at "call ref") => `(tactic| ((with_reducible show wpAny _ _ (call (Value.ref 166) _) _ _ _); refine Mine.Stop.on ?_))
local macro_rules | `(tactic| walk_at "exec While") => `(tactic| (refine Mine.Stop.on ?_))
local macro_rules | `(tactic| walk_at "call builtin:list.append") => `(tactic| (refine Mine.Stop.on ?_))
local macro_rules | `(tactic| walk_at "subscriptTail") => `(tactic| ((with_reducible show wpAny _ _ (subscriptTail _ _ (Value.ref _) (Value.int (-1) _)) _ _ _); refine Mine.Stop.on ?_))
/-! the runs: where they begin and how long they are -/
def sizesRun (kk words : List Str) : Nat → Nat → List (Nat × Nat)
  | 0, _ => []
  | f + 1, a => if a < words.length then (a, sizeW kk words a) :: sizesRun kk words f (a + max 1 (sizeW kk words a)) else []
def sizesAll (kk words : List Str) : List (Nat × Nat) := sizesRun kk words words.length 0
theorem sizeW_le {kk words : List Str} {a : Nat} (h : a ≤ words.length) : a + sizeW kk words a ≤ words.length := by
  unfold sizeW
  have hz : ∀ z, hasW kk words a z = true → a + z ≤ words.length := fun z h => by
    unfold hasW at h
    exact (of_decide_eq_true h).1
  split
  · exact hz 3 (by assumption)
  · split
    · exact hz 2 (by assumption)
    · split
      · exact hz 1 (by assumption)
      · exact h
theorem sizesRun_end {kk words : List Str} {f a : Nat} (h : ¬ a < words.length) : sizesRun kk words f a = [] := by
  cases f with
  | zero => rfl
  | succ f => unfold sizesRun; rw [if_neg h]
def toI (p : Nat × Nat) : I2 := ((p.1 : Int), (p.2 : Int))
section
variable {prog : Program} {w : World} {base : Heap} {L fa : Addr} {cd : Value} {m : Str → Option Value} {s : Shared} {Q : Flow → Shared → Prop} {E : Value → Shared → Prop} {led : List (Addr × Obj)}
set_option maxRecDepth 100000
set_option maxHeartbeats 4000000
theorem sizes_spec {kl wl Z : Addr} {kv wv : List Value} {kn wn zn : Nat} {kk words : List Str} {t0 : Tok} (C : Cx (Mine.hd.heap_39 w.params) lawScope [] base base L s.heap m ((Z, listOf [].toArray zn) :: led)) (hZ : ∀ p ∈ led, p.1 ≠ Z)
   (hk : (kl, listOf kv.toArray kn) ∈ led) (hkv : StrsAre kv kk) (hw : (wl, listOf wv.toArray wn) ∈ led) (hwv : StrsAre wv words) (hkl : kk.length ≤ 20) (hkok : StrsOk kk) (hwl : words.length ≤ 20) (hwo : OkWs words)
   (hm1 : m "keys" = some (.ref kl)) (hm2 : m "words" = some (.ref wl)) (hm3 : m "sizes" = some (.ref Z)) (hm4 : m "at" = some (.int 0 t0))
   (hE : PassesOwn (model prog w) (callerA.deeper (lawEnv L fa cd)) (lawEnv L fa cd) E)
   (hQ : ∀ h' tk' m' zv n led', Cx (Mine.hd.heap_39 w.params) lawScope [] base base L h' m' ((Z, listOf (List.toArray zv) n) :: led') → (∀ p ∈ led, p ∈ led') → (∀ p ∈ led', p.1 ≠ Z) → PairsI led' zv ((sizesAll kk words).map toI) → (∀ x : Str, x ≠ "at" → m' x = m x) → Q .next { s with heap := h', toks := tk' }) :
   wpAny (model prog w) (callerA.deeper (lawEnv L fa cd)) (exec (lawBody.getD 6 passS) (lawEnv L fa cd)) Q E s := by
  with_unfolding_all show wpAny _ (callerA.deeper (envOfC _ ⟨_, _, _, _, _⟩ _ _ _)) (exec (Stmt.While _ _ _ _) (envOfC _ ⟨_, _, _, _, _⟩ _ _ _)) _ _ _
  obtain ⟨⟨A1, B1⟩, F1, XB1, N1, ⟨p1, loose1, mean1, mg1, mb1, TB1⟩, D1, hk1⟩ := id C
  have X1 := XB1.keeps B1.stays
  have T1 := TB1.keeps B1.stays
  k_dflt (refine While_J (n₀ := words.length) (fun k m' nx => ∃ done a zv n led', nx = (Z, listOf (List.toArray zv) n) :: led' ∧ (∀ x : Str, x ≠ "at" → m' x = m x) ∧ (∃ t, m' "at" = some (.int (a : Nat) t)) ∧ (∀ p ∈ led, p ∈ led') ∧ (∀ p ∈ led', p.1 ≠ Z) ∧ PairsI led' zv (done.map toI) ∧ (∃ f, sizesAll kk words = done ++ sizesRun kk words f a ∧ words.length - a ≤ f) ∧ a ≤ words.length ∧ k = words.length - a ∧ done.length ≤ a) F1 N1 ⟨[], 0, [], zn, led, rfl, fun _ _ => rfl, ⟨_, hm4⟩, fun p hp => hp, hZ, .nil, ⟨_, rfl, Nat.le_refl _⟩, Nat.zero_le _, rfl, Nat.le_refl _⟩ ?_ hE)
  clear F1 N1
  rintro k m₁ nx h1 tk1 F1 N1 ⟨done, a, zv, n, led', rfl, hm, ⟨ta, hma⟩, hsub, hZ', hzv, ⟨f, hrun, hfl⟩, hal, rfl, hdl⟩
  have hn1 := (hm "keys" (by decide)).trans hm1
  have hn2 := (hm "words" (by decide)).trans hm2
  have hn3 := (hm "sizes" (by decide)).trans hm3
  have hwn := strs_len hwv
  have hwi : (wv.length : Int) = words.length := by omega
  have hwm : (wl, listOf wv.toArray wn) ∈ (Z, listOf (List.toArray zv) n) :: led' := .tail _ (hsub _ hw)
  have hkm : (kl, listOf kv.toArray kn) ∈ (Z, listOf (List.toArray zv) n) :: led' := .tail _ (hsub _ hk)
  have hZm : (Z, listOf (List.toArray zv) n) ∈ (Z, listOf (List.toArray zv) n) :: led' := .head _
  have hlm : ∀ p ∈ led', p ∈ (Z, listOf (List.toArray zv) n) :: led' := fun p hp => .tail _ hp
  generalize hlq : (Z, listOf (List.toArray zv) n) :: led' = ledq at *
  k_steps
  · refine Stop.off ?_
    rename Fr _ _ _ _ => F2
    rename News _ _ _ _ => N2
    have hlt : a < words.length := by omega
    have hsz := sizeW_le (kk := kk) (words := words) hal
    k_dflt (refine law_size_spec ⟨⟨_, B1⟩, F2, XB1, N2, ⟨_, _, _, _, _, TB1⟩, D1, hk1⟩ ?_ ?_ hkm hkv hwm hwv hkl hkok hwl hwo hal ?_)
    · decide
    · decide
    intro h3 tk3 led3 t3 C3 hk3
    have F3 := C3.F
    have N3 := C3.N
    clear F2 N2
    have hzl : zv.length ≤ 20 := by rw [pairs2_len hzv, List.length_map]; omega
    have hZ3 := hk3 _ hZm
    generalize hzz : sizeW kk words a = z at *
    try dsimp only
    k_steps
    refine Stop.off ?_
    rename Fr _ _ _ _ => F4
    rename News _ _ _ _ => N4
    rename ∀ p ∈ led3, p.1 < _ => hT
    rename Addr => T
    refine append_B F4 N4 (.tail _ hZ3) (by omega) fun h5 F5 N5 => ?_
    clear F4 N4
    have hZT : T ≠ Z := Nat.ne_of_gt (hT _ hZ3)
    k_steps
    refine Stop.off ?_
    rename Fr _ _ _ _ => F6
    rename News _ _ _ _ => N6
    refine neg1_get N6 (.head _) (v := .ref T) (by simp) ?_
    have hTm : (T, tupO [.int (a : Nat) ta, .int (z : Nat) t3]) ∈ (Z, listOf (zv ++ [Value.ref T]).toArray (n + 1)) :: but Z ((T, tupO [.int (a : Nat) ta, .int (z : Nat) t3]) :: led3) := mem_put (.head _) hZT
    unfold tupO at hTm
    k_steps
    rename Fr _ _ _ _ => F7
    rename News _ _ _ _ => N7
    obtain ⟨f', rfl⟩ : ∃ f', f = f' + 1 := ⟨f - 1, by omega⟩
    have hstep : sizesRun kk words (f' + 1) a = (a, z) :: sizesRun kk words f' (a + max 1 z) := by
      show (if a < words.length then (a, sizeW kk words a) :: sizesRun kk words f' (a + max 1 (sizeW kk words a)) else []) = _
      rw [if_pos hlt, hzz]
    rw [hstep] at hrun
    have hmx : a + max 1 z ≤ words.length := by omega
    have hz2 : (if (z : Int) > 1 then (z : Int) else 1) = ((max 1 z : Nat) : Int) := by split <;> omega
    refine WStep.next F7 (News.sub (h₀ := base) (L := L) (l' := (Z, listOf (zv ++ [Value.ref T]).toArray (n + 1)) :: (T, tupO [.int (a : Nat) ta, .int (z : Nat) t3]) :: but Z led3) N7 fun p hp => ?_) (n' := words.length - (a + max 1 z)) (by omega) ⟨done ++ [(a, z)], a + max 1 z, _, _, _, rfl, fun x hx => (if_neg hx).trans (hm x hx), ⟨_, (show _ = some (Value.int ((a : Int) + if (z : Int) > 1 then (z : Int) else 1) _) from rfl).trans (by rw [hz2, Int.natCast_add])⟩, fun p hp => ?_, fun p hp => ?_, ?_, ⟨f', by rw [hrun, List.append_assoc]; rfl, by omega⟩, hmx, rfl, by rw [List.length_append, List.length_singleton]; omega⟩
    · rcases List.mem_cons.mp hp with rfl | hp
      · exact .head _
      rcases List.mem_cons.mp hp with rfl | hp
      · exact hTm
      · exact mem_put (.tail _ (mem_but.mp hp).1) (mem_but.mp hp).2
    · have h1 := hsub p hp
      exact .tail _ (mem_but.mpr ⟨hk3 _ (hlm _ h1), hZ' p h1⟩)
    · rcases List.mem_cons.mp hp with rfl | hp
      · exact hZT
      · exact (mem_but.mp hp).2
    · rw [List.map_append, List.map_singleton]
      exact pairs2_snoc (k := toI (a, z)) ⟨T, ta, t3, rfl, .head _⟩ (pairs2_mono (fun p hp => .tail _ (mem_but.mpr ⟨hk3 _ (hlm _ hp), hZ' p hp⟩)) hzv)
  · rename Fr _ _ _ _ => F2
    have hge : ¬ a < words.length := by omega
    rw [sizesRun_end hge, List.append_nil] at hrun
    rw [← hrun] at hzv
    rw [← hlq] at N1
    exact hQ _ _ _ zv n led' ⟨⟨_, B1⟩, F2, XB1, N1, ⟨_, _, _, _, _, TB1⟩, D1, hk1⟩ hsub hZ' hzv hm
end
end Mine
end
section
theorem Mine.switch_S58 : True := by
  w_top off
  trivial
open Lean Elab Tactic Meta PySem PySem.W PySem.Calls PyProof.Rows
set_option pp.deepTerms false
set_option pp.maxSteps 800
set_option pp.deepTerms.threshold 5
namespace Mine
local macro_rules | `(tactic| walk_at "exec For Name Name cons nil") => `(tactic| (refine Mine.Stop.on ?_))
local macro_rules | `(tactic| walk_at "exec For Name Call cons nil") => `(tactic| (refine Mine.Stop.on ?_))
local macro_rules | `(tactic| walk_at "exec Assign cons ListComp") => `(tactic| (refine Mine.Stop.on ?_))
local macro_rules | `(tactic| walk_at "LeaveC") => `(tactic| fail "here")
local macro_rules | `(tactic| k_room) => `(tactic| first | ktr_room | ((simp only [Mine.mark_depth, depth_under_make, depth_under_kw, depth_in1, depth_deeper, depth_caller]); (try dsimp only [ktrTop]); (try simp only [recursionLimit] at *); omega))
local macro_rules | `(tactic| k_all) => `(tactic| first | assumption | exact Mine.offLt (by assumption) | exact Mine.offLt2 (by assumption) (by assumption) | (refine List.forall_mem_append.mpr ⟨?a, ?b⟩; (case a => k_all); (case b => k_all)))
local macro_rules | `(tactic| walk_at "setItem ref str") => `(tactic| (k_here; k_dflt (refine' kda_setB (knd := PySem.strKind _ _) ?F ?N ?hm ?d (strKind_is _ _ _ _) ?z ?_; (case F => k_asm); (case N => k_asm); (case hm => k_mem); (case d => k_asm); (case z => k_asm)); intro h' o' F' N' hd'))
local macro_rules | `(tactic| walk_at "compareOp Is str ref") => `(tactic| (k_here; refine wpAny_is_other (by rfl) (by intro x; cases x) ?_))
local macro_rules | `(tactic| k_mem) => `(tactic| assumption)
local macro_rules | `(tactic| walk_at "eval Name") => `(tactic| (k_here; (with_reducible show wpAny _ _ (eval (Expr.Name _ _) (envOf _ _ _ _ _)) _ _ _); k_dflt (refine' ld ?k1 ?k2 ?_; (case k1 => k_asm); (case k2 => first | exact rfl | assumption); k_whole)))
local macro_rules | `(tactic| walk_at "eval Name") => `(tactic| (k_here; (with_reducible show wpAny _ _ (eval (Expr.Name _ _) (envOfC _ _ _ _ _)) _ _ _); k_dflt (refine' nameX_L ?F ?v ?_ ?a ?b; (case F => k_asm); (case a => rfl); (case b => rfl); (case v => first | rfl | assumption); k_whole)))
local macro_rules | `(tactic| walk_at "call builtin:len") => `(tactic| (k_here; (with_reducible show wpAny _ _ (call (Value.builtin "len") [Value.ref _]) _ _ _); k_dflt (first | refine len_L (by k_asm) (by k_mem) (by omega) ?_ | refine len_T (by k_asm) (by k_mem) (by omega) ?_)))
local macro_rules | `(tactic| walk_at "subscriptTail") => `(tactic| (k_here; (with_reducible show wpAny _ _ (subscriptTail _ (PySem.Expr.Slice _ _ _ _) (Value.ref _) (Value.ref _)) _ _ _); refine Mine.Stop.on ?_))
local macro_rules | `(tactic| walk_at "compareOp Eq ref ref") => `(tactic| (refine Mine.Stop.on ?_))
local macro_rules | `(tactic| walk_at "compareOp NotEq ref ref") => `(tactic| (refine Mine.Stop.on ?_))
local macro_rules | `(tactic| walk_at "call type:list") => `(tactic| (k_here; k_dflt (refine list_of_tuple (by k_asm) (by k_asm) (by k_mem) (by omega) ?_); intro D' c' h' F' N' l1; (try k_sweep)))
local macro_rules | `(tactic| walk_at "call ref") => `(tactic| ((with_reducible show wpAny _ _ (call (Value.ref 306) _) _ _ _); refine Mine.Stop.on ?_))
local macro_rules | `(tactic| walk_at "compareOp In int ref") => `(tactic| (refine Mine.Stop.on ?_))
local macro_rules | `(tactic| walk_at "compareOp In str str") => `(tactic| (refine Mine.Stop.on ?_))
local macro_rules | `(tactic| walk_at "subscriptTail") => `(tactic| (refine Mine.Stop.on ?_))
def turnBody : List Stmt := bodyOf (lawBody.getD 8 passS)
def isFar (ns : List Int) (starts : List Nat) (i : Nat) : Bool := decide (i ∈ starts ∧ cell ns (12 + i) % 3 = 0)
theorem ints_plain (xs : List Int) : plainAll (xs.map PyData.int) = true := plainAll_of fun d hd => by obtain ⟨x, hx, rfl⟩ := List.mem_map.mp hd; rw [plainD]
theorem mem_ints {starts : List Nat} {i : Nat} : (decide (i ∈ starts)) = true ↔ PyData.int (i : Nat) ∈ (starts.map fun (n : Nat) => (n : Int)).map PyData.int := by
  rw [decide_eq_true_eq, List.map_map, List.mem_map]
  constructor
  · intro h; exact ⟨i, h, rfl⟩
  · rintro ⟨x, hx, e⟩
    have e : PyData.int (x : Int) = PyData.int (i : Int) := e
    injection e with e
    have : x = i := by omega
    exact this ▸ hx
section
variable {prog : Program} {w : World} {base : Heap} {L fa : Addr} {cd : Value} {m : Str → Option Value} {s : Shared} {Q : Flow → Shared → Prop} {E : Value → Shared → Prop} {led : List (Addr × Obj)}
set_option maxRecDepth 100000
set_option maxHeartbeats 4000000
theorem far_spec {sl T : Addr} {sv tv : List Value} {ns : List Int} {tn i : Nat} {ti : Tok} {starts : List Nat} {oc : Obj} (C : Cx (Mine.hd.heap_39 w.params) lawScope [] base base L s.heap m led)
   (hc : (L + 1, oc) ∈ led) (hoc : oc.data = .cell (some (.ref sl))) (hS : base.IsList sl sv.toArray) (hIn : IntsAre sv ns) (hl : ns.length ≤ 63)
   (hT : (T, listOf tv.toArray tn) ∈ led) (hTv : IntsAre tv (starts.map fun (n : Nat) => (n : Int))) (hm1 : m "place" = some (.int (i : Nat) ti)) (hm2 : m "starts" = some (.ref T)) (hi : i ≤ 20)
   (hE : PassesOwn (model prog w) (callerA.deeper (lawEnv L fa cd)) (lawEnv L fa cd) E)
   (hQ : ∀ h' tk', Cx (Mine.hd.heap_39 w.params) lawScope [] base base L h' (fun z => if z = "is_far" then some (.bool (isFar ns starts i)) else m z) led → Q .next { s with heap := h', toks := tk' }) :
   wpAny (model prog w) (callerA.deeper (lawEnv L fa cd)) (exec (turnBody.getD 0 passS) (lawEnv L fa cd)) Q E s := by
  with_unfolding_all show wpAny _ (callerA.deeper (envOfC _ ⟨_, _, _, _, _⟩ _ _ _)) (exec (Stmt.Assign _ _ _) (envOfC _ ⟨_, _, _, _, _⟩ _ _ _)) _ _ _
  obtain ⟨⟨A1, B1⟩, F1, XB1, N1, ⟨p1, loose1, mean1, mg1, mb1, TB1⟩, D1, hk1⟩ := id C
  have X1 := XB1.keeps B1.stays
  have T1 := TB1.keeps B1.stays
  k_steps
  refine Stop.off ?_
  have hmi := mem_ints (starts := starts) (i := i)
  by_cases hin : i ∈ starts
  · rw [decide_eq_true hin] at hmi
    k_dflt (refine in_rd (c := true) N1 (rd_int _ _) (rd_list hT (rdAll_ints hTv)) (by rw [plainD]) (ints_plain _) (by rw [PyData.depth]; omega) (by show 4 + 3 + 64 < cLine; decide) hmi ?_)
    k_steps
    refine Stop.off ?_
    rw [show (12 + (i : Int)) = ((12 + i : Nat) : Int) by omega]
    rename Fr _ _ _ _ => F2
    rename News _ _ _ _ => N2
    k_dflt (refine cell_spec (i := 12 + i) ⟨⟨_, B1⟩, F2, XB1, N2, ⟨_, _, _, _, _, TB1⟩, D1, hk1⟩ ?_ ?_ hS hIn hl (by omega) ?_)
    · decide
    · decide
    intro h3 tk3 t3 C3
    have F3 := C3.F
    have N3 := C3.N
    clear F2 N2
    try dsimp only
    k_steps
    rename Fr _ _ _ _ => F4
    rename News _ _ _ _ => N4
    have e : ((cell ns (12 + i) : Int).fmod 3 == 0) = isFar ns starts i := by
      rw [Int.fmod_eq_emod_of_nonneg _ (by decide), Bool.eq_iff_iff]
      unfold isFar
      rw [beq_iff_eq, decide_eq_true_eq]
      exact ⟨fun h => ⟨hin, by omega⟩, fun h => by have := h.2; omega⟩
    rw [e] at F4
    exact hQ _ _ ⟨⟨_, B1⟩, F4, XB1, N4, ⟨_, _, _, _, _, TB1⟩, D1, hk1⟩
  · rw [decide_eq_false hin] at hmi
    k_dflt (refine in_rd (c := false) N1 (rd_int _ _) (rd_list hT (rdAll_ints hTv)) (by rw [plainD]) (ints_plain _) (by rw [PyData.depth]; omega) (by show 4 + 3 + 64 < cLine; decide) hmi ?_)
    k_steps
    rename Fr _ _ _ _ => F4
    rename News _ _ _ _ => N4
    have e : isFar ns starts i = false := by unfold isFar; exact decide_eq_false fun h => hin h.1
    rw [e] at hQ
    exact hQ _ _ ⟨⟨_, B1⟩, F4, XB1, N4, ⟨_, _, _, _, _, TB1⟩, D1, hk1⟩
def isPar (y : Str) : Bool := decide (y = "(" ∨ y = ")")
def isNear (starts : List Nat) (words : List Str) (i : Nat) : Bool := decide (i ∈ starts ∧ 0 < i ∧ (isPar (words.getD i "") = true ∨ isPar (words.getD (i - 1) "") = true))
theorem par_word : ∀ y ∈ lawWords, (!(Builtin.Str.occurrences (Str.ofString "()") y 0 (Str.ofString "()").length 1).isEmpty) = isPar y := by decide +kernel
theorem near_spec {wl T : Addr} {wv tv : List Value} {tn wn i : Nat} {ti ty : Tok} {starts : List Nat} {words : List Str} {y : Str} (C : Cx (Mine.hd.heap_39 w.params) lawScope [] base base L s.heap m led)
   (hT : (T, listOf tv.toArray tn) ∈ led) (hTv : IntsAre tv (starts.map fun (n : Nat) => (n : Int))) (hw : (wl, listOf wv.toArray wn) ∈ led) (hwv : StrsAre wv words) (hwl : words.length ≤ 20) (hww : ∀ y ∈ words, y ∈ lawWords) (hy : words[i]? = some y)
   (hm1 : m "place" = some (.int (i : Nat) ti)) (hm2 : m "starts" = some (.ref T)) (hm3 : m "words" = some (.ref wl)) (hm4 : m "word" = some (.str y ty)) (hi : i ≤ 20)
   (hE : PassesOwn (model prog w) (callerA.deeper (lawEnv L fa cd)) (lawEnv L fa cd) E)
   (hQ : ∀ h' tk', Cx (Mine.hd.heap_39 w.params) lawScope [] base base L h' (fun z => if z = "is_near" then some (.bool (isNear starts words i)) else m z) led → Q .next { s with heap := h', toks := tk' }) :
   wpAny (model prog w) (callerA.deeper (lawEnv L fa cd)) (exec (turnBody.getD 1 passS) (lawEnv L fa cd)) Q E s := by
  with_unfolding_all show wpAny _ (callerA.deeper (envOfC _ ⟨_, _, _, _, _⟩ _ _ _)) (exec (Stmt.Assign _ _ _) (envOfC _ ⟨_, _, _, _, _⟩ _ _ _)) _ _ _
  obtain ⟨⟨A1, B1⟩, F1, XB1, N1, ⟨p1, loose1, mean1, mg1, mb1, TB1⟩, D1, hk1⟩ := id C
  have X1 := XB1.keeps B1.stays
  have T1 := TB1.keeps B1.stays
  have hmi := mem_ints (starts := starts) (i := i)
  k_steps
  refine Stop.off ?_
  by_cases hin : i ∈ starts
  · rw [decide_eq_true hin] at hmi
    k_dflt (refine in_rd (c := true) N1 (rd_int _ _) (rd_list hT (rdAll_ints hTv)) (by rw [plainD]) (ints_plain _) (by rw [PyData.depth]; omega) (by show 4 + 3 + 64 < cLine; decide) hmi ?_)
    have hgy : words.getD i "" = y := by rw [List.getD_eq_getElem?_getD, hy]; rfl
    have hyw := par_word y (hww y (List.mem_of_getElem? hy))
    k_steps
    · refine Stop.off ?_
      have hi0 : 0 < i := by omega
      refine PyProof.Rows.in_str ?_
      rw [hyw]
      cases hp : isPar y with
      | true =>
        k_steps
        rename Fr _ _ _ _ => F4
        rename News _ _ _ _ => N4
        have e : isNear starts words i = true := by unfold isNear; exact decide_eq_true ⟨hin, hi0, .inl (by rw [hgy]; exact hp)⟩
        rw [e] at hQ
        exact hQ _ _ ⟨⟨_, B1⟩, F4, XB1, N4, ⟨_, _, _, _, _, TB1⟩, D1, hk1⟩
      | false =>
        have hwn := strs_len hwv
        have hlt : i < words.length := (List.getElem?_eq_some_iff.mp hy).1
        have hpr : words[i - 1]? = some (words[i - 1]'(by omega)) := List.getElem?_eq_getElem _
        have hgp : words.getD (i - 1) "" = words[i - 1]'(by omega) := by rw [List.getD_eq_getElem?_getD, hpr]; rfl
        generalize words[i - 1]'(by omega) = z at hpr hgp
        have hzw := par_word z (hww z (List.mem_of_getElem? hpr))
        obtain ⟨tz, hz⟩ := strs_get hwv hpr
        k_steps
        refine Stop.off ?_
        rename Fr _ _ _ _ => F2
        rename News _ _ _ _ => N2
        refine list_item (PySem.IsL.isList (n := wn) (N2 _ hw).1) (by omega) (by omega) (v := .str z tz) (by rw [show ((i : Int) - 1).toNat = i - 1 by omega]; simpa using hz) ?_
        k_steps
        refine Stop.off ?_
        refine PyProof.Rows.in_str ?_
        rw [hzw]
        k_steps
        rename Fr _ _ _ _ => F4
        rename News _ _ _ _ => N4
        have e : isNear starts words i = isPar z := by
          unfold isNear
          rw [hgy, hgp, hp]
          cases hpz : isPar z with
          | true => exact decide_eq_true ⟨hin, hi0, .inr rfl⟩
          | false => exact decide_eq_false fun h => by rcases h.2.2 with h | h <;> cases h
        rw [e] at hQ
        exact hQ _ _ ⟨⟨_, B1⟩, F4, XB1, N4, ⟨_, _, _, _, _, TB1⟩, D1, hk1⟩
    · rename Fr _ _ _ _ => F4
      rename News _ _ _ _ => N4
      have hi0 : ¬ 0 < i := by omega
      have e : isNear starts words i = false := by unfold isNear; exact decide_eq_false fun h => hi0 h.2.1
      have e2 : decide ((i : Int) > 0) = false := decide_eq_false (by omega)
      rw [e] at hQ
      rw [e2] at F4
      exact hQ _ _ ⟨⟨_, B1⟩, F4, XB1, N4, ⟨_, _, _, _, _, TB1⟩, D1, hk1⟩
  · rw [decide_eq_false hin] at hmi
    k_dflt (refine in_rd (c := false) N1 (rd_int _ _) (rd_list hT (rdAll_ints hTv)) (by rw [plainD]) (ints_plain _) (by rw [PyData.depth]; omega) (by show 4 + 3 + 64 < cLine; decide) hmi ?_)
    k_steps
    rename Fr _ _ _ _ => F4
    rename News _ _ _ _ => N4
    have e : isNear starts words i = false := by unfold isNear; exact decide_eq_false fun h => hin h.1
    rw [e] at hQ
    exact hQ _ _ ⟨⟨_, B1⟩, F4, XB1, N4, ⟨_, _, _, _, _, TB1⟩, D1, hk1⟩
end
end Mine
end
section
theorem Mine.switch_S59 : True := by
  w_top off
  trivial
open Lean Elab Tactic Meta PySem PySem.W PySem.Calls PyProof.Rows
set_option pp.deepTerms false
set_option pp.maxSteps 800
set_option pp.deepTerms.threshold 5
namespace Mine
local macro_rules | `(tactic| walk_at "exec For Name Name cons nil") => `(tactic| (refine Mine.Stop.on ?_))
local macro_rules | `(tactic| walk_at "exec For Name Call cons nil") => `(tactic| (refine Mine.Stop.on ?_))
local macro_rules | `(tactic| walk_at "exec Assign cons ListComp") => `(tactic| (refine Mine.Stop.on ?_))
local macro_rules | `(tactic| walk_at "LeaveC") => `(tactic| fail "here")
local macro_rules | `(tactic| k_room) => `(tactic| first | ktr_room | ((simp only [Mine.mark_depth, depth_under_make, depth_under_kw, depth_in1, depth_deeper, depth_caller]); (try dsimp only [ktrTop]); (try simp only [recursionLimit] at *); omega))
local macro_rules | `(tactic| k_all) => `(tactic| first | assumption | exact Mine.offLt (by assumption) | exact Mine.offLt2 (by assumption) (by assumption) | (refine List.forall_mem_append.mpr ⟨?a, ?b⟩; (case a => k_all); (case b => k_all)))
local macro_rules | `(tactic| walk_at "setItem ref str") => `(tactic| (k_here; k_dflt (refine' kda_setB (knd := PySem.strKind _ _) ?F ?N ?hm ?d (strKind_is _ _ _ _) ?z ?_; (case F => k_asm); (case N => k_asm); (case hm => k_mem); (case d => k_asm); (case z => k_asm)); intro h' o' F' N' hd'))
local macro_rules | `(tactic| walk_at "compareOp Is str ref") => `(tactic| (k_here; refine wpAny_is_other (by rfl) (by intro x; cases x) ?_))
local macro_rules | `(tactic| k_mem) => `(tactic| assumption)
local macro_rules | `(tactic| walk_at "eval Name") => `(tactic| (k_here; (with_reducible show wpAny _ _ (eval (Expr.Name _ _) (envOf _ _ _ _ _)) _ _ _); k_dflt (refine' ld ?k1 ?k2 ?_; (case k1 => k_asm); (case k2 => first | exact rfl | assumption); k_whole)))
local macro_rules | `(tactic| walk_at "eval Name") => `(tactic| (k_here; (with_reducible show wpAny _ _ (eval (Expr.Name _ _) (envOfC _ _ _ _ _)) _ _ _); k_dflt (refine' nameX_L ?F ?v ?_ ?a ?b; (case F => k_asm); (case a => rfl); (case b => rfl); (case v => first | rfl | assumption); k_whole)))
local macro_rules | `(tactic| walk_at "call builtin:len") => `(tactic| (k_here; (with_reducible show wpAny _ _ (call (Value.builtin "len") [Value.ref _]) _ _ _); k_dflt (first | refine len_L (by k_asm) (by k_mem) (by omega) ?_ | refine len_T (by k_asm) (by k_mem) (by omega) ?_)))
local macro_rules | `(tactic| walk_at "subscriptTail") => `(tactic| (k_here; (with_reducible show wpAny _ _ (subscriptTail _ (PySem.Expr.Slice _ _ _ _) (Value.ref _) (Value.ref _)) _ _ _); refine Mine.Stop.on ?_))
local macro_rules | `(tactic| walk_at "compareOp Eq ref ref") => `(tactic| (refine Mine.Stop.on ?_))
local macro_rules | `(tactic| walk_at "compareOp NotEq ref ref") => `(tactic| (refine Mine.Stop.on ?_))
local macro_rules | `(tactic| walk_at "call type:list") => `(tactic| (k_here; k_dflt (refine list_of_tuple (by k_asm) (by k_asm) (by k_mem) (by omega) ?_); intro D' c' h' F' N' l1; (try k_sweep)))
local macro_rules | `(tactic| walk_at "call ref") => `(tactic| ((with_reducible show wpAny _ _ (call (Value.ref 306) _) _ _ _); refine Mine.Stop.on ?_))
def gapOf (ns : List Int) (starts : List Nat) (words : List Str) (i : Nat) : Str := if i = 0 ∨ (isNear starts words i = true ∧ cell ns (12 + i) % 3 = 1) then "" else if isFar ns starts i = true then "  " else " "
section
variable {prog : Program} {w : World} {base : Heap} {L fa : Addr} {cd : Value} {m : Str → Option Value} {s : Shared} {Q : Flow → Shared → Prop} {E : Value → Shared → Prop} {led : List (Addr × Obj)}
set_option maxRecDepth 100000
set_option maxHeartbeats 4000000
theorem gap_spec {sl : Addr} {sv : List Value} {ns : List Int} {i : Nat} {ti : Tok} {starts : List Nat} {words : List Str} {oc : Obj} (C : Cx (Mine.hd.heap_39 w.params) lawScope [] base base L s.heap m led)
   (hc : (L + 1, oc) ∈ led) (hoc : oc.data = .cell (some (.ref sl))) (hS : base.IsList sl sv.toArray) (hIn : IntsAre sv ns) (hl : ns.length ≤ 63)
   (hm1 : m "place" = some (.int (i : Nat) ti)) (hm2 : m "is_near" = some (.bool (isNear starts words i))) (hm3 : m "is_far" = some (.bool (isFar ns starts i))) (hi : i ≤ 20)
   (hE : PassesOwn (model prog w) (callerA.deeper (lawEnv L fa cd)) (lawEnv L fa cd) E)
   (hQ : ∀ h' tk' t, Cx (Mine.hd.heap_39 w.params) lawScope [] base base L h' (fun z => if z = "gap" then some (.str (gapOf ns starts words i) t) else m z) led → Q .next { s with heap := h', toks := tk' }) :
   wpAny (model prog w) (callerA.deeper (lawEnv L fa cd)) (exec (turnBody.getD 2 passS) (lawEnv L fa cd)) Q E s := by
  with_unfolding_all show wpAny _ (callerA.deeper (envOfC _ ⟨_, _, _, _, _⟩ _ _ _)) (exec (Stmt.Assign _ _ _) (envOfC _ ⟨_, _, _, _, _⟩ _ _ _)) _ _ _
  obtain ⟨⟨A1, B1⟩, F1, XB1, N1, ⟨p1, loose1, mean1, mg1, mb1, TB1⟩, D1, hk1⟩ := id C
  have X1 := XB1.keeps B1.stays
  have T1 := TB1.keeps B1.stays
  have fin : ∀ {g : Str} {h' : Heap} {tk' : Nat} {t : Tok}, g = gapOf ns starts words i → Fr base L h' (fun z => if z = "gap" then some (.str g t) else m z) → News base L h' led → Q .next { s with heap := h', toks := tk' } := fun {g h' tk' t} e F N => hQ h' tk' t ⟨⟨_, B1⟩, e ▸ F, XB1, N, ⟨_, _, _, _, _, TB1⟩, D1, hk1⟩
  clear hQ
  by_cases hi0 : i = 0
  · subst hi0
    k_steps
    rename Fr _ _ _ _ => F4
    rename News _ _ _ _ => N4
    exact fin (by unfold gapOf; rw [if_pos (.inl rfl)]) F4 N4
  · have hi1 : (i : Int) ≠ 0 := by omega
    cases hn : isNear starts words i with
    | false =>
      rw [hn] at hm2
      cases hf : isFar ns starts i with
      | true =>
        rw [hf] at hm3
        k_steps
        all_goals (try (exfalso; omega))
        rename Fr _ _ _ _ => F4
        rename News _ _ _ _ => N4
        exact fin (by unfold gapOf; rw [if_neg (by rw [hn]; simp [hi0]), if_pos hf]) F4 N4
      | false =>
        rw [hf] at hm3
        k_steps
        all_goals (try (exfalso; omega))
        rename Fr _ _ _ _ => F4
        rename News _ _ _ _ => N4
        exact fin (by unfold gapOf; rw [if_neg (by rw [hn]; simp [hi0]), if_neg (by rw [hf]; decide)]) F4 N4
    | true =>
      rw [hn] at hm2
      k_steps
      all_goals (try (exfalso; omega))
      refine Stop.off ?_
      rename Fr _ _ _ _ => F2
      rename News _ _ _ _ => N2
      rw [show (12 + (i : Int)) = ((12 + i : Nat) : Int) by omega]
      k_dflt (refine cell_spec (i := 12 + i) ⟨⟨_, B1⟩, F2, XB1, N2, ⟨_, _, _, _, _, TB1⟩, D1, hk1⟩ ?_ ?_ hS hIn hl (by omega) ?_)
      · decide
      · decide
      intro h3 tk3 t3 C3
      have F3 := C3.F
      have N3 := C3.N
      clear F2 N2
      try dsimp only
      have hfm : ((cell ns (12 + i) : Nat) : Int).fmod 3 = ((cell ns (12 + i) % 3 : Nat) : Int) := by rw [Int.fmod_eq_emod_of_nonneg _ (by decide)]; rfl
      cases hf : isFar ns starts i with
      | true =>
        rw [hf] at hm3
        k_steps
        all_goals (rename Fr _ _ _ _ => F4)
        all_goals (rename News _ _ _ _ => N4)
        · exact fin (by unfold gapOf; rw [if_pos (.inr ⟨hn, by omega⟩)]) F4 N4
        · exact fin (by unfold gapOf; rw [if_neg (by rintro (h | ⟨_, h⟩) <;> omega), if_pos hf]) F4 N4
      | false =>
        rw [hf] at hm3
        k_steps
        all_goals (rename Fr _ _ _ _ => F4)
        all_goals (rename News _ _ _ _ => N4)
        · exact fin (by unfold gapOf; rw [if_pos (.inr ⟨hn, by omega⟩)]) F4 N4
        · exact fin (by unfold gapOf; rw [if_neg (by rintro (h | ⟨_, h⟩) <;> omega), if_neg (by rw [hf]; decide)]) F4 N4
end
end Mine
end
section
theorem Mine.switch_S61 : True := by
  w_top off
  trivial
open Lean Elab Tactic Meta PySem PySem.W PySem.Calls PyProof.Rows
set_option pp.deepTerms false
set_option pp.maxSteps 800
set_option pp.deepTerms.threshold 5
namespace Mine
local macro_rules | `(tactic| walk_at "exec For Name Name cons nil") => `(tactic| (refine Mine.Stop.on ?_))
local macro_rules | `(tactic| walk_at "exec For Name Call cons nil") => `(tactic| (refine Mine.Stop.on ?_))
local macro_rules | `(tactic| walk_at "exec Assign cons ListComp") => `(tactic| (refine Mine.Stop.on ?_))
local macro_rules | `(tactic| walk_at "LeaveC") => `(tactic| fail "here")
local macro_rules | `(tactic| k_room) => `(tactic| first | ktr_room | ((simp only [Mine.mark_depth, depth_under_make, depth_under_kw, depth_in1, depth_deeper, depth_caller]); (try dsimp only [ktrTop]); (try simp only [recursionLimit] at *); omega))
local macro_rules | `(tactic| k_all) => `(tactic| first | assumption | exact Mine.offLt (by assumption) | exact Mine.offLt2 (by assumption) (by assumption) | (refine List.forall_mem_append.mpr ⟨?a, ?b⟩; (case a => k_all); (case b => k_all)))
local macro_rules | `(tactic| walk_at "setItem ref str") => `(tactic| (k_here; k_dflt (refine' kda_setB (knd := PySem.strKind _ _) ?F ?N ?hm ?d (strKind_is _ _ _ _) ?z ?_; (case F => k_asm); (case N => k_asm); (case hm => k_mem); (case d => k_asm); (case z => k_asm)); intro h' o' F' N' hd'))
local macro_rules | `(tactic| walk_at "compareOp Is str ref") => `(tactic| (k_here; refine wpAny_is_other (by rfl) (by intro x; cases x) ?_))
local macro_rules | `(tactic| k_mem) => `(tactic| assumption)
local macro_rules | `(tactic| walk_at "eval Name") => `(tactic| (k_here; (with_reducible show wpAny _ _ (eval (Expr.Name _ _) (envOf _ _ _ _ _)) _ _ _); k_dflt (refine' ld ?k1 ?k2 ?_; (case k1 => k_asm); (case k2 => first | exact rfl | assumption); k_whole)))
local macro_rules | `(tactic| walk_at "eval Name") => `(tactic| (k_here; (with_reducible show wpAny _ _ (eval (Expr.Name _ _) (envOfC _ _ _ _ _)) _ _ _); k_dflt (refine' nameX_L ?F ?v ?_ ?a ?b; (case F => k_asm); (case a => rfl); (case b => rfl); (case v => first | rfl | assumption); k_whole)))
local macro_rules | `(tactic| walk_at "call builtin:len") => `(tactic| (k_here; (with_reducible show wpAny _ _ (call (Value.builtin "len") [Value.ref _]) _ _ _); k_dflt (first | refine len_L (by k_asm) (by k_mem) (by omega) ?_ | refine len_T (by k_asm) (by k_mem) (by omega) ?_)))
local macro_rules | `(tactic| walk_at "subscriptTail") => `(tactic| (k_here; (with_reducible show wpAny _ _ (subscriptTail _ (PySem.Expr.Slice _ _ _ _) (Value.ref _) (Value.ref _)) _ _ _); refine Mine.Stop.on ?_))
local macro_rules | `(tactic| walk_at "compareOp Eq ref ref") => `(tactic| (refine Mine.Stop.on ?_))
local macro_rules | `(tactic| walk_at "compareOp NotEq ref ref") => `(tactic| (refine Mine.Stop.on ?_))
local macro_rules | `(tactic| walk_at "call type:list") => `(tactic| (k_here; k_dflt (refine list_of_tuple (by k_asm) (by k_asm) (by k_mem) (by omega) ?_); intro D' c' h' F' N' l1; (try k_sweep)))
local macro_rules | `(tactic| walk_at "call ref") => `(tactic| ((with_reducible show wpAny _ _ (call (Value.ref 306) _) _ _ _); refine Mine.Stop.on ?_))
local macro_rules | `(tactic| walk_at "exec For") => `(tactic| (refine Mine.Stop.on ?_))
local macro_rules | `(tactic| walk_at "exec For Tuple Call cons nil") => `(tactic| (refine Mine.Stop.on ?_))
local macro_rules | `(tactic| walk_at "call type:enumerate") => `(tactic| (refine Mine.Stop.on ?_))
local macro_rules | `(tactic| walk_at "exec Assign cons BoolOp") => `(tactic| (refine Mine.Stop.on ?_))
local macro_rules | `(tactic| walk_at "exec Assign cons IfExp") => `(tactic| (refine Mine.Stop.on ?_))
local macro_rules | `(tactic| walk_at "call builtin:list.append") => `(tactic| (refine Mine.Stop.on ?_))
local macro_rules | `(tactic| walk_at "storeName") => `(tactic| ((with_reducible show wpAny _ _ (storeName _ (Str.ofString "text") _) _ _ _); refine Mine.Stop.on ?_))
def wordAs (ns : List Int) (words : List Str) (i : Nat) : Str := if cell ns (21 + i) % 2 = 1 then Txt.upper (words.getD i "") else words.getD i ""
def textUp (ns : List Int) (starts : List Nat) (words : List Str) : Nat → Str × List Nat
  | 0 => ("", [])
  | i + 1 => ((textUp ns starts words i).1 ++ gapOf ns starts words i ++ wordAs ns words i, (textUp ns starts words i).2 ++ [((textUp ns starts words i).1 ++ gapOf ns starts words i).length])
theorem gapOf_len (ns : List Int) (starts : List Nat) (words : List Str) (i : Nat) : (gapOf ns starts words i).length ≤ 2 := by
  unfold gapOf
  split
  · exact Nat.zero_le _
  · split
    · exact Nat.le_refl _
    · exact Nat.le_of_ble_eq_true rfl
theorem wordAs_len {ns : List Int} {words : List Str} (hwo : OkWs words) (i : Nat) : (wordAs ns words i).length ≤ 8 := by
  have h0 : (words.getD i "").length ≤ 8 := by
    rw [List.getD_eq_getElem?_getD]
    cases h : words[i]? with
    | none => exact Nat.zero_le _
    | some y => exact (word_len (hwo y (List.mem_of_getElem? h))).1
  have h1 : ∀ c ∈ (words.getD i "").cps.toList, c < 128 := by
    rw [List.getD_eq_getElem?_getD]
    cases h : words[i]? with
    | none => intro c hc; cases hc
    | some y =>
      intro c hc
      have := hwo y (List.mem_of_getElem? h)
      unfold okWord at this
      simp only [Bool.and_eq_true] at this
      have := List.all_eq_true.mp this.1.1.1.1 c hc
      unfold goodC at this
      simp only [Bool.and_eq_true, decide_eq_true_eq] at this
      exact this.1.1.1
  unfold wordAs
  split
  · rw [upper_len h1]; exact h0
  · exact h0
theorem textUp_len {ns : List Int} {starts : List Nat} {words : List Str} (hwo : OkWs words) : ∀ i, (textUp ns starts words i).1.length ≤ 10 * i ∧ (textUp ns starts words i).2.length = i
  | 0 => ⟨Nat.le_refl _, rfl⟩
  | i + 1 => by
    have h := textUp_len (ns := ns) (starts := starts) hwo i
    have h1 := gapOf_len ns starts words i
    have h2 := wordAs_len (ns := ns) hwo i
    refine ⟨?_, ?_⟩
    · show ((textUp ns starts words i).1 ++ gapOf ns starts words i ++ wordAs ns words i).length ≤ _
      rw [str_app_len, str_app_len]; omega
    · show ((textUp ns starts words i).2 ++ [_]).length = _
      rw [List.length_append, h.2]; rfl
section
variable {prog : Program} {w : World} {base : Heap} {L fa : Addr} {cd : Value} {m : Str → Option Value} {s : Shared} {Q : Flow → Shared → Prop} {E : Value → Shared → Prop} {led : List (Addr × Obj)}
set_option maxRecDepth 100000
set_option maxHeartbeats 4000000
theorem text_spec {sl wl T S : Addr} {sv wv tv : List Value} {ns : List Int} {tn wn sn : Nat} {starts : List Nat} {words : List Str} {oc oT : Obj} {tt : Tok} (C : Cx (Mine.hd.heap_39 w.params) lawScope [] base base L s.heap m ((L + 1 + 1 + 1, oT) :: (S, listOf [].toArray sn) :: led))
   (hoT : oT.data = .cell (some (.str "" tt))) (hSl : ∀ p ∈ led, p.1 ≠ S) (hTl : ∀ p ∈ led, p.1 ≠ L + 1 + 1 + 1) (hST : S ≠ L + 1 + 1 + 1)
   (hc : (L + 1, oc) ∈ led) (hoc : oc.data = .cell (some (.ref sl))) (hS : base.IsList sl sv.toArray) (hIn : IntsAre sv ns) (hl : ns.length ≤ 63)
   (hT : (T, listOf tv.toArray tn) ∈ led) (hTv : IntsAre tv (starts.map fun (n : Nat) => (n : Int))) (hw : (wl, listOf wv.toArray wn) ∈ led) (hwv : StrsAre wv words) (hwl : words.length ≤ 9) (hww : ∀ y ∈ words, y ∈ lawWords) (hwo : OkWs words)
   (hm1 : m "words" = some (.ref wl)) (hm2 : m "starts" = some (.ref T)) (hm3 : m "spots" = some (.ref S))
   (hE : PassesOwn (model prog w) (callerA.deeper (lawEnv L fa cd)) (lawEnv L fa cd) E)
   (hQ : ∀ h' tk' m' oT' t' sv' sn', Cx (Mine.hd.heap_39 w.params) lawScope [] base base L h' m' ((L + 1 + 1 + 1, oT') :: (S, listOf (List.toArray sv') sn') :: led) → oT'.data = .cell (some (.str (textUp ns starts words words.length).1 t')) → IntsAre sv' ((textUp ns starts words words.length).2.map fun (n : Nat) => (n : Int)) → (∀ x : Str, x ∉ ([("place" : Str), "word", "is_far", "is_near", "gap"] : List Str) → m' x = m x) → Q .next { s with heap := h', toks := tk' }) :
   wpAny (model prog w) (callerA.deeper (lawEnv L fa cd)) (exec (lawBody.getD 8 passS) (lawEnv L fa cd)) Q E s := by
  with_unfolding_all show wpAny _ (callerA.deeper (envOfC _ ⟨_, _, _, _, _⟩ _ _ _)) (exec (Stmt.For _ _ _ _ _) (envOfC _ ⟨_, _, _, _, _⟩ _ _ _)) _ _ _
  obtain ⟨⟨A1, B1⟩, F1, XB1, N1, ⟨p1, loose1, mean1, mg1, mb1, TB1⟩, D1, hk1⟩ := id C
  have X1 := XB1.keeps B1.stays
  have T1 := TB1.keeps B1.stays
  have hwn := strs_len hwv
  refine For_T ?_ (by intro _; rfl)
  k_steps
  refine Stop.off ?_
  rename Fr _ _ _ _ => F2
  rename News _ _ _ _ => N2
  refine enum_callJ (n₀ := wn) (fun i m' nx => (∀ x : Str, x ∉ ([("place" : Str), "word", "is_far", "is_near", "gap"] : List Str) → m' x = m x) ∧ ∃ oT' t' sv' sn', nx = (L + 1 + 1 + 1, oT') :: (S, listOf (List.toArray sv') sn') :: led ∧ oT'.data = .cell (some (.str (textUp ns starts words i).1 t')) ∧ IntsAre sv' ((textUp ns starts words i).2.map fun (n : Nat) => (n : Int))) (by rfl) F2 N2 (.tail _ (.tail _ hw)) ⟨fun _ _ => rfl, oT, tt, [], sn, rfl, hoT, .nil⟩ ?_ ?_ hE
  · clear F2 N2
    rintro i v Tp tT m₁ nx e e' own h tk hv ⟨hm, oT', t', sv', sn', rfl, hoT', hsv'⟩ hown hoff ⟨oe, hoe⟩ ⟨oe', hoe'⟩ hTp F₁ N₁
    obtain ⟨y, ty, hy, rfl⟩ := strs_at hwv hv
    have hilt : i < words.length := (List.getElem?_eq_some_iff.mp hy).1
    have hn1 := (hm "words" (by decide)).trans hm1
    have hn2 := (hm "starts" (by decide)).trans hm2
    have hn3 := (hm "spots" (by decide)).trans hm3
    have hTm : (Tp, tupO [Value.int (i : Nat) tT, .str y ty]) ∈ (Tp, tupO [Value.int (i : Nat) tT, .str y ty]) :: ((L + 1 + 1 + 1, oT') :: (S, listOf (List.toArray sv') sn') :: led ++ own) := .head _
    have hlm : ∀ p ∈ led, p ∈ (Tp, tupO [Value.int (i : Nat) tT, .str y ty]) :: ((L + 1 + 1 + 1, oT') :: (S, listOf (List.toArray sv') sn') :: led ++ own) := fun p hp => .tail _ (.tail _ (.tail _ (List.mem_append_left _ hp)))
    have hom : ∀ p ∈ own, p ∈ (Tp, tupO [Value.int (i : Nat) tT, .str y ty]) :: ((L + 1 + 1 + 1, oT') :: (S, listOf (List.toArray sv') sn') :: led ++ own) := fun p hp => .tail _ (.tail _ (.tail _ (List.mem_append_right _ hp)))
    have hcm : (L + 1 + 1 + 1, oT') ∈ (Tp, tupO [Value.int (i : Nat) tT, .str y ty]) :: ((L + 1 + 1 + 1, oT') :: (S, listOf (List.toArray sv') sn') :: led ++ own) := .tail _ (.head _)
    have hSm : (S, listOf (List.toArray sv') sn') ∈ (Tp, tupO [Value.int (i : Nat) tT, .str y ty]) :: ((L + 1 + 1 + 1, oT') :: (S, listOf (List.toArray sv') sn') :: led ++ own) := .tail _ (.tail _ (.head _))
    generalize hled : (Tp, tupO [Value.int (i : Nat) tT, .str y ty]) :: ((L + 1 + 1 + 1, oT') :: (S, listOf (List.toArray sv') sn') :: led ++ own) = led0 at *
    unfold tupO at hTm
    have htl := textUp_len (ns := ns) (starts := starts) hwo i
    have hgl := gapOf_len ns starts words i
    have hwal := wordAs_len (ns := ns) hwo i
    k_steps
    refine Stop.off ?_
    rename Fr _ _ _ _ => F3
    rename News _ _ _ _ => N3
    (with_unfolding_all refine far_spec (i := i) ⟨⟨_, B1⟩, F3, XB1, N3, ⟨_, _, _, _, _, TB1⟩, D1, hk1⟩ (hlm _ hc) hoc hS hIn hl (hlm _ hT) hTv rfl hn2 (by omega) hE ?_)
    intro h4 tk4 C4
    have F4 := C4.F
    have N4 := C4.N
    clear F3 N3
    try dsimp only
    k_steps
    refine Stop.off ?_
    rename Fr _ _ _ _ => F5
    rename News _ _ _ _ => N5
    (with_unfolding_all refine near_spec (i := i) ⟨⟨_, B1⟩, F5, XB1, N5, ⟨_, _, _, _, _, TB1⟩, D1, hk1⟩ (hlm _ hT) hTv (hlm _ hw) hwv (by omega) hww hy rfl hn2 hn1 rfl (by omega) hE ?_)
    intro h6 tk6 C6
    have F6 := C6.F
    have N6 := C6.N
    clear F5 N5
    try dsimp only
    k_steps
    refine Stop.off ?_
    rename Fr _ _ _ _ => F7
    rename News _ _ _ _ => N7
    (with_unfolding_all refine gap_spec (i := i) ⟨⟨_, B1⟩, F7, XB1, N7, ⟨_, _, _, _, _, TB1⟩, D1, hk1⟩ (hlm _ hc) hoc hS hIn hl rfl rfl rfl (by omega) hE ?_)
    intro h8 tk8 tg C8
    have F8a := C8.F
    have N8 := C8.N
    clear F7 N7
    obtain ⟨m8, F8, hq⟩ : ∃ m8 : Str → Option Value, Fr base L h8 m8 ∧ (m8 "place" = some (.int (i : Nat) tT) ∧ m8 "word" = some (.str y ty) ∧ m8 "spots" = some (.ref S) ∧ m8 "gap" = some (.str (gapOf ns starts words i) tg)) ∧ ∀ x : Str, x ∉ ([("place" : Str), "word", "is_far", "is_near", "gap"] : List Str) → m8 x = m x := by
      refine ⟨_, F8a, ⟨rfl, rfl, hn3, rfl⟩, fun x hx => ?_⟩
      simp only [List.mem_cons, List.not_mem_nil, or_false, not_or] at hx
      obtain ⟨a1, a2, a3, a4, a5⟩ := hx
      rw [if_neg a5, if_neg a4, if_neg a3, if_neg a2, if_neg a1]
      exact hm x (by simp [a1, a2, a3, a4, a5])
    obtain ⟨⟨hp1, hp2, hp3, hp4⟩, hpm⟩ := hq
    clear C4 C6 C8 F8a
    generalize hg : gapOf ns starts words i = gp at *
    generalize htx : (textUp ns starts words i).1 = txt at *
    try dsimp only
    k_steps
    refine Stop.off ?_
    k_dflt (refine storeX_C F8 (news_but N8 hcm) (by rfl) (UpdF.head but_off) hoT' ?_)
    intro h9 ow F9 N9 hcw9
    try dsimp only at N9
    clear F8 N8
    have hput : ∀ p ∈ led0, p.1 ≠ L + 1 + 1 + 1 → p ∈ (L + 1 + 1 + 1, ow) :: but (L + 1 + 1 + 1) led0 := fun p hp hn => mem_put hp hn
    have hS9 := hput _ hSm hST
    have hc9 := hput _ (hlm _ hc) (hTl _ hc)
    have hcw9m : (L + 1 + 1 + 1, ow) ∈ (L + 1 + 1 + 1, ow) :: but (L + 1 + 1 + 1) led0 := .head _
    have hsvl : sv'.length ≤ 20 := by rw [hsv'.length, List.length_map]; omega
    k_steps
    refine Stop.off ?_
    rename Fr _ _ _ _ => F10
    rename News _ _ _ _ => N10
    refine append_B F10 N10 hS9 (by omega) fun h11 F11 N11 => ?_
    clear F10 N10
    obtain ⟨tS, N11⟩ : ∃ tS, News base L h11 ((S, listOf (sv' ++ [Value.int ((txt ++ gp).length : Nat) tS]).toArray (sn' + 1)) :: but S ((L + 1 + 1 + 1, ow) :: but (L + 1 + 1 + 1) led0)) := ⟨_, N11⟩
    have hup11 : ∀ p ∈ (L + 1 + 1 + 1, ow) :: but (L + 1 + 1 + 1) led0, p.1 ≠ S → p ∈ (S, listOf (sv' ++ [Value.int ((txt ++ gp).length : Nat) tS]).toArray (sn' + 1)) :: but S ((L + 1 + 1 + 1, ow) :: but (L + 1 + 1 + 1) led0) := fun p hp hn => mem_put hp hn
    have hcm11 := hup11 _ hcw9m hST.symm
    have hc11 := hup11 _ hc9 (hSl _ hc)
    have hS11 : (S, listOf (sv' ++ [Value.int ((txt ++ gp).length : Nat) tS]).toArray (sn' + 1)) ∈ (S, listOf (sv' ++ [Value.int ((txt ++ gp).length : Nat) tS]).toArray (sn' + 1)) :: but S ((L + 1 + 1 + 1, ow) :: but (L + 1 + 1 + 1) led0) := .head _
    have hl11 : ∀ p ∈ led0, p.1 ≠ L + 1 + 1 + 1 → p.1 ≠ S → p ∈ (S, listOf (sv' ++ [Value.int ((txt ++ gp).length : Nat) tS]).toArray (sn' + 1)) :: but S ((L + 1 + 1 + 1, ow) :: but (L + 1 + 1 + 1) led0) := fun p hp h1 h2 => hup11 p (hput p hp h1) h2
    generalize hlq : (S, listOf (sv' ++ [Value.int ((txt ++ gp).length : Nat) tS]).toArray (sn' + 1)) :: but S ((L + 1 + 1 + 1, ow) :: but (L + 1 + 1 + 1) led0) = led11 at *
    clear hS9 hc9 hcw9m hput hup11
    k_steps
    refine Stop.off ?_
    rename Fr _ _ _ _ => F12
    rename News _ _ _ led11 => N12
    rw [show (21 + (i : Int)) = ((21 + i : Nat) : Int) by omega]
    k_dflt (refine cell_spec (i := 21 + i) ⟨⟨_, B1⟩, F12, XB1, N12, ⟨_, _, _, _, _, TB1⟩, D1, hk1⟩ ?_ ?_ hS hIn hl (by omega) ?_)
    · decide
    · decide
    intro h13 tk13 t13 C13
    have F13 := C13.F
    have N13 := C13.N
    clear F12 N12
    try dsimp only
    have hfm : ((cell ns (21 + i) : Nat) : Int).fmod 2 = ((cell ns (21 + i) % 2 : Nat) : Int) := by rw [Int.fmod_eq_emod_of_nonneg _ (by decide)]; rfl
    have hyl := (word_len (hwo y (List.mem_of_getElem? hy))).1
    have hownL : ∀ p ∈ own, p.1 ≠ L + 1 + 1 + 1 ∧ p.1 ≠ S := fun p hp => by
      have a1 := hoff _ (.head _)
      have a2 := hoff _ (.tail _ (.head _))
      rcases hown p hp with q | q | q
      · rw [q]; exact ⟨a1.1.symm, a2.1.symm⟩
      · rw [q]; exact ⟨a1.2.symm, a2.2.symm⟩
      · rw [q]; exact ⟨hTl _ hw, hSl _ hw⟩
    have hgy : words.getD i "" = y := by rw [List.getD_eq_getElem?_getD, hy]; rfl
    have hwa : wordAs ns words i = if cell ns (21 + i) % 2 = 1 then Txt.upper y else y := by unfold wordAs; rw [hgy]
    have hup1 : (textUp ns starts words (i + 1)).1 = txt ++ gp ++ wordAs ns words i := by
      show (textUp ns starts words i).1 ++ gapOf ns starts words i ++ wordAs ns words i = _
      rw [htx, hg]
    have hup2 : (textUp ns starts words (i + 1)).2 = (textUp ns starts words i).2 ++ [(txt ++ gp).length] := by
      show (textUp ns starts words i).2 ++ [((textUp ns starts words i).1 ++ gapOf ns starts words i).length] = _
      rw [htx, hg]
    k_steps
    · rename Int.fmod _ _ = _ => hb
      rw [if_pos (by omega)] at hwa
      refine Stop.off ?_
      rename Fr _ _ _ _ => F14
      rename News _ _ _ led11 => N14
      k_dflt (refine storeX_C F14 (news_but N14 hcm11) (by rfl) (UpdF.head but_off) hcw9 ?_)
      intro h15 ow2 F15 N15 hcw15
      try dsimp only at N15
      k_steps
      show TurnEnd _ _ _ _ _ _ _
      refine TurnEnd.mk ((L + 1 + 1 + 1, ow2) :: (S, listOf (sv' ++ [Value.int ((txt ++ gp).length : Nat) tS]).toArray (sn' + 1)) :: led) F15 N15 (fun p hp => mem_put (hl11 _ (hom p hp) (hownL p hp).1 (hownL p hp).2) (hownL p hp).1) (fun p hp => ?_) (fun p hp => ?_) ⟨⟨hpm, ow2, _, _, _, rfl, by rw [hup1, hwa]; exact hcw15, ?_⟩, fun p hp => ?_⟩
      · rcases List.mem_cons.mp hp with rfl | hp
        · exact .head _
        rcases List.mem_cons.mp hp with rfl | hp
        · exact mem_put hS11 hST
        · exact mem_put (hl11 _ (hlm p hp) (hTl p hp) (hSl p hp)) (hTl p hp)
      · rcases List.mem_cons.mp hp with rfl | hp
        · exact (hoff _ (.head _)).1
        rcases List.mem_cons.mp hp with rfl | hp
        · exact (hoff _ (.tail _ (.head _))).1
        · exact (hoff _ (.tail _ (.tail _ hp))).1
      · rw [hup2, List.map_append, List.map_singleton]
        exact ksk_snoc hsv'
      · rcases List.mem_cons.mp hp with rfl | hp
        · exact (hoff _ (.head _)).2
        rcases List.mem_cons.mp hp with rfl | hp
        · exact (hoff _ (.tail _ (.head _))).2
        · exact (hoff _ (.tail _ (.tail _ hp))).2
    · rename Int.fmod _ _ ≠ _ => hb
      rw [if_neg (by omega)] at hwa
      refine Stop.off ?_
      rename Fr _ _ _ _ => F14
      rename News _ _ _ led11 => N14
      k_dflt (refine storeX_C F14 (news_but N14 hcm11) (by rfl) (UpdF.head but_off) hcw9 ?_)
      intro h15 ow2 F15 N15 hcw15
      try dsimp only at N15
      k_steps
      show TurnEnd _ _ _ _ _ _ _
      refine TurnEnd.mk ((L + 1 + 1 + 1, ow2) :: (S, listOf (sv' ++ [Value.int ((txt ++ gp).length : Nat) tS]).toArray (sn' + 1)) :: led) F15 N15 (fun p hp => mem_put (hl11 _ (hom p hp) (hownL p hp).1 (hownL p hp).2) (hownL p hp).1) (fun p hp => ?_) (fun p hp => ?_) ⟨⟨hpm, ow2, _, _, _, rfl, by rw [hup1, hwa]; exact hcw15, ?_⟩, fun p hp => ?_⟩
      · rcases List.mem_cons.mp hp with rfl | hp
        · exact .head _
        rcases List.mem_cons.mp hp with rfl | hp
        · exact mem_put hS11 hST
        · exact mem_put (hl11 _ (hlm p hp) (hTl p hp) (hSl p hp)) (hTl p hp)
      · rcases List.mem_cons.mp hp with rfl | hp
        · exact (hoff _ (.head _)).1
        rcases List.mem_cons.mp hp with rfl | hp
        · exact (hoff _ (.tail _ (.head _))).1
        · exact (hoff _ (.tail _ (.tail _ hp))).1
      · rw [hup2, List.map_append, List.map_singleton]
        exact ksk_snoc hsv'
      · rcases List.mem_cons.mp hp with rfl | hp
        · exact (hoff _ (.head _)).2
        rcases List.mem_cons.mp hp with rfl | hp
        · exact (hoff _ (.tail _ (.head _))).2
        · exact (hoff _ (.tail _ (.tail _ hp))).2
  · clear F2 N2
    rintro m₁ nx h tk ⟨hm, oT', t', sv', sn', rfl, hoT', hsv'⟩ F₁ N₁
    rw [hwn] at hoT' hsv'
    exact hQ h tk m₁ oT' t' sv' sn' ⟨⟨_, B1⟩, F₁, XB1, N₁, ⟨_, _, _, _, _, TB1⟩, D1, hk1⟩ hoT' hsv' hm
end
end Mine
end
section
local macro_rules | `(tactic| walk_at "none such") => `(tactic| fail "none such")
theorem Mine.switch_S62 : True := by
  w_top off
  trivial
open Lean Elab Tactic Meta PySem PySem.W PySem.Calls PyProof.Rows
set_option pp.deepTerms false
set_option pp.maxSteps 800
set_option pp.deepTerms.threshold 5
namespace Mine
local macro_rules | `(tactic| walk_at "exec For Name Name cons nil") => `(tactic| (refine Mine.Stop.on ?_))
local macro_rules | `(tactic| walk_at "exec For Name Call cons nil") => `(tactic| (refine Mine.Stop.on ?_))
local macro_rules | `(tactic| walk_at "exec Assign cons ListComp") => `(tactic| (refine Mine.Stop.on ?_))
local macro_rules | `(tactic| walk_at "LeaveC") => `(tactic| fail "here")
local macro_rules | `(tactic| k_room) => `(tactic| first | ktr_room | ((simp only [Mine.mark_depth, depth_under_make, depth_under_kw, depth_in1, depth_deeper, depth_caller]); (try dsimp only [ktrTop]); (try simp only [recursionLimit] at *); omega))
local macro_rules | `(tactic| k_all) => `(tactic| first | assumption | exact Mine.offLt (by assumption) | exact Mine.offLt2 (by assumption) (by assumption) | (refine List.forall_mem_append.mpr ⟨?a, ?b⟩; (case a => k_all); (case b => k_all)))
local macro_rules | `(tactic| walk_at "setItem ref str") => `(tactic| (k_here; k_dflt (refine' kda_setB (knd := PySem.strKind _ _) ?F ?N ?hm ?d (strKind_is _ _ _ _) ?z ?_; (case F => k_asm); (case N => k_asm); (case hm => k_mem); (case d => k_asm); (case z => k_asm)); intro h' o' F' N' hd'))
local macro_rules | `(tactic| walk_at "compareOp Is str ref") => `(tactic| (k_here; refine wpAny_is_other (by rfl) (by intro x; cases x) ?_))
local macro_rules | `(tactic| k_mem) => `(tactic| assumption)
local macro_rules | `(tactic| walk_at "eval Name") => `(tactic| (k_here; (with_reducible show wpAny _ _ (eval (Expr.Name _ _) (envOf _ _ _ _ _)) _ _ _); k_dflt (refine' ld ?k1 ?k2 ?_; (case k1 => k_asm); (case k2 => first | exact rfl | assumption); k_whole)))
local macro_rules | `(tactic| walk_at "eval Name") => `(tactic| (k_here; (with_reducible show wpAny _ _ (eval (Expr.Name _ _) (envOfC _ _ _ _ _)) _ _ _); k_dflt (refine' nameX_L ?F ?v ?_ ?a ?b; (case F => k_asm); (case a => rfl); (case b => rfl); (case v => first | rfl | assumption); k_whole)))
local macro_rules | `(tactic| walk_at "call builtin:len") => `(tactic| (k_here; (with_reducible show wpAny _ _ (call (Value.builtin "len") [Value.ref _]) _ _ _); k_dflt (first | refine len_L (by k_asm) (by k_mem) (by omega) ?_ | refine len_T (by k_asm) (by k_mem) (by omega) ?_)))
local macro_rules | `(tactic| walk_at "subscriptTail") => `(tactic| (k_here; (with_reducible show wpAny _ _ (subscriptTail _ (PySem.Expr.Slice _ _ _ _) (Value.ref _) (Value.ref _)) _ _ _); refine Mine.Stop.on ?_))
local macro_rules | `(tactic| walk_at "compareOp Eq ref ref") => `(tactic| (refine Mine.Stop.on ?_))
local macro_rules | `(tactic| walk_at "compareOp NotEq ref ref") => `(tactic| (refine Mine.Stop.on ?_))
local macro_rules | `(tactic| walk_at "call type:list") => `(tactic| (k_here; k_dflt (refine list_of_tuple (by k_asm) (by k_asm) (by k_mem) (by omega) ?_); intro D' c' h' F' N' l1; (try k_sweep)))
local macro_rules | `(tactic| walk_at "call ref") => `(tactic| ((with_reducible show wpAny _ _ (call (Value.ref 306) _) _ _ _); refine Mine.Stop.on ?_))
local macro_rules | `(tactic| walk_at "exec For") => `(tactic| (refine Mine.Stop.on ?_))
local macro_rules | `(tactic| walk_at "exec For Tuple Name cons nil") => `(tactic| (refine Mine.Stop.on ?_))
local macro_rules | `(tactic| walk_at "pyIter ref") => `(tactic| (refine Mine.Stop.on ?_))
local macro_rules | `(tactic| walk_at "call builtin:list.append") => `(tactic| (refine Mine.Stop.on ?_))
local macro_rules | `(tactic| walk_at "call builtin:str.join") => `(tactic| (refine Mine.Stop.on ?_))
local macro_rules | `(tactic| walk_at "subscriptTail") => `(tactic| ((with_reducible show wpAny _ _ (subscriptTail _ _ (Value.ref _) _) _ _ _); refine Mine.Stop.on ?_))
/-! what is due -/
def TokTup (led : List (Addr × Obj)) (v : Value) (d : TokD) : Prop := ∃ a t1 t2 t3 vl, v = .ref a ∧ (a, tupO [.int d.st t1, .int d.en t2, .str d.tx t3, vl]) ∈ led ∧ ValIs d.vl vl
inductive TupsIn (led : List (Addr × Obj)) : List Value → List TokD → Prop
  | nil : TupsIn led [] []
  | cons {v : Value} {d : TokD} {vs : List Value} {ds : List TokD} : TokTup led v d → TupsIn led vs ds → TupsIn led (v :: vs) (d :: ds)
theorem tups_mono {a b : List (Addr × Obj)} (k : ∀ p ∈ a, p ∈ b) : ∀ {vs : List Value} {ds : List TokD}, TupsIn a vs ds → TupsIn b vs ds
  | _, _, .nil => .nil
  | _, _, .cons ⟨x, t1, t2, t3, vl, e, h1, h2⟩ r => .cons ⟨x, t1, t2, t3, vl, e, k _ h1, h2⟩ (tups_mono k r)
theorem tups_len {a : List (Addr × Obj)} : ∀ {vs : List Value} {ds : List TokD}, TupsIn a vs ds → vs.length = ds.length
  | _, _, .nil => rfl
  | _, _, .cons _ r => congrArg (· + 1) (tups_len r)
theorem tups_snoc {a : List (Addr × Obj)} {v : Value} {d : TokD} (hv : TokTup a v d) : ∀ {vs : List Value} {ds : List TokD}, TupsIn a vs ds → TupsIn a (vs ++ [v]) (ds ++ [d])
  | _, _, .nil => .cons hv .nil
  | _, _, .cons h r => .cons h (tups_snoc hv r)
def dueEnd (spots : List Nat) (words : List Str) (p : Nat × Nat) : Nat := spots.getD (p.1 + max 1 p.2 - 1) 0 + (words.getD (p.1 + max 1 p.2 - 1) "").length
def dueVal (words : List Str) (p : Nat × Nat) : Option Str := if p.2 = 0 then none else some (Str.ofString "<" ++ joinW (seg words p.1 p.2) ++ Str.ofString ">")
def dueTok (text : Str) (spots : List Nat) (words : List Str) (p : Nat × Nat) : TokD := ⟨spots.getD p.1 0, (dueEnd spots words p : Int) - 1, Txt.slice text (some (spots.getD p.1 0 : Nat)) (some (dueEnd spots words p : Nat)), dueVal words p⟩
def ValMid (base : Heap) (L : Addr) (m : Str → Option Value) (ledq : List (Addr × Obj)) (o : Option Str) (s : Shared) (f : Flow) (s' : Shared) : Prop :=
  f = .next ∧ ∃ h' tk' v led2, s' = { s with heap := h', toks := tk' } ∧ Fr base L h' (fun z => if z = "value" then some v else m z) ∧ News base L h' led2 ∧ (∀ p ∈ ledq, p ∈ led2) ∧ ValIs o v
local macro_rules | `(tactic| walk_at "exec Assign cons IfExp") => `(tactic| ((fail_if_success (with_reducible show wpAny _ _ _ (ValMid _ _ _ _ _ _) _ _)); refine Mine.Stop.on ?_))
section
variable {prog : Program} {w : World} {base : Heap} {L fa : Addr} {cd : Value} {m : Str → Option Value} {s : Shared} {Q : Flow → Shared → Prop} {E : Value → Shared → Prop} {led : List (Addr × Obj)}
set_option maxRecDepth 100000
set_option maxHeartbeats 4000000
theorem due_spec {Z wl S D : Addr} {zv wv sv : List Value} {zn wn sn dn : Nat} {pairs : List (Nat × Nat)} {spots : List Nat} {words : List Str} {text : Str} {oT : Obj} {tt : Tok} (C : Cx (Mine.hd.heap_39 w.params) lawScope [] base base L s.heap m ((D, listOf [].toArray dn) :: led)) (hD : ∀ p ∈ led, p.1 ≠ D)
   (hc : (L + 1 + 1 + 1, oT) ∈ led) (hoT : oT.data = .cell (some (.str text tt))) (hZ : (Z, listOf zv.toArray zn) ∈ led) (hzv : PairsI led zv (pairs.map toI)) (hw : (wl, listOf wv.toArray wn) ∈ led) (hwv : StrsAre wv words) (hS : (S, listOf sv.toArray sn) ∈ led) (hsv : IntsAre sv (spots.map fun (n : Nat) => (n : Int)))
   (hwl : words.length ≤ 9) (hwo : OkWs words) (hsl : spots.length = words.length) (hpl : pairs.length ≤ 9) (hps : ∀ p ∈ pairs, p.1 < words.length ∧ p.1 + p.2 ≤ words.length ∧ p.2 ≤ 3) (htl : text.length ≤ 100) (hspb : ∀ x ∈ spots, x ≤ 100)
   (hm1 : m "words" = some (.ref wl)) (hm2 : m "spots" = some (.ref S)) (hm3 : m "sizes" = some (.ref Z)) (hm4 : m "due" = some (.ref D))
   (hE : PassesOwn (model prog w) (callerA.deeper (lawEnv L fa cd)) (lawEnv L fa cd) E)
   (hQ : ∀ h' tk' m' dv n led', Cx (Mine.hd.heap_39 w.params) lawScope [] base base L h' m' ((D, listOf (List.toArray dv) n) :: led') → (∀ p ∈ led, p ∈ led') → (∀ p ∈ led', p.1 ≠ D) → TupsIn led' dv (pairs.map (dueTok text spots words)) → (∀ x : Str, x ∉ ([("at" : Str), "size", "last", "end", "value"] : List Str) → m' x = m x) → Q .next { s with heap := h', toks := tk' }) :
   wpAny (model prog w) (callerA.deeper (lawEnv L fa cd)) (exec (lawBody.getD 10 passS) (lawEnv L fa cd)) Q E s := by
  with_unfolding_all show wpAny _ (callerA.deeper (envOfC _ ⟨_, _, _, _, _⟩ _ _ _)) (exec (Stmt.For _ _ _ _ _) (envOfC _ ⟨_, _, _, _, _⟩ _ _ _)) _ _ _
  obtain ⟨⟨A1, B1⟩, F1, XB1, N1, ⟨p1, loose1, mean1, mg1, mb1, TB1⟩, D1, hk1⟩ := id C
  have X1 := XB1.keeps B1.stays
  have T1 := TB1.keeps B1.stays
  have hwn := strs_len hwv
  have hzn := pairs2_len hzv
  rw [List.length_map] at hzn
  refine For_turns F1 ?_ (by intro _; rfl) hE
  k_steps
  refine Stop.off ?_
  rename Fr _ _ _ _ => F2
  rename News _ _ _ _ => N2
  refine tuple_iterJ (fun i m' nx => (∀ x : Str, x ∉ ([("at" : Str), "size", "last", "end", "value"] : List Str) → m' x = m x) ∧ ∃ dv n led', nx = (D, listOf (List.toArray dv) n) :: led' ∧ (∀ p ∈ led, p ∈ led') ∧ (∀ p ∈ led', p.1 ≠ D) ∧ TupsIn led' dv ((pairs.take i).map (dueTok text spots words))) (by rfl) (by rfl) F2 N2 (.tail _ hZ) ⟨fun _ _ => rfl, [], dn, led, rfl, fun p hp => hp, hD, .nil⟩ ?_ ?_
  · clear F2 N2
    rintro i v m₁ nx I own h tk hv ⟨hm, dv, n, led', rfl, hsub, hDl, hdv⟩ hown hoff ⟨oI, hoI⟩ F₁ N₁
    have hlti : i < zv.length := (List.getElem?_eq_some_iff.mp hv).1
    obtain ⟨T, ta, tz, hvT, hTm⟩ := pairs2_at hzv hlti
    have hvv : zv.getD i Value.none = v := by rw [List.getD_eq_getElem?_getD, hv]; rfl
    rw [hvv] at hvT
    subst hvT
    obtain ⟨⟨a, z⟩, hpi⟩ : ∃ p, pairs[i]? = some p := ⟨pairs[i]'(by omega), List.getElem?_eq_getElem _⟩
    have hpk : (pairs.map toI).getD i (0, 0) = toI (a, z) := by rw [List.getD_eq_getElem?_getD, List.getElem?_map, hpi]; rfl
    rw [hpk] at hTm
    obtain ⟨hp1, hp2, hp3⟩ := hps _ (List.mem_of_getElem? hpi)
    dsimp only at hp1 hp2 hp3
    have hn1 := (hm "words" (by decide)).trans hm1
    have hn2 := (hm "spots" (by decide)).trans hm2
    have hn4 := (hm "due" (by decide)).trans hm4
    have hlm : ∀ p ∈ led', p ∈ (D, listOf (List.toArray dv) n) :: led' ++ own := fun p hp => .tail _ (List.mem_append_left _ hp)
    have hTm2 : (T, tupO [.int (a : Nat) ta, .int (z : Nat) tz]) ∈ (D, listOf (List.toArray dv) n) :: led' ++ own := hlm _ (hsub _ hTm)
    have hcm := hlm _ (hsub _ hc)
    have hDm : (D, listOf (List.toArray dv) n) ∈ (D, listOf (List.toArray dv) n) :: led' ++ own := .head _
    have hom : ∀ p ∈ own, p ∈ (D, listOf (List.toArray dv) n) :: led' ++ own := fun p hp => List.mem_append_right _ hp
    have hwm := hlm _ (hsub _ hw)
    have hSm := hlm _ (hsub _ hS)
    generalize hlq : (D, listOf (List.toArray dv) n) :: led' ++ own = ledq at *
    unfold tupO at hTm2
    k_steps
    refine Stop.off ?_
    rename Fr _ _ _ _ => F3
    rename News _ _ _ ledq => N3
    have hz2 : ((a : Int) + if (z : Int) > 1 then (z : Int) else 1) - 1 = ((a + max 1 z - 1 : Nat) : Int) := by split <;> omega
    rw [hz2] at F3 ⊢
    have hll : a + max 1 z - 1 < words.length := by omega
    obtain ⟨yl, hyl⟩ : ∃ y, words[a + max 1 z - 1]? = some y := ⟨words[a + max 1 z - 1], List.getElem?_eq_getElem hll⟩
    obtain ⟨xl, hxl⟩ : ∃ x, spots[a + max 1 z - 1]? = some x := ⟨spots[a + max 1 z - 1]'(by omega), List.getElem?_eq_getElem _⟩
    obtain ⟨xa, hxa⟩ : ∃ x, spots[a]? = some x := ⟨spots[a]'(by omega), List.getElem?_eq_getElem _⟩
    have hIg : ∀ {k : Nat} {x : Nat}, spots[k]? = some x → ∃ t, sv[k]? = some (.int (x : Nat) t) := fun {k x} h => hsv.get k (x : Int) (by rw [List.getElem?_map, h]; rfl)
    obtain ⟨txl, hsxl⟩ := hIg hxl
    obtain ⟨txa, hsxa⟩ := hIg hxa
    obtain ⟨tyl, hwyl⟩ := strs_get hwv hyl
    have hxlb := hspb _ (List.mem_of_getElem? hxl)
    have hxab := hspb _ (List.mem_of_getElem? hxa)
    have hylb := (word_len (hwo yl (List.mem_of_getElem? hyl))).1
    have hde : dueEnd spots words (a, z) = xl + yl.length := by
      unfold dueEnd
      rw [List.getD_eq_getElem?_getD, List.getD_eq_getElem?_getD, hyl, hxl]; rfl
    have hga : spots.getD a 0 = xa := by rw [List.getD_eq_getElem?_getD, hxa]; rfl
    generalize hlg : a + max 1 z - 1 = ll at *
    refine list_item (PySem.IsL.isList (n := sn) (N3 _ hSm).1) (by omega) (by omega) (v := .int (xl : Nat) txl) (by rw [Int.toNat_natCast]; simpa using hsxl) ?_
    k_steps
    refine Stop.off ?_
    rename Fr _ _ _ _ => F4
    rename News _ _ _ ledq => N4
    refine list_item (PySem.IsL.isList (n := wn) (N4 _ hwm).1) (by omega) (by omega) (v := .str yl tyl) (by rw [Int.toNat_natCast]; simpa using hwyl) ?_
    k_steps
    refine Stop.off ?_
    rename Fr _ _ _ _ => F5
    rename News _ _ _ ledq => N5
    obtain ⟨m5, F6, ⟨hq1, hq2, ⟨te, hq3⟩, hq4, hq5, hq6⟩, hqm⟩ : ∃ m5 : Str → Option Value, Fr base L _ m5 ∧ (m5 "at" = some (.int (a : Nat) ta) ∧ m5 "size" = some (.int (z : Nat) tz) ∧ (∃ t, m5 "end" = some (.int ((xl : Int) + yl.length) t)) ∧ m5 "words" = some (.ref wl) ∧ m5 "spots" = some (.ref S) ∧ m5 "due" = some (.ref D)) ∧ ∀ x : Str, x ∉ ([("at" : Str), "size", "last", "end", "value"] : List Str) → m5 x = m x := by
      refine ⟨_, F5, ⟨rfl, rfl, ⟨_, rfl⟩, hn1, hn2, hn4⟩, fun x hx => ?_⟩
      simp only [List.mem_cons, List.not_mem_nil, or_false, not_or] at hx
      obtain ⟨a1, a2, a3, a4, a5⟩ := hx
      rw [if_neg a4, if_neg a3, if_neg a2, if_neg a1]
      exact hm x (by simp [a1, a2, a3, a4, a5])
    clear F5
    rename Heap => h5
    refine wpAny_mono (Q := ValMid base L m5 ledq (dueVal words (a, z)) { s with heap := h5, toks := 0 }) ?_ ?_ (fun _ _ e => e)
    · k_steps
      · refine Stop.off ?_
        rename Fr _ _ _ _ => F7
        rename News _ _ _ ledq => N7
        have hz0 : z ≠ 0 := by omega
        refine slice_list_midI (a := a) (b := a + z) F7 N7 hwm ?_ ?_ (by omega) (by omega) (by omega) ?_
        · rfl
        · rw [Int.natCast_add]
        intro R h8 F8 N8 hR
        clear F7 N7
        have hrow : StrsAre ((wv.drop a).take (a + z - a)) (seg words a z) := by
          rw [show a + z - a = z by omega]
          exact strs_take (strs_drop hwv a) z
        have hso : OkWs (seg words a z) := fun y hy => hwo y (List.mem_of_mem_drop (List.mem_of_mem_take hy))
        have hsl2 : (seg words a z).length ≤ 3 := by unfold seg; rw [List.length_take]; omega
        have hsum := sum_len hso
        have hjl := text_bound hso false
        k_steps
        refine Stop.off ?_
        rename Fr _ _ _ _ => F9
        rename News _ _ _ _ => N9
        refine join_listW (PySem.IsL.isList (n := 0) (N9 _ (.head _)).1) hrow (by decide) (by omega) fun t' k => ?_
        have hjn : Txt.join (Str.ofString " ") (seg words a z) = joinW (seg words a z) := rfl
        rw [hjn]
        have hjl2 : (joinW (seg words a z)).length ≤ 30 := by
          have e : joinW (seg words a z) = textOf (seg words a z) false := rfl
          rw [e]; omega
        k_steps
        rename Fr _ _ _ _ => F10
        rename News _ _ _ _ => N10
        exact ⟨rfl, _, _, _, _, rfl, F10, N10, fun p hp => .tail _ hp, by unfold dueVal; rw [if_neg hz0]; exact ⟨_, rfl⟩⟩
      · rename Fr _ _ _ _ => F10
        rename News _ _ _ _ => N10
        have hz0 : z = 0 := by omega
        exact ⟨rfl, _, _, _, _, rfl, F10, N10, fun p hp => hp, by unfold dueVal; rw [if_pos hz0]; rfl⟩
    · rintro f s' ⟨rfl, h7, tk7, vv, led7, rfl, F7, N7, hk7, hvv⟩
      clear N5 F6
      try dsimp only
      have hSm7 := hk7 _ hSm
      have hcm7 := hk7 _ hcm
      have hDm7 := hk7 _ hDm
      k_steps
      refine Stop.off ?_
      rename Fr _ _ _ _ => F8
      rename News _ _ _ led7 => N8
      refine list_item (PySem.IsL.isList (n := sn) (N8 _ hSm7).1) (by omega) (by omega) (v := .int (xa : Nat) txa) (by rw [Int.toNat_natCast]; simpa using hsxa) ?_
      k_steps
      refine Stop.off ?_
      rename Fr _ _ _ _ => F9
      rename News _ _ _ led7 => N9
      refine list_item (PySem.IsL.isList (n := sn) (N9 _ hSm7).1) (by omega) (by omega) (v := .int (xa : Nat) txa) (by rw [Int.toNat_natCast]; simpa using hsxa) ?_
      k_steps
      refine Stop.off ?_
      rename Fr _ _ _ _ => F10
      rename News _ _ _ _ => N10
      rename ∀ p ∈ led7, p.1 < _ => hTT
      rename Addr => TT
      obtain ⟨t1, t2, t3, N10⟩ : ∃ t1 t2 t3, News base L _ ((TT, tupO [.int (xa : Int) t1, .int ((xl : Int) + yl.length - 1) t2, .str (Txt.slice text (some (xa : Int)) (some ((xl : Int) + yl.length))) t3, vv]) :: led7) := ⟨_, _, _, N10⟩
      have hdl : dv.length ≤ 20 := by rw [tups_len hdv, List.length_map, List.length_take]; omega
      refine append_B F10 N10 (.tail _ hDm7) (by omega) fun h11 F11 N11 => ?_
      clear F10 N10
      have hTD : TT ≠ D := Nat.ne_of_gt (hTT _ hDm7)
      k_steps
      show TurnEnd _ _ _ _ _ _ _
      rename Fr _ _ _ _ => F12
      rename News _ _ _ _ => N12
      have hIoff : ∀ p ∈ own, p.1 ≠ D := fun p hp => by
        rcases hown p hp with q | q
        · rw [q]; exact (hoff _ (.head _)).symm
        · rw [q]; exact hD _ hZ
      have hTI : TT ≠ I := Nat.ne_of_gt (hTT _ (hk7 _ (hom _ hoI)))
      have htk : pairs.take (i + 1) = pairs.take i ++ [(a, z)] := by rw [List.take_add_one, hpi]; rfl
      have hdt : dueTok text spots words (a, z) = ⟨(xa : Int), (xl : Int) + yl.length - 1, Txt.slice text (some (xa : Int)) (some ((xl : Int) + yl.length)), dueVal words (a, z)⟩ := by
        unfold dueTok
        rw [hde, hga, Int.natCast_add]
      refine TurnEnd.mk ((D, listOf (dv ++ [Value.ref TT]).toArray (n + 1)) :: (TT, tupO [.int (xa : Int) t1, .int ((xl : Int) + yl.length - 1) t2, .str (Txt.slice text (some (xa : Int)) (some ((xl : Int) + yl.length))) t3, vv]) :: led') F12 N12 (fun p hp => mem_put (.tail _ (hk7 _ (hom p hp))) (hIoff p hp)) (fun p hp => ?_) (fun p hp => ?_) ⟨fun x hx => (if_neg (fun e => hx (by rw [e]; decide))).trans (hqm x hx), _, _, (TT, tupO [.int (xa : Int) t1, .int ((xl : Int) + yl.length - 1) t2, .str (Txt.slice text (some (xa : Int)) (some ((xl : Int) + yl.length))) t3, vv]) :: led', rfl, fun p hp => .tail _ (hsub p hp), fun p hp => ?_, ?_⟩
      · rcases List.mem_cons.mp hp with rfl | hp
        · exact .head _
        rcases List.mem_cons.mp hp with rfl | hp
        · exact mem_put (.head _) hTD
        · exact mem_put (.tail _ (hk7 _ (hlm p hp))) (hDl p hp)
      · rcases List.mem_cons.mp hp with rfl | hp
        · exact hoff (D, listOf (List.toArray dv) n) (.head _)
        rcases List.mem_cons.mp hp with rfl | hp
        · exact hTI
        · exact hoff _ (.tail _ hp)
      · rcases List.mem_cons.mp hp with rfl | hp
        · exact hTD
        · exact hDl p hp
      · rw [htk, List.map_append, List.map_singleton, hdt]
        exact tups_snoc (d := ⟨(xa : Int), (xl : Int) + yl.length - 1, Txt.slice text (some (xa : Int)) (some ((xl : Int) + yl.length)), dueVal words (a, z)⟩) ⟨TT, t1, t2, t3, vv, rfl, .head _, hvv⟩ (tups_mono (fun p hp => .tail _ hp) hdv)
  · clear F2 N2
    rintro m₁ nx h tk ⟨hm, dv, n, led', rfl, hsub, hDl, hdv⟩ F₁ N₁
    rw [hzn, List.take_length] at hdv
    exact hQ h tk m₁ dv n led' ⟨⟨_, B1⟩, F₁, XB1, N₁, ⟨_, _, _, _, _, TB1⟩, D1, hk1⟩ hsub hDl hdv hm
end
end Mine
end
section
theorem Mine.switch_S63 : True := by
  w_top off
  trivial
open Lean Elab Tactic Meta PySem PySem.W PySem.Calls PyProof.Rows
set_option pp.deepTerms false
set_option pp.maxSteps 800
set_option pp.deepTerms.threshold 5
namespace Mine
local macro_rules | `(tactic| walk_at "exec For Name Name cons nil") => `(tactic| (refine Mine.Stop.on ?_))
local macro_rules | `(tactic| walk_at "exec For Name Call cons nil") => `(tactic| (refine Mine.Stop.on ?_))
local macro_rules | `(tactic| walk_at "exec Assign cons ListComp") => `(tactic| (refine Mine.Stop.on ?_))
local macro_rules | `(tactic| walk_at "LeaveC") => `(tactic| fail "here")
local macro_rules | `(tactic| k_room) => `(tactic| first | ktr_room | ((simp only [Mine.mark_depth, depth_under_make, depth_under_kw, depth_in1, depth_deeper, depth_caller]); (try dsimp only [ktrTop]); (try simp only [recursionLimit] at *); omega))
local macro_rules | `(tactic| k_all) => `(tactic| first | assumption | exact Mine.offLt (by assumption) | exact Mine.offLt2 (by assumption) (by assumption) | (refine List.forall_mem_append.mpr ⟨?a, ?b⟩; (case a => k_all); (case b => k_all)))
local macro_rules | `(tactic| walk_at "setItem ref str") => `(tactic| (k_here; k_dflt (refine' kda_setB (knd := PySem.strKind _ _) ?F ?N ?hm ?d (strKind_is _ _ _ _) ?z ?_; (case F => k_asm); (case N => k_asm); (case hm => k_mem); (case d => k_asm); (case z => k_asm)); intro h' o' F' N' hd'))
local macro_rules | `(tactic| walk_at "compareOp Is str ref") => `(tactic| (k_here; refine wpAny_is_other (by rfl) (by intro x; cases x) ?_))
local macro_rules | `(tactic| k_mem) => `(tactic| assumption)
local macro_rules | `(tactic| walk_at "eval Name") => `(tactic| (k_here; (with_reducible show wpAny _ _ (eval (Expr.Name _ _) (envOf _ _ _ _ _)) _ _ _); k_dflt (refine' ld ?k1 ?k2 ?_; (case k1 => k_asm); (case k2 => first | exact rfl | assumption); k_whole)))
local macro_rules | `(tactic| walk_at "eval Name") => `(tactic| (k_here; (with_reducible show wpAny _ _ (eval (Expr.Name _ _) (envOfC _ _ _ _ _)) _ _ _); k_dflt (refine' nameX_L ?F ?v ?_ ?a ?b; (case F => k_asm); (case a => rfl); (case b => rfl); (case v => first | rfl | assumption); k_whole)))
local macro_rules | `(tactic| walk_at "call builtin:len") => `(tactic| (k_here; (with_reducible show wpAny _ _ (call (Value.builtin "len") [Value.ref _]) _ _ _); k_dflt (first | refine len_L (by k_asm) (by k_mem) (by omega) ?_ | refine len_T (by k_asm) (by k_mem) (by omega) ?_)))
local macro_rules | `(tactic| walk_at "subscriptTail") => `(tactic| (k_here; (with_reducible show wpAny _ _ (subscriptTail _ (PySem.Expr.Slice _ _ _ _) (Value.ref _) (Value.ref _)) _ _ _); refine Mine.Stop.on ?_))
local macro_rules | `(tactic| walk_at "compareOp Eq ref ref") => `(tactic| (refine Mine.Stop.on ?_))
local macro_rules | `(tactic| walk_at "compareOp NotEq ref ref") => `(tactic| (refine Mine.Stop.on ?_))
local macro_rules | `(tactic| walk_at "call type:list") => `(tactic| (k_here; k_dflt (refine list_of_tuple (by k_asm) (by k_asm) (by k_mem) (by omega) ?_); intro D' c' h' F' N' l1; (try k_sweep)))
local macro_rules | `(tactic| walk_at "call ref") => `(tactic| ((with_reducible show wpAny _ _ (call (Value.ref 306) _) _ _ _); refine Mine.Stop.on ?_))
local macro_rules | `(tactic| walk_at "CompSrc") => `(tactic| (refine Mine.Stop.on ?_))
local macro_rules | `(tactic| walk_at "subscriptTail") => `(tactic| ((with_reducible show wpAny _ _ (subscriptTail _ _ (Value.ref 299) (Value.int _ _)) _ _ _); refine Mine.Stop.on ?_))
def wordAt (ns : List Int) (i : Nat) : Str := lawWords.getD (cell ns (2 + i) % 9) ""
def wordsOf (ns : List Int) : List Str := (List.range (1 + cell ns 1 % 9)).map (wordAt ns)
theorem menu_ok : ∀ w ∈ lawWords, okWord w = true := by decide +kernel
theorem wordAt_get (ns : List Int) (i : Nat) : lawWords[cell ns (2 + i) % 9]? = some (wordAt ns i) := by
  have hlt : cell ns (2 + i) % 9 < lawWords.length := Nat.mod_lt _ (by decide)
  unfold wordAt
  rw [List.getD_eq_getElem?_getD, List.getElem?_eq_getElem hlt]; rfl
theorem words_menu (ns : List Int) : ∀ y ∈ wordsOf ns, y ∈ lawWords := fun y hy => by
  unfold wordsOf at hy
  obtain ⟨j, _, rfl⟩ := List.mem_map.mp hy
  exact List.mem_of_getElem? (wordAt_get ns j)
theorem words_ok (ns : List Int) : OkWs (wordsOf ns) := fun w hw => menu_ok _ (words_menu ns w hw)
theorem words_len (ns : List Int) : 1 ≤ (wordsOf ns).length ∧ (wordsOf ns).length ≤ 9 := by
  unfold wordsOf
  rw [List.length_map, List.length_range]
  omega
section
variable {prog : Program} {w : World} {base : Heap} {L fa : Addr} {cd : Value} {m : Str → Option Value} {s : Shared} {Q : Flow → Shared → Prop} {E : Value → Shared → Prop} {led : List (Addr × Obj)}
set_option maxRecDepth 100000
set_option maxHeartbeats 4000000
theorem words_spec {sl : Addr} {sv : List Value} {ns : List Int} {oc : Obj} (C : Cx (Mine.hd.heap_39 w.params) lawScope [] base base L s.heap m led)
   (hc : (L + 1, oc) ∈ led) (hoc : oc.data = .cell (some (.ref sl))) (hS : base.IsList sl sv.toArray) (hIn : IntsAre sv ns) (hl : ns.length ≤ 63)
   (hE : PassesOwn (model prog w) (callerA.deeper (lawEnv L fa cd)) (lawEnv L fa cd) E)
   (hQ : ∀ h' tk' D wv, Cx (Mine.hd.heap_39 w.params) lawScope [] base base L h' (fun z => if z = "words" then some (.ref D) else m z) ((D, LCg.lst wv) :: led) → (∀ p ∈ led, p.1 ≠ D) → StrsAre wv (wordsOf ns) → Q .next { s with heap := h', toks := tk' }) :
   wpAny (model prog w) (callerA.deeper (lawEnv L fa cd)) (exec (lawBody.getD 4 passS) (lawEnv L fa cd)) Q E s := by
  with_unfolding_all show wpAny _ (callerA.deeper (envOfC _ ⟨_, _, _, _, _⟩ _ _ _)) (exec (Stmt.Assign _ _ _) (envOfC _ ⟨_, _, _, _, _⟩ _ _ _)) _ _ _
  obtain ⟨⟨A1, B1⟩, F1, XB1, N1, ⟨p1, loose1, mean1, mg1, mb1, TB1⟩, D1, hk1⟩ := id C
  have X1 := XB1.keeps B1.stays
  have T1 := TB1.keeps B1.stays
  k_dflt (refine LCg.Assign_ListComp_U (F₀ := by k_asm) (by rfl) (by with_unfolding_all rfl) (by with_unfolding_all rfl) (by decide) (by rfl) (by decide) (by rfl) (by rfl) (by rfl) ?_)
  k_steps
  refine Stop.off ?_
  k_dflt (refine cell_spec (i := 1) ⟨⟨_, B1⟩, F1, XB1, N1, ⟨_, _, _, _, _, TB1⟩, D1, hk1⟩ ?_ ?_ hS hIn hl (by omega) ?_)
  · decide
  · decide
  intro h4 tk4 t4 C4
  have F4 := C4.F
  have N4 := C4.N
  clear C4 F1 N1
  k_steps
  refine Stop.off ?_
  have hb5 : (1 + ((cell ns 1 : Nat) : Int).fmod 9) = 0 + ((1 + cell ns 1 % 9 : Nat) : Int) := by
    rw [Int.fmod_eq_emod_of_nonneg _ (by decide)]; omega
  rename IsRange _ _ _ _ _ _ _ _ => hR
  rw [hb5] at hR
  obtain ⟨hr1, hr2⟩ := range_facts (a := 0) (n := 1 + cell ns 1 % 9) (.inl rfl) (by omega)
  rename Fr _ _ _ _ => F5
  rename News _ _ _ _ => N5
  k_dflt (refine LCg.CompSrc.range (by rfl) F5 N5 hR hr1 hr2 (by rw [sizeLine_eq]; omega) (fun _ => rest_ind (fun j ys nx => nx = led ∧ StrsAre ys ((List.range j).map (wordAt ns))) ?_ ?_ _ 0 _ _ (Nat.zero_add _) ⟨rfl, .nil⟩))
  · rintro ys nx ⟨rfl, hys⟩ D2 h8 tk8 F8 N8 off8
    exact hQ h8 tk8 D2 ys ⟨⟨_, B1⟩, F8, XB1, N8, ⟨_, _, _, _, _, TB1⟩, D1, hk1⟩ (fun p hp => off1_mem off8 p hp) hys
  · rintro j ys nx v I' oI' C' oC' D' m₂ h' tk' E' hj ⟨rfl, hys⟩ ⟨tv, rfl⟩ hC' hxv F N off ne
    have hcq : (L + 1, oc) ∈ (I', oI') :: (C', oC') :: (D', LCg.lst ys) :: nx := .tail _ (.tail _ (.tail _ hc))
    k_steps
    refine Stop.off ?_
    rw [show (2 + (0 + (j : Int))) = ((2 + j : Nat) : Int) by omega]
    k_dflt (refine cell_spec (i := 2 + j) ⟨⟨_, B1⟩, by assumption, XB1, by assumption, ⟨_, _, _, _, _, TB1⟩, D1, hk1⟩ ?_ ?_ hS hIn hl (by omega) ?_)
    · decide
    · decide
    intro h9 tk9 t9 C9
    have F9 := C9.F
    have N9 := C9.N
    clear C9
    obtain ⟨lw, hlw, hlws⟩ := words_at (X1.keeps F9.keep)
    obtain ⟨tw, htw⟩ := strs_get hlws (wordAt_get ns j)
    k_steps
    refine Stop.off ?_
    rw [show ((cell ns (2 + j) : Nat) : Int).fmod 9 = ((cell ns (2 + j) % 9 : Nat) : Int) by rw [Int.fmod_eq_emod_of_nonneg _ (by decide)]; rfl]
    refine list_item hlw (by omega) (by omega) (by rw [Int.toNat_natCast]; simpa using htw) ?_
    refine LCg.CompEnd.intro (by assumption) (by assumption) _ (fun p hp => hp) off trivial ⟨rfl, ?_⟩
    rw [List.range_succ, List.map_append]
    exact strs_snoc hys _ _
end
end Mine
end
section
local macro_rules | `(tactic| walk_at "none such") => `(tactic| fail "none such")
theorem Mine.switch_S64 : True := by
  w_top off
  trivial
open Lean Elab Tactic Meta PySem PySem.W PySem.Calls PyProof.Rows
set_option pp.deepTerms false
set_option pp.maxSteps 800
set_option pp.deepTerms.threshold 5
namespace Mine
local macro_rules | `(tactic| walk_at "exec For Name Name cons nil") => `(tactic| (refine Mine.Stop.on ?_))
local macro_rules | `(tactic| walk_at "exec For Name Call cons nil") => `(tactic| (refine Mine.Stop.on ?_))
local macro_rules | `(tactic| walk_at "exec Assign cons ListComp") => `(tactic| (refine Mine.Stop.on ?_))
local macro_rules | `(tactic| walk_at "LeaveC") => `(tactic| fail "here")
local macro_rules | `(tactic| k_room) => `(tactic| first | ktr_room | ((simp only [Mine.mark_depth, depth_under_make, depth_under_kw, depth_in1, depth_deeper, depth_caller]); (try dsimp only [ktrTop]); (try simp only [recursionLimit] at *); omega))
local macro_rules | `(tactic| k_all) => `(tactic| first | assumption | exact Mine.offLt (by assumption) | exact Mine.offLt2 (by assumption) (by assumption) | (refine List.forall_mem_append.mpr ⟨?a, ?b⟩; (case a => k_all); (case b => k_all)))
local macro_rules | `(tactic| walk_at "setItem ref str") => `(tactic| (k_here; k_dflt (refine' kda_setB (knd := PySem.strKind _ _) ?F ?N ?hm ?d (strKind_is _ _ _ _) ?z ?_; (case F => k_asm); (case N => k_asm); (case hm => k_mem); (case d => k_asm); (case z => k_asm)); intro h' o' F' N' hd'))
local macro_rules | `(tactic| walk_at "compareOp Is str ref") => `(tactic| (k_here; refine wpAny_is_other (by rfl) (by intro x; cases x) ?_))
local macro_rules | `(tactic| k_mem) => `(tactic| assumption)
local macro_rules | `(tactic| walk_at "eval Name") => `(tactic| (k_here; (with_reducible show wpAny _ _ (eval (Expr.Name _ _) (envOf _ _ _ _ _)) _ _ _); k_dflt (refine' ld ?k1 ?k2 ?_; (case k1 => k_asm); (case k2 => first | exact rfl | assumption); k_whole)))
local macro_rules | `(tactic| walk_at "eval Name") => `(tactic| (k_here; (with_reducible show wpAny _ _ (eval (Expr.Name _ _) (envOfC _ _ _ _ _)) _ _ _); k_dflt (refine' nameX_L ?F ?v ?_ ?a ?b; (case F => k_asm); (case a => rfl); (case b => rfl); (case v => first | rfl | assumption); k_whole)))
local macro_rules | `(tactic| walk_at "call builtin:len") => `(tactic| (k_here; (with_reducible show wpAny _ _ (call (Value.builtin "len") [Value.ref _]) _ _ _); k_dflt (first | refine len_L (by k_asm) (by k_mem) (by omega) ?_ | refine len_T (by k_asm) (by k_mem) (by omega) ?_)))
local macro_rules | `(tactic| walk_at "subscriptTail") => `(tactic| (k_here; (with_reducible show wpAny _ _ (subscriptTail _ (PySem.Expr.Slice _ _ _ _) (Value.ref _) (Value.ref _)) _ _ _); refine Mine.Stop.on ?_))
local macro_rules | `(tactic| walk_at "compareOp Eq ref ref") => `(tactic| (refine Mine.Stop.on ?_))
local macro_rules | `(tactic| walk_at "compareOp NotEq ref ref") => `(tactic| (refine Mine.Stop.on ?_))
local macro_rules | `(tactic| walk_at "call type:list") => `(tactic| (k_here; k_dflt (refine list_of_tuple (by k_asm) (by k_asm) (by k_mem) (by omega) ?_); intro D' c' h' F' N' l1; (try k_sweep)))
local macro_rules | `(tactic| walk_at "call ref") => `(tactic| ((with_reducible show wpAny _ _ (call (Value.ref 306) _) _ _ _); refine Mine.Stop.on ?_))
local macro_rules | `(tactic| walk_at "call ref") => `(tactic| ((with_reducible show wpAny _ _ (call (Value.ref 166) _) _ _ _); refine Mine.Stop.on ?_))
local macro_rules | `(tactic| walk_at "CompSrc") => `(tactic| (refine Mine.Stop.on ?_))
theorem compEnd_one {h₀ h' : Heap} {L I C D T : Addr} {m : Str → Option Value} {s₁ : Shared} {oI oC oD o : Obj} {S : List (Addr × Obj) → Prop} {rest : Value → List (Addr × Obj) → Prop} {y : Value} {tk : Nat} {nx : List (Addr × Obj)}
    (F : Fr h₀ L h' m) (N : News h₀ L h' ((T, o) :: (I, oI) :: (C, oC) :: (D, oD) :: nx)) (off : LCg.Off3 I C D nx) (hT : I < T ∧ C < T ∧ D < T ∧ AllLt T nx) (hS : S ((T, o) :: nx)) (r : rest y ((T, o) :: nx)) :
    LCg.CompEnd h₀ L m s₁ I oI C oC D oD S rest y { s₁ with heap := h', toks := tk } := by
  refine LCg.CompEnd.intro F N ((T, o) :: nx) (fun p hp => ?_) ⟨⟨Nat.ne_of_gt hT.1, Nat.ne_of_gt hT.2.1, Nat.ne_of_gt hT.2.2.1⟩, off⟩ hS r
  rcases List.mem_cons.mp hp with rfl | hp
  · exact .tail _ (.head _)
  rcases List.mem_cons.mp hp with rfl | hp
  · exact .tail _ (.tail _ (.head _))
  rcases List.mem_cons.mp hp with rfl | hp
  · exact .tail _ (.tail _ (.tail _ (.head _)))
  rcases List.mem_cons.mp hp with rfl | hp
  · exact .head _
  · exact .tail _ (.tail _ (.tail _ (.tail _ hp)))
section
variable {prog : Program} {w : World} {base : Heap} {L fa : Addr} {cd : Value} {m : Str → Option Value} {s : Shared} {Q : Flow → Shared → Prop} {E : Value → Shared → Prop} {led : List (Addr × Obj)}
set_option maxRecDepth 100000
set_option maxHeartbeats 4000000
theorem told_spec {x : Str} {tx : Tok} {H : TrieHd} {nd ndA : List Nd} {P : List (List Str)} {O : List (Option (Str × Str))} {ks : List Str} {rest : List (Addr × Obj)} {f : Nat → Option Nat} {out : List TokD} {oT : Obj}
   (C : Cx (Mine.hd.heap_39 w.params) lawScope [] base base L s.heap m led) (hx : x.length ≤ 1000) (hx0 : x.length ≠ 0) (ha : x.cps.all (· < 128) = true)
   (hup : ∀ p ∈ hdObjs w.params 169 true H (adOf nd 0) ++ (objsOf 71 ndA ++ rest), p ∈ led) (hn : NodesOk prog w nd P) (hO : Outs 44 nd O rest) (hks : H.okd.IsDictOf (strKind prog w) (kvKnown ks)) (hlok : (H.kd == sysModules) = false)
   (hA : AutI prog w 44 nd ndA P (ex1 P ks) f) (hOl : ∀ (i : Nat) (ms ov : Str), O[i]? = some (some (ms, ov)) → ms.length ≤ 1000) (hf0 : f 0 = none) (hf : ∀ (i : Nat) (p : List Str), P[i]? = some p → p ≠ [] → f i = some (P.idxOf (fo P p)))
   (hb : AllBare s.gens) (hdn : ((iterOut P O ks true false x).map keyT).Nodup) (hn1 : 1 ≤ (iterOut P O ks true false x).length) (hn2 : (iterOut P O ks true false x).length < 64) (hfit : ∀ d ∈ iterOut P O ks true false x, TokFit d ∧ d.tx.length ≤ 1000 ∧ nonblank d.tx = true)
   (hCd : CodeHd base 235 231) (hP : TabSt 231 keyPos "Token.sort.<locals>.key" led) (hout : ∀ ds', ds'.Perm (iterOut P O ks true false x) → ds'.Pairwise KeyLt → ds'.Pairwise Lap ∧ filt ds' = out) (hol : out.length ≤ 64)
   (hc : (L + 1 + 1 + 1, oT) ∈ led) (hoT : oT.data = .cell (some (.str x tx))) (hm1 : m "trie" = some (.ref H.tr))
   (hE : PassesOwn (model prog w) (callerA.deeper (lawEnv L fa cd)) (lawEnv L fa cd) E)
   (hQ : ∀ h' tk' gs' D tv led', AllBare gs' → Cx (Mine.hd.heap_39 w.params) lawScope [] base base L h' (fun z => if z = "told" then some (.ref D) else m z) ((D, LCg.lst tv) :: led') → (∀ q ∈ led, q.1 ≠ 231 → q ∈ led') → (∀ p ∈ led', p.1 ≠ D) → TabSt 231 keyPos "Token.sort.<locals>.key" led' → TupsIn led' tv out → Q .next { s with gens := gs', heap := h', toks := tk' }) :
   wpAny (model prog w) (callerA.deeper (lawEnv L fa cd)) (exec (lawBody.getD 11 passS) (lawEnv L fa cd)) Q E s := by
  with_unfolding_all show wpAny _ (callerA.deeper (envOfC _ ⟨_, _, _, _, _⟩ _ _ _)) (exec (Stmt.Assign _ _ _) (envOfC _ ⟨_, _, _, _, _⟩ _ _ _)) _ _ _
  obtain ⟨⟨A1, B1⟩, F1, XB1, N1, ⟨p1, loose1, mean1, mg1, mb1, TB1⟩, D1, hk1⟩ := id C
  have X1 := XB1.keeps B1.stays
  have T1 := TB1.keeps B1.stays
  have htr : (H.tr, ({ cls := .ref 169, dict := some H.dx, data := .plain } : Obj)) ∈ led := hup _ (.head _)
  have hdx : (H.dx, dictOf (hdEnts w.params true H (adOf nd 0)) 3) ∈ led := hup _ (.tail _ (.head _))
  unfold hdEnts at hdx
  k_dflt (refine LCg.Assign_ListComp_U (F₀ := by k_asm) (by rfl) (by with_unfolding_all rfl) (by with_unfolding_all rfl) (by decide) (by rfl) (by decide) (by rfl) (by rfl) (by rfl) ?_)
  k_steps
  refine Stop.off ?_
  rename Fr _ _ _ _ => F2
  rename News _ _ _ _ => N2
  k_dflt (refine tokenize_spec (out := out) ⟨⟨_, B1⟩, F2, XB1, N2, ⟨_, _, _, _, _, TB1⟩, D1, hk1⟩ ?_ ?_ hx hx0 ha hup hn hO hks hlok hA hOl hf0 hf hb hdn hn1 hn2 hfit hCd hP hout ?_)
  · decide
  · decide
  intro h3 tk3 gs3 Dt ct vs3 led3 hb3 C3 hsub3 hlt3 hS3 hT3
  have F3 := C3.F
  have N3 := C3.N
  clear F2 N2
  try dsimp only
  have hvl := toks_len hT3
  k_dflt (refine LCg.CompSrc.ledger (by rfl) F3 N3 (.head _) (by rw [sizeLine_eq, List.size_toArray]; omega) (fun _ => rest_ind (fun j ys nx => (∀ p ∈ (Dt, listOf vs3.toArray ct) :: led3, p ∈ nx) ∧ TupsIn nx ys (out.take j) ∧ True) ?_ ?_ _ 0 _ _ (Nat.zero_add _) ⟨fun p hp => hp, .nil, trivial⟩))
  · rintro ys nx ⟨hnx, hys, -⟩ D2 h8 tk8 F8 N8 off8
    rw [List.size_toArray, List.take_of_length_le (Nat.le_of_eq hvl.symm)] at hys
    exact hQ h8 tk8 gs3 D2 ys nx hb3 ⟨⟨_, B1⟩, F8, XB1, N8, ⟨_, _, _, _, _, TB1⟩, D1, hk1⟩ (fun q hq hn => hnx _ (.tail _ (hsub3 q hq hn))) (fun p hp => off1_mem off8 p hp) (tabSt_mono hS3 fun p hp => hnx _ (.tail _ hp)) hys
  · rintro j ys nx v I' oI' C' oC' D' m₂ h' tk' E' hj ⟨hnx, hys, -⟩ hv hC' hxv F N off ne
    have hv' : vs3[j]? = some v := by simpa using hv
    obtain ⟨d, hd1, hd2⟩ := toks_at hT3 hv'
    have hnext : out.take (j + 1) = out.take j ++ [d] := by rw [List.take_add_one, hd1]; rfl
    obtain ⟨ta, dx, en, st, txv, vl, rfl, hA1, hA2, ⟨ten, rfl⟩, ⟨tst, rfl⟩, ⟨ttx, rfl⟩, hvl⟩ := hd2
    have hA1' : (ta, tokObj 271 dx (.int d.en ten) (.int d.st tst) (.str d.tx ttx) vl) ∈ (I', oI') :: (C', oC') :: (D', LCg.lst ys) :: nx := .tail _ (.tail _ (.tail _ (hnx _ (.tail _ hA1))))
    have hA2' : (dx, dictOf [] 0) ∈ (I', oI') :: (C', oC') :: (D', LCg.lst ys) :: nx := .tail _ (.tail _ (.tail _ (hnx _ (.tail _ hA2))))
    unfold tokObj at hA1'
    have hS' : ∀ {T : Addr} {o : Obj}, LCg.SrcAt base Dt vs3.toArray ((T, o) :: nx) := fun {T o} => .inr ⟨_, .tail _ (hnx _ (.head _)), rfl, _, rfl⟩
    rcases hvd : d.vl with _ | y
    · rw [hvd] at hvl
      cases hvl
      k_steps
      rename Fr _ _ _ _ => F8
      rename News _ _ _ _ => N8
      refine compEnd_one F8 N8 off (by assumption) hS' ⟨fun p hp => .tail _ (hnx p hp), ?_, trivial⟩
      rw [hnext]
      exact tups_snoc ⟨_, _, _, _, .none, rfl, .head _, by rw [hvd]; rfl⟩ (tups_mono (fun p hp => .tail _ hp) hys)
    · rw [hvd] at hvl
      obtain ⟨tv, rfl⟩ := hvl
      k_steps
      rename Fr _ _ _ _ => F8
      rename News _ _ _ _ => N8
      refine compEnd_one F8 N8 off (by assumption) hS' ⟨fun p hp => .tail _ (hnx p hp), ?_, trivial⟩
      rw [hnext]
      exact tups_snoc ⟨_, _, _, _, .str y tv, rfl, .head _, by rw [hvd]; exact ⟨_, rfl⟩⟩ (tups_mono (fun p hp => .tail _ hp) hys)
end
end Mine
end
section
theorem Mine.switch_S65 : True := by
  w_top off
  trivial
open Lean Elab Tactic Meta PySem PySem.W PySem.Calls PyProof.Rows
set_option pp.deepTerms false
set_option pp.maxSteps 800
set_option pp.deepTerms.threshold 5
namespace Mine
local macro_rules | `(tactic| walk_at "exec For Name Name cons nil") => `(tactic| (refine Mine.Stop.on ?_))
local macro_rules | `(tactic| walk_at "exec For Name Call cons nil") => `(tactic| (refine Mine.Stop.on ?_))
local macro_rules | `(tactic| walk_at "exec Assign cons ListComp") => `(tactic| (refine Mine.Stop.on ?_))
local macro_rules | `(tactic| walk_at "LeaveC") => `(tactic| fail "here")
local macro_rules | `(tactic| k_room) => `(tactic| first | ktr_room | ((simp only [Mine.mark_depth, depth_under_make, depth_under_kw, depth_in1, depth_deeper, depth_caller]); (try dsimp only [ktrTop]); (try simp only [recursionLimit] at *); omega))
local macro_rules | `(tactic| k_all) => `(tactic| first | assumption | exact Mine.offLt (by assumption) | exact Mine.offLt2 (by assumption) (by assumption) | (refine List.forall_mem_append.mpr ⟨?a, ?b⟩; (case a => k_all); (case b => k_all)))
local macro_rules | `(tactic| walk_at "setItem ref str") => `(tactic| (k_here; k_dflt (refine' kda_setB (knd := PySem.strKind _ _) ?F ?N ?hm ?d (strKind_is _ _ _ _) ?z ?_; (case F => k_asm); (case N => k_asm); (case hm => k_mem); (case d => k_asm); (case z => k_asm)); intro h' o' F' N' hd'))
local macro_rules | `(tactic| walk_at "compareOp Is str ref") => `(tactic| (k_here; refine wpAny_is_other (by rfl) (by intro x; cases x) ?_))
local macro_rules | `(tactic| k_mem) => `(tactic| assumption)
local macro_rules | `(tactic| walk_at "eval Name") => `(tactic| (k_here; (with_reducible show wpAny _ _ (eval (Expr.Name _ _) (envOf _ _ _ _ _)) _ _ _); k_dflt (refine' ld ?k1 ?k2 ?_; (case k1 => k_asm); (case k2 => first | exact rfl | assumption); k_whole)))
local macro_rules | `(tactic| walk_at "eval Name") => `(tactic| (k_here; (with_reducible show wpAny _ _ (eval (Expr.Name _ _) (envOfC _ _ _ _ _)) _ _ _); k_dflt (refine' nameX_L ?F ?v ?_ ?a ?b; (case F => k_asm); (case a => rfl); (case b => rfl); (case v => first | rfl | assumption); k_whole)))
local macro_rules | `(tactic| walk_at "call builtin:len") => `(tactic| (k_here; (with_reducible show wpAny _ _ (call (Value.builtin "len") [Value.ref _]) _ _ _); k_dflt (first | refine len_L (by k_asm) (by k_mem) (by omega) ?_ | refine len_T (by k_asm) (by k_mem) (by omega) ?_)))
local macro_rules | `(tactic| walk_at "subscriptTail") => `(tactic| (k_here; (with_reducible show wpAny _ _ (subscriptTail _ (PySem.Expr.Slice _ _ _ _) (Value.ref _) (Value.ref _)) _ _ _); refine Mine.Stop.on ?_))
local macro_rules | `(tactic| walk_at "compareOp Eq ref ref") => `(tactic| (refine Mine.Stop.on ?_))
local macro_rules | `(tactic| walk_at "compareOp NotEq ref ref") => `(tactic| (refine Mine.Stop.on ?_))
local macro_rules | `(tactic| walk_at "call type:list") => `(tactic| (k_here; k_dflt (refine list_of_tuple (by k_asm) (by k_asm) (by k_mem) (by omega) ?_); intro D' c' h' F' N' l1; (try k_sweep)))
local macro_rules | `(tactic| walk_at "exec Assign cons ListComp") => `(tactic| (refine Mine.Stop.on ?_))
local macro_rules | `(tactic| walk_at "call type:zip") => `(tactic| (refine Mine.Stop.on ?_))
local macro_rules | `(tactic| walk_at "call builtin:str.join") => `(tactic| (refine Mine.Stop.on ?_))
local macro_rules | `(tactic| walk_at "call builtin:str.strip") => `(tactic| (refine Mine.Stop.on ?_))
local macro_rules | `(tactic| walk_at "subscriptTail") => `(tactic| ((with_reducible show wpAny _ _ (subscriptTail _ _ (Value.ref _) (Value.ref _)) _ _ _); refine Mine.Stop.on ?_))
def encV : Option Str → PyData
  | none => .none
  | some y => .str y
def encT (d : TokD) : PyData := .tuple [.int d.st, .int d.en, .str d.tx, encV d.vl]
theorem rd_val {led : List (Addr × Obj)} {o : Option Str} {v : Value} (h : ValIs o v) : Rd led v (encV o) := by
  cases o with
  | none => cases h; exact rd_none
  | some y => obtain ⟨t, rfl⟩ := h; exact rd_str y t
theorem rdAll_tups {led : List (Addr × Obj)} : ∀ {vs : List Value} {ds : List TokD}, TupsIn led vs ds → RdAll led vs (ds.map encT)
  | _, _, .nil => rdAll_nil
  | _, _, .cons ⟨_, t1, t2, t3, vl, e, h, hv⟩ r => rdAll_cons (e ▸ rd_tup h (rdAll_cons (rd_int _ t1) (rdAll_cons (rd_int _ t2) (rdAll_cons (rd_str _ t3) (rdAll_cons (rd_val hv) rdAll_nil))))) (rdAll_tups r)
def TokOk (d : TokD) : Prop := PyData.strOk d.tx = true ∧ ∀ y, d.vl = some y → PyData.strOk y = true
theorem encT_plain {d : TokD} (h : TokOk d) : plainN (encT d) = true := by
  have hv : plainN (encV d.vl) = true := by
    cases hq : d.vl with
    | none => rfl
    | some y => show plainN (.str y) = true; rw [plainN]; exact h.2 y hq
  unfold encT
  rw [plainN, plainAllN, plainAllN, plainAllN, plainAllN, plainAllN, hv, plainN, plainN, plainN, h.1]
  rfl
theorem encT_depth (d : TokD) : PyData.depth (encT d) ≤ 2 := by
  unfold encT
  rw [PyData.depth]
  have : PyData.depthAll [.int d.st, .int d.en, .str d.tx, encV d.vl] ≤ 1 := depthAll_le fun x hx => by
    simp only [List.mem_cons, List.not_mem_nil, or_false] at hx
    rcases hx with rfl | rfl | rfl | rfl
    · rw [PyData.depth]; omega
    · rw [PyData.depth]; omega
    · rw [PyData.depth]; omega
    · cases d.vl with
      | none => show PyData.depth .none ≤ 1; rw [PyData.depth]; omega
      | some y => show PyData.depth (.str y) ≤ 1; rw [PyData.depth]; omega
  omega
theorem tups_at {a : List (Addr × Obj)} : ∀ {vs : List Value} {ds : List TokD}, TupsIn a vs ds → ∀ {i : Nat} {v : Value}, vs[i]? = some v → ∃ d, ds[i]? = some d ∧ TokTup a v d
  | _, _, .nil, _, _, h => by simp at h
  | _, _, .cons (d := d) h _, 0, _, e => ⟨d, rfl, by have e' := Option.some.inj e; rw [← e']; exact h⟩
  | _, _, .cons _ h, i + 1, _, e => by simpa using tups_at h (i := i) (by simpa using e)
def betAt (text : Str) (out : List TokD) (i : Nat) : Str := Txt.slice text (some ((out.getD i ⟨0, 0, "", none⟩).en + 1)) (some (out.getD (i + 1) ⟨0, 0, "", none⟩).st)
theorem blanks_len {l : List Str} (h : ∀ y ∈ l, y = "" ∨ y = " " ∨ y = "  ") : (l.map (·.length)).sum ≤ 2 * l.length := by
  induction l with
  | nil => exact Nat.le_refl _
  | cons y l ih =>
    have := ih fun z hz => h z (.tail _ hz)
    have hy : y.length ≤ 2 := by rcases h y (.head _) with rfl | rfl | rfl <;> decide
    simp only [List.map_cons, List.sum_cons, List.length_cons]
    omega
theorem blanks_join {l : List Str} (h : ∀ y ∈ l, y = "" ∨ y = " " ∨ y = "  ") : ∀ c ∈ (Txt.join (Str.ofString "") l).cps.toList, c = 32 := by
  have h1 : ∀ y ∈ l, ∀ c ∈ y.cps.toList, c = 32 := by
    intro y hy c hc
    rcases h y hy with rfl | rfl | rfl
    · have hc' : c ∈ ([] : List Nat) := hc
      simp at hc'
    · have hc' : c ∈ ([32] : List Nat) := hc
      simpa using hc'
    · have hc' : c ∈ ([32, 32] : List Nat) := hc
      simpa using hc'
  have go : ∀ (m : List Str) (acc : Array Nat), (∀ y ∈ m, ∀ c ∈ y.cps.toList, c = 32) → (∀ c ∈ acc.toList, c = 32) → ∀ c ∈ (m.foldl (fun acc p => acc ++ (Str.ofString "").cps ++ p.cps) acc).toList, c = 32 := by
    intro m
    induction m with
    | nil => intro acc _ ha; exact ha
    | cons y m ih =>
      intro acc hm ha
      refine ih _ (fun z hz => hm z (.tail _ hz)) fun c hc => ?_
      rw [Array.toList_append, Array.toList_append] at hc
      rcases List.mem_append.mp hc with hc | hc
      · rcases List.mem_append.mp hc with hc | hc
        · exact ha c hc
        · have hc' : c ∈ ([] : List Nat) := hc
          simp at hc'
      · exact hm y (.head _) c hc
  intro c hc
  refine go (l.drop 1) (l.headD Str.empty).cps (fun y hy => h1 y (List.mem_of_mem_drop hy)) ?_ c hc
  cases l with
  | nil => intro c hc; have hc' : c ∈ ([] : List Nat) := hc; simp at hc'
  | cons y l => exact h1 y (.head _)
theorem join_len0 (ws : List Str) : (Txt.join (Str.ofString "") ws).length ≤ (ws.map (·.length)).sum := by
  rw [show Txt.join (Str.ofString "") ws = Str.join (Str.ofString "") ws from by simpa using join_plain_closes (Str.ofString "") ws]
  induction ws with
  | nil => exact Nat.le_refl _
  | cons x r ih =>
    cases r with
    | nil => rw [join_one]; simp
    | cons y r =>
      rw [join_cons_cons, str_app_len, str_app_len]
      have e : (Str.ofString "").length = 0 := rfl
      simp only [List.map_cons, List.sum_cons] at *
      omega
theorem strip_blanks {x : Str} (h : ∀ c ∈ x.cps.toList, c = 32) : Txt.stripChars x " " = "" := by
  unfold Txt.stripChars
  rw [PyProof.Rows.stripBy_eq]
  have e1 : List.takeWhile (Str.ofString " ").cps.contains x.cps.toList = x.cps.toList := by
    have : ∀ l : List Nat, (∀ c ∈ l, c = 32) → List.takeWhile (Str.ofString " ").cps.contains l = l := by
      intro l
      induction l with
      | nil => intro _; rfl
      | cons c l ih =>
        intro hl
        have hc := hl c (.head _)
        subst hc
        rw [List.takeWhile_cons_of_pos (by decide +kernel), ih fun d hd => hl d (.tail _ hd)]
    exact this _ h
  have e2 : stripLo (Str.ofString " ").cps.contains true x = x.length := by
    show (if true = true then (List.takeWhile (Str.ofString " ").cps.contains x.cps.toList).length else 0) = _
    rw [if_pos rfl, e1, Array.length_toList]; rfl
  have e3 : stripHi (Str.ofString " ").cps.contains true x x.length = x.length := by
    show (if true = true then x.length - (List.takeWhile (Str.ofString " ").cps.contains (List.drop x.length x.cps.toList).reverse).length else x.length) = _
    rw [if_pos rfl, List.drop_of_length_le (by rw [Array.length_toList]; exact Nat.le_refl _)]
    rfl
  show Builtin.Str.strSub x (stripLo (Str.ofString " ").cps.contains true x) (stripHi (Str.ofString " ").cps.contains true x (stripLo (Str.ofString " ").cps.contains true x)) = _
  rw [e2, e3]
  show Str.mk (x.cps.extract x.length x.length) = _
  rw [Array.extract_eq_empty_of_le (by omega)]
  rfl
section
variable {prog : Program} {w : World} {base : Heap} {L fa : Addr} {cd : Value} {m : Str → Option Value} {s : Shared} {Q : Flow → Shared → Prop} {E : Value → Shared → Prop} {led : List (Addr × Obj)}
set_option maxRecDepth 100000
set_option maxHeartbeats 4000000
theorem end_spec {x : Str} {tx : Tok} {tl dl : Addr} {tv dv : List Value} {tn dn : Nat} {out : List TokD} {oT : Obj} (C : Cx (Mine.hd.heap_39 w.params) lawScope [] base base L s.heap m led) (hx : x.length ≤ 1000)
   (ht : (tl, listOf tv.toArray tn) ∈ led) (htv : TupsIn led tv out) (hd : (dl, listOf dv.toArray dn) ∈ led) (hdv : TupsIn led dv out) (hok : ∀ d ∈ out, TokOk d) (hol : out.length ≤ 20) (hon : 1 ≤ out.length) (hen : ∀ d ∈ out, TokFit d)
   (hc : (L + 1 + 1 + 1, oT) ∈ led) (hoT : oT.data = .cell (some (.str x tx))) (hm1 : m "told" = some (.ref tl)) (hm2 : m "due" = some (.ref dl))
   (hbet : ∀ i, i + 1 < out.length → betAt x out i = "" ∨ betAt x out i = " " ∨ betAt x out i = "  ") (hfst : (out.getD 0 ⟨0, 0, "", none⟩).st = 0) (hlst : (out.getLastD ⟨0, 0, "", none⟩).en = (x.length : Int) - 1)
   (hE : PassesOwn (model prog w) (callerA.deeper (lawEnv L fa cd)) (lawEnv L fa cd) E)
   (hQ : ∀ h' tk' m' led', Cx (Mine.hd.heap_39 w.params) lawScope [] base base L h' m' led' → (∀ q ∈ led, q ∈ led') → Q (.ret (.bool true)) { s with heap := h', toks := tk' }) :
   wpAny (model prog w) (callerA.deeper (lawEnv L fa cd)) (execs (lawBody.drop 12) (lawEnv L fa cd)) Q E s := by
  with_unfolding_all show wpAny _ (callerA.deeper (envOfC _ ⟨_, _, _, _, _⟩ _ _ _)) (execs (_ :: _) (envOfC _ ⟨_, _, _, _, _⟩ _ _ _)) _ _ _
  obtain ⟨⟨A1, B1⟩, F1, XB1, N1, ⟨p1, loose1, mean1, mg1, mb1, TB1⟩, D1, hk1⟩ := id C
  have X1 := XB1.keeps B1.stays
  have T1 := TB1.keeps B1.stays
  have htl := tups_len htv
  have hdl := tups_len hdv
  k_steps
  refine Stop.off ?_
  have hpl : plainN (.list (out.map encT)) = true := by rw [plainN]; exact plainAllN_of fun d hd => by obtain ⟨e, he, rfl⟩ := List.mem_map.mp hd; exact encT_plain (hok e he)
  have hdp : PyData.depth (.list (out.map encT)) ≤ 60 := by
    rw [PyData.depth]
    have : PyData.depthAll (out.map encT) ≤ 2 := depthAll_le fun d hd => by obtain ⟨e, he, rfl⟩ := List.mem_map.mp hd; exact encT_depth e
    omega
  k_dflt (refine ne_rdN (c := true) N1 (rd_list ht (rdAll_tups htv)) (rd_list hd (rdAll_tups hdv)) hpl hpl hdp hdp (by show 4 + 3 + 64 < cLine; decide) ⟨fun _ => rfl, fun _ => rfl⟩ ?_)
  k_steps
  refine Stop.off ?_
  k_dflt (refine Assign_CompP (cl := _) (by with_unfolding_all rfl) (by with_unfolding_all rfl) (by rfl) (by decide) ?_)
  k_steps
  refine Stop.off ?_
  rename Fr _ _ _ _ => F2
  rename News _ _ _ _ => N2
  refine slice_list_from (a := 1) F2 N2 ht (by omega) rfl (by omega) ?_
  intro R h3 F3 N3 hR
  clear F2 N2
  k_steps
  refine Stop.off ?_
  rename Fr _ _ _ _ => F4
  rename News _ _ _ _ => N4
  have hlm : ∀ p ∈ led, p ∈ (R, listOf (tv.drop 1).toArray 0) :: led := fun p hp => .tail _ hp
  k_dflt (refine zip_comp (fun i ys => StrsAre ys ((List.range i).map (betAt x out))) (by rfl) (by rfl) (by decide) (by rfl) (by rfl) (by rfl) (by decide) (by rfl) (by rfl) F4 N4 (.tail _ ht) (.head _) (by omega) .nil ?_ ?_)
  · rintro i ys v1 v2 own C oC D m₂ h tk E' hi ⟨hv1, hv2⟩ hys hyl hC h1 h2 F N
    rw [List.getElem?_drop] at hv2
    obtain ⟨d1, hd1, T1, a1, a2, a3, vl1, rfl, hT1, hvl1⟩ := tups_at htv hv1
    obtain ⟨d2, hd2, T2, b1, b2, b3, vl2, rfl, hT2, hvl2⟩ := tups_at htv hv2
    have hup : ∀ p ∈ led, p ∈ (C, oC) :: (D, LCg.lst ys) :: (own ++ (R, listOf (tv.drop 1).toArray 0) :: led) := fun p hp => .tail _ (.tail _ (List.mem_append_right _ (.tail _ hp)))
    have hc4 := hup _ hc
    have hT1' := hup _ hT1
    have hT2' := hup _ hT2
    unfold tupO at hT1' hT2'
    have hf1 := hen d1 (List.mem_of_getElem? hd1)
    have hf2 := hen d2 (List.mem_of_getElem? hd2)
    obtain ⟨f1, f2, f3⟩ := hf1
    obtain ⟨g1, g2, g3⟩ := hf2
    k_steps
    rename Fr _ _ _ _ => F8
    rename News _ _ _ _ => N8
    refine PEnd.intro F8 N8 ?_
    have e1 : out.getD i ⟨0, 0, "", none⟩ = d1 := by rw [List.getD_eq_getElem?_getD, hd1]; rfl
    have e2 : out.getD (i + 1) ⟨0, 0, "", none⟩ = d2 := by rw [List.getD_eq_getElem?_getD, show i + 1 = 1 + i by omega, hd2]; rfl
    have := strs_snoc hys (Txt.slice x (some (d1.en + 1)) (some d2.st))
    rw [List.range_succ, List.map_append]
    have e3 : List.map (betAt x out) [i] = [Txt.slice x (some (d1.en + 1)) (some d2.st)] := by show [Txt.slice x (some ((out.getD i ⟨0, 0, "", none⟩).en + 1)) (some (out.getD (i + 1) ⟨0, 0, "", none⟩).st)] = _; rw [e1, e2]
    rw [e3]
    exact this _
  · intro D h tk ys hj F N hlt
    have hmin : min tv.length (List.drop 1 tv).length = out.length - 1 := by rw [List.length_drop]; omega
    rw [hmin] at hj
    have hbl : ∀ y ∈ (List.range (out.length - 1)).map (betAt x out), y = "" ∨ y = " " ∨ y = "  " := by
      intro y hy
      obtain ⟨i, hi, rfl⟩ := List.mem_map.mp hy
      exact hbet i (by have := List.mem_range.mp hi; omega)
    have hsum := blanks_len hbl
    rw [List.length_map, List.length_range] at hsum
    have hbj := blanks_join hbl
    k_steps
    refine Stop.off ?_
    rename Fr _ _ _ _ => F6
    rename News _ _ _ _ => N6
    refine join_listW (PySem.IsL.isList (n := _) (N6 _ (.head _)).1) hj (by decide) (by rw [List.length_map, List.length_range]; omega) fun t' k => ?_
    k_steps
    refine Stop.off ?_
    refine PySem.W.KXw.stripChars (y := "") (strip_blanks hbj) ?_ fun t2 k2 => ?_
    · have := join_len0 ((List.range (out.length - 1)).map (betAt x out))
      rw [sizeLine_eq]
      omega
    have hnx : ∃ v0, tv[0]? = some v0 := ⟨tv[0]'(by omega), List.getElem?_eq_getElem (by omega)⟩
    obtain ⟨v0, hv0⟩ := hnx
    obtain ⟨d1, hd1, T1, a1, a2, a3, vl1, rfl, hT1, hvl1⟩ := tups_at htv hv0
    have hvl : tv.getLast? = some (tv[tv.length - 1]'(by omega)) := by rw [List.getLast?_eq_getElem?]; exact List.getElem?_eq_getElem (by omega)
    have hvl' : tv[tv.length - 1]? = some (tv[tv.length - 1]'(by omega)) := List.getElem?_eq_getElem (by omega)
    generalize tv[tv.length - 1]'(by omega) = vL at hvl hvl'
    obtain ⟨d2, hd2, T2, b1, b2, b3, vl2, rfl, hT2, hvl2⟩ := tups_at htv hvl'
    have hup : ∀ p ∈ led, p ∈ (D, LCg.lst ys) :: (R, listOf (tv.drop 1).toArray 0) :: led := fun p hp => .tail _ (.tail _ hp)
    have hc4 := hup _ hc
    have hT1' := hup _ hT1
    have hT2' := hup _ hT2
    unfold tupO at hT1' hT2'
    k_steps
    rename Fr _ _ _ _ => F8
    rename News _ _ _ _ => N8
    refine list_item (PySem.IsL.isList (n := _) (N8 _ (hup _ ht)).1) (by decide) (by decide) (v := .ref T1) (by simpa using hv0) ?_
    have e1 : out.getD 0 ⟨0, 0, "", none⟩ = d1 := by rw [List.getD_eq_getElem?_getD, hd1]; rfl
    have e2 : out.getLastD ⟨0, 0, "", none⟩ = d2 := by rw [htl, ← List.getLast?_eq_getElem?] at hd2; rw [List.getLastD_eq_getLast?, hd2]; rfl
    rw [e1] at hfst
    rw [e2] at hlst
    rw [hfst] at hT1'
    rw [hlst] at hT2'
    k_steps
    refine neg1_get N8 (hup _ ht) (v := .ref T2) hvl ?_
    k_steps
    rename Fr _ _ _ _ => F9
    rename News _ _ _ _ => N9
    have hb : ((x.length : Int) - 1 == (x.length : Int) - 1) = true := beq_self_eq_true _
    rw [hb]
    exact hQ _ _ _ _ ⟨⟨_, B1⟩, F9, XB1, N9, ⟨_, _, _, _, _, TB1⟩, D1, hk1⟩ hup
end
end Mine
end
section
open Lean Elab Tactic Meta PySem PySem.W PySem.Calls PyProof.Rows
set_option pp.deepTerms false
set_option pp.maxSteps 800
set_option pp.deepTerms.threshold 5
namespace Mine
/-! the law's text: what is read out of it -/
set_option maxRecDepth 100000
def tU (ns : List Int) (starts : List Nat) (words : List Str) (i : Nat) : Str := (textUp ns starts words i).1
theorem tU_succ (ns : List Int) (starts : List Nat) (words : List Str) (i : Nat) : tU ns starts words (i + 1) = tU ns starts words i ++ gapOf ns starts words i ++ wordAs ns words i := rfl
theorem gap_cases (ns : List Int) (starts : List Nat) (words : List Str) (i : Nat) : (gapOf ns starts words i = "" ∧ (i = 0 ∨ isNear starts words i = true)) ∨ gapOf ns starts words i = " " ∨ gapOf ns starts words i = "  " := by
  unfold gapOf
  split
  · rename_i h
    exact .inl ⟨rfl, h.imp id fun h => h.1⟩
  · split
    · exact .inr (.inr rfl)
    · exact .inr (.inl rfl)
theorem gap_far {ns : List Int} {starts : List Nat} {words : List Str} {i : Nat} (h0 : 0 < i) (h : i ∉ starts) : gapOf ns starts words i = " " := by
  unfold gapOf
  rw [if_neg, if_neg]
  · unfold isFar; simp [h]
  · unfold isNear
    rintro (q | ⟨q, _⟩)
    · omega
    · simp [h] at q
theorem gap_zero (ns : List Int) (starts : List Nat) (words : List Str) : gapOf ns starts words 0 = "" := by
  unfold gapOf; rw [if_pos (.inl rfl)]
def menuOk (y : Str) : Bool := y.cps.toList.all (fun c => decide (c < 128 ∧ up1 c < 128 ∧ lo1 c = c ∧ lo1 (up1 c) = c ∧ Unicode.isSpace c = false ∧ Unicode.isSpace (up1 c) = false)) && okWord y
theorem menu_all : ∀ y ∈ lawWords, menuOk y = true := by decide +kernel
theorem menu_char {y : Str} (hy : y ∈ lawWords) {c : Nat} (hc : c ∈ y.cps.toList) : c < 128 ∧ up1 c < 128 ∧ lo1 c = c ∧ lo1 (up1 c) = c ∧ Unicode.isSpace c = false ∧ Unicode.isSpace (up1 c) = false := by
  have := menu_all y hy
  unfold menuOk at this
  simp only [Bool.and_eq_true] at this
  exact of_decide_eq_true (List.all_eq_true.mp this.1 c hc)
theorem getD_mem {words : List Str} {i : Nat} (hi : i < words.length) : words.getD i "" ∈ words := by
  rw [List.getD_eq_getElem?_getD, List.getElem?_eq_getElem hi]
  exact List.getElem_mem hi
theorem getD_get {words : List Str} {i : Nat} (hi : i < words.length) : words[i]? = some (words.getD i "") := by
  rw [List.getD_eq_getElem?_getD, List.getElem?_eq_getElem hi]; rfl
section
variable {ns : List Int} {starts : List Nat} {words : List Str}
theorem wordAs_codes (hww : ∀ y ∈ words, y ∈ lawWords) {i : Nat} (hi : i < words.length) : ∃ f : Nat → Nat, (wordAs ns words i).cps.toList = (words.getD i "").cps.toList.map f ∧ ∀ c ∈ (words.getD i "").cps.toList, f c < 128 ∧ lo1 (f c) = c ∧ Unicode.isSpace (f c) = false := by
  have hm := hww _ (getD_mem hi)
  unfold wordAs
  split
  · refine ⟨up1, ?_, fun c hc => ⟨(menu_char hm hc).2.1, (menu_char hm hc).2.2.2.1, (menu_char hm hc).2.2.2.2.2⟩⟩
    rw [upper_ascii fun c hc => (menu_char hm hc).1]
    exact Array.toList_map
  · exact ⟨id, by simp, fun c hc => ⟨(menu_char hm hc).1, (menu_char hm hc).2.2.1, (menu_char hm hc).2.2.2.2.1⟩⟩
theorem wordAs_leng (hww : ∀ y ∈ words, y ∈ lawWords) {i : Nat} (hi : i < words.length) : (wordAs ns words i).length = (words.getD i "").length := by
  obtain ⟨f, hf, -⟩ := wordAs_codes (ns := ns) hww hi
  show (wordAs ns words i).cps.size = (words.getD i "").cps.size
  rw [← Array.length_toList, hf, List.length_map, Array.length_toList]
theorem tU_len (hww : ∀ y ∈ words, y ∈ lawWords) {i : Nat} (hi : i < words.length) : (tU ns starts words (i + 1)).length = (tU ns starts words i).length + (gapOf ns starts words i).length + (words.getD i "").length := by
  rw [tU_succ, str_app_len, str_app_len, wordAs_leng hww hi]
theorem gap_codes (ns : List Int) (starts : List Nat) (words : List Str) (i : Nat) : ∀ c ∈ (gapOf ns starts words i).cps.toList, c = 32 := by
  intro c hc
  rcases gap_cases ns starts words i with ⟨h, -⟩ | h | h
  · rw [h] at hc; have hc' : c ∈ ([] : List Nat) := hc; simp at hc'
  · rw [h] at hc; have hc' : c ∈ ([32] : List Nat) := hc; simpa using hc'
  · rw [h] at hc; have hc' : c ∈ ([32, 32] : List Nat) := hc; simpa using hc'
theorem tU_ascii (hww : ∀ y ∈ words, y ∈ lawWords) : ∀ i, i ≤ words.length → ∀ c ∈ (tU ns starts words i).cps.toList, c < 128
  | 0, _ => by intro c hc; have hc' : c ∈ ([] : List Nat) := hc; simp at hc'
  | i + 1, hi => by
    intro c hc
    rw [tU_succ, cps_app, cps_app] at hc
    rcases List.mem_append.mp hc with hc | hc
    · rcases List.mem_append.mp hc with hc | hc
      · exact tU_ascii hww i (by omega) c hc
      · rw [gap_codes ns starts words i c hc]; decide
    · obtain ⟨f, hf, hf2⟩ := wordAs_codes (ns := ns) hww (i := i) (by omega)
      rw [hf] at hc
      obtain ⟨d, hd, rfl⟩ := List.mem_map.mp hc
      exact (hf2 d hd).1
/-! the splitting -/
def gapToks (g : Str) : List Str := if g = "" then [] else [g]
def tokU (ns : List Int) (starts : List Nat) (words : List Str) (i : Nat) : List Str := gapToks (gapOf ns starts words i) ++ [words.getD i ""]
def kindU (words : List Str) (i : Nat) : Str := if i = 0 then "" else wkind (words.getD (i - 1) "")
theorem par_kind {y : Str} (h : isPar y = true) : y.cps.toList = [40] ∨ y.cps.toList = [41] := by
  unfold isPar at h
  rcases of_decide_eq_true h with rfl | rfl
  · exact .inl rfl
  · exact .inr rfl
theorem par_wkind {y : Str} (h : isPar y = true) : wkind y = "parens" := by
  unfold wkind; rw [if_pos (par_kind h)]
theorem fold_word2 {y : Str} (hw : okWord y = true) {st : List Str × Str} (hst : st.2 ≠ "text" ∨ isPar y = true) : y.cps.toList.foldl splitStep st = (st.1 ++ [y], wkind y) := by
  rcases hst with hst | hp
  · exact fold_word hw hst
  · have hk := par_kind hp
    have : ∀ c, (c = 40 ∨ c = 41) → y.cps.toList = [c] → y.cps.toList.foldl splitStep st = (st.1 ++ [y], ("parens" : Str)) := fun c hc e => by
      have ew : y = ⟨#[c]⟩ := by rw [← str_eta y, e]
      rw [e, List.foldl_cons, List.foldl_nil, step_par (by unfold kindOf; rw [if_pos hc]), ew]
    rw [par_wkind hp]
    rcases hk with hk | hk
    · exact this 40 (.inl rfl) hk
    · exact this 41 (.inr rfl) hk
theorem fold_gap {g : Str} (h : g = " " ∨ g = "  ") {st : List Str × Str} (hst : st.2 ≠ "space") : g.cps.toList.foldl splitStep st = (st.1 ++ [g], Str.ofString "space") := by
  rw [fold_seg (k := "space") (by decide) (w := g.cps.toList) (by rcases h with rfl | rfl <;> exact List.cons_ne_nil _ _) (fun c hc => ?_) hst, str_eta]
  have : c = 32 := by
    rcases h with rfl | rfl
    · have hc' : c ∈ ([32] : List Nat) := hc; simpa using hc'
    · have hc' : c ∈ ([32, 32] : List Nat) := hc; simpa using hc'
  rw [this]; exact blank_kind
theorem gap_lo (i : Nat) : (gapOf ns starts words i).cps.toList.map lo1 = (gapOf ns starts words i).cps.toList := by
  refine (List.map_congr_left (g := id) fun c hc => ?_).trans (List.map_id _)
  rw [gap_codes ns starts words i c hc]; decide
theorem word_lo (hww : ∀ y ∈ words, y ∈ lawWords) {i : Nat} (hi : i < words.length) : (wordAs ns words i).cps.toList.map lo1 = (words.getD i "").cps.toList := by
  obtain ⟨f, hf, hf2⟩ := wordAs_codes (ns := ns) hww hi
  rw [hf, List.map_map]
  exact (List.map_congr_left (g := id) fun c hc => (hf2 c hc).2.1).trans (List.map_id _)
theorem split_up (hww : ∀ y ∈ words, y ∈ lawWords) : ∀ i, i ≤ words.length → ((tU ns starts words i).cps.toList.map lo1).foldl splitStep ([], "") = ((List.range i).flatMap (tokU ns starts words), kindU words i)
  | 0, _ => rfl
  | i + 1, hi => by
    have hk : kindU words i ≠ "space" := by
      unfold kindU
      split
      · decide
      · exact wkind_ne _
    rw [tU_succ, cps_app, cps_app, List.map_append, List.map_append, List.foldl_append, List.foldl_append, split_up hww i (by omega), gap_lo, word_lo hww (by omega), List.range_succ, List.flatMap_append]
    have e2 : [i].flatMap (tokU ns starts words) = tokU ns starts words i := by simp
    have e3 : kindU words (i + 1) = wkind (words.getD i "") := rfl
    have hok : okWord (words.getD i "") = true := menu_ok _ (hww _ (getD_mem (by omega)))
    rw [e2, e3]
    unfold tokU
    rcases gap_cases ns starts words i with ⟨h, h2⟩ | h
    · have e : gapToks (gapOf ns starts words i) = [] := by rw [h]; rfl
      rw [e, h]
      have e4 : (Str.ofString "").cps.toList = [] := rfl
      rw [e4, List.foldl_nil, fold_word2 hok]
      · rfl
      · show kindU words i ≠ "text" ∨ _
        rcases h2 with rfl | h2
        · exact .inl (by show Str.ofString "" ≠ Str.ofString "text"; decide)
        · unfold isNear at h2
          obtain ⟨-, h3, h4⟩ := of_decide_eq_true h2
          rcases h4 with h4 | h4
          · exact .inr h4
          · refine .inl ?_
            unfold kindU
            rw [if_neg (by omega), par_wkind h4]; decide
    · have e : gapToks (gapOf ns starts words i) = [gapOf ns starts words i] := by unfold gapToks; rw [if_neg]; rcases h with h | h <;> rw [h] <;> decide
      rw [e, fold_gap h hk, fold_word2 hok (.inl (by show Str.ofString "space" ≠ Str.ofString "text"; decide))]
      simp only [List.append_assoc]
theorem split_all (hww : ∀ y ∈ words, y ∈ lawWords) : splitTok (Txt.lower (tU ns starts words words.length)) = (List.range words.length).flatMap (tokU ns starts words) := by
  have h := split_up (ns := ns) (starts := starts) hww words.length (Nat.le_refl _)
  unfold splitTok splitAt
  rw [lower_ascii (tU_ascii hww _ (Nat.le_refl _))]
  have e : (List.take (Array.map lo1 (tU ns starts words words.length).cps).size (Array.map lo1 (tU ns starts words words.length).cps).toList) = (tU ns starts words words.length).cps.toList.map lo1 := by
    rw [← Array.length_toList, List.take_length, Array.toList_map]
  show (List.foldl splitStep ([], "") (List.take (Array.map lo1 (tU ns starts words words.length).cps).size (Array.map lo1 (tU ns starts words words.length).cps).toList)).1 = _
  rw [e, h]
/-! the run -/
def endI (ns : List Int) (starts : List Nat) (words : List Str) (i : Nat) : Int := ((tU ns starts words (i + 1)).length : Int) - 1
def endRows (rows : List (List Str)) (words : List Str) (i : Nat) : List (List Str) := (ends (words.take (i + 1))).filter fun q => decide (q ∈ rows)
def wordToks (rows : List (List Str)) (words : List Str) (x : Str) (i : Nat) (e : Int) : List TokD :=
  if endRows rows words i = [] then [tokOf x e (words.getD i "").length none] else (endRows rows words i).map fun q => tokOf x e (textOf q false).length (some (valOf q))
theorem blank2 : nonblank (Str.ofString "  ") = false := by decide +kernel
theorem step_gap {P : List (List Str)} {O : List (Option (Str × Str))} {ks : List Str} {u : Bool} {x : Str} {σ : List Str} {e : Int} {g : Str} (h : g = " " ∨ g = "  ") : iterStep P O ks u false x σ e g = ([], σ) := by
  unfold iterStep
  rw [if_pos ⟨rfl, by rcases h with rfl | rfl; exact blank_blank; exact blank2⟩]
theorem run_up {rows P : List (List Str)} {O : List (Option (Str × Str))} {ks : List Str} {x : Str} (h : InvA rows P O ks) (hn : P.Nodup) (hO : O.length = P.length) (hww : ∀ y ∈ words, y ∈ lawWords) : ∀ (k i : Nat), i + k = words.length →
    iterRun P O ks true false x ((List.range' i k).flatMap (tokU ns starts words)) (lng P (words.take i)) (((tU ns starts words i).length : Int) - 1) = (List.range' i k).flatMap fun j => wordToks rows words x j (endI ns starts words j)
  | 0, _, _ => rfl
  | k + 1, i, hk => by
    have hi : i < words.length := by omega
    have hok : okWord (words.getD i "") = true := menu_ok _ (hww _ (getD_mem hi))
    have ih := run_up h hn hO hww (x := x) k (i + 1) (by omega)
    rw [List.range'_succ, List.flatMap_cons, List.flatMap_cons]
    unfold tokU at ih ⊢
    have hl := tU_len (ns := ns) (starts := starts) hww hi
    have htk : words.take (i + 1) = words.take i ++ [words.getD i ""] := by rw [List.take_add_one, getD_get hi]; rfl
    have hwd : ∀ e : Int, e = ((tU ns starts words i).length : Int) - 1 + (gapOf ns starts words i).length → iterRun P O ks true false x (words.getD i "" :: (List.range' (i + 1) k).flatMap fun i => gapToks (gapOf ns starts words i) ++ [words.getD i ""]) (lng P (words.take i)) e = wordToks rows words x i (endI ns starts words i) ++ (List.range' (i + 1) k).flatMap fun j => wordToks rows words x j (endI ns starts words j) := by
      intro e he
      have e1 : e + (words.getD i "").length = endI ns starts words i := by unfold endI; omega
      rw [iterRun, step_word h hn hO _ hok, e1, ← htk]
      dsimp only
      rw [show endI ns starts words i = ((tU ns starts words (i + 1)).length : Int) - 1 from rfl, ih]
      congr 1
      unfold wordToks endRows
      split
      · rfl
      · rw [List.map_map]; rfl
    rcases gap_cases ns starts words i with ⟨hg, -⟩ | hg
    · have e : gapToks (gapOf ns starts words i) = [] := by rw [hg]; rfl
      rw [e]
      refine hwd _ ?_
      rw [hg]; exact (Int.add_zero _).symm
    · have e : gapToks (gapOf ns starts words i) = [gapOf ns starts words i] := by unfold gapToks; rw [if_neg]; rcases hg with h | h <;> rw [h] <;> decide
      rw [e]
      show iterRun P O ks true false x (gapOf ns starts words i :: words.getD i "" :: _) _ _ = _
      rw [iterRun, step_gap hg]
      exact hwd _ rfl
theorem iter_all {rows P : List (List Str)} {O : List (Option (Str × Str))} {ks : List Str} (h : InvA rows P O ks) (hn : P.Nodup) (hO : O.length = P.length) (hww : ∀ y ∈ words, y ∈ lawWords) :
    iterOut P O ks true false (tU ns starts words words.length) = (List.range words.length).flatMap fun j => wordToks rows words (tU ns starts words words.length) j (endI ns starts words j) := by
  unfold iterOut
  rw [split_all hww, List.range_eq_range']
  have := run_up (ns := ns) (starts := starts) (x := tU ns starts words words.length) h hn hO hww words.length 0 (Nat.zero_add _)
  rw [List.take_zero, lng_nil] at this
  exact this
end
end Mine
end
section
open Lean Elab Tactic Meta PySem PySem.W PySem.Calls PyProof.Rows
set_option pp.deepTerms false
set_option pp.maxSteps 800
set_option pp.deepTerms.threshold 5
namespace Mine
/-! runs and matches -/
set_option maxRecDepth 100000
def kkOf (rows : List (List Str)) : List Str := rows.map fun r => textOf r false
theorem text_inj {a b : List Str} (ha : OkWs a) (hb : OkWs b) (ha0 : a ≠ []) (hb0 : b ≠ []) (h : textOf a false = textOf b false) : a = b := by
  rw [← words_of_text ha ha0 false, ← words_of_text hb hb0 false, h]
theorem keyRows_ok : ∀ r ∈ keyRows, OkWs r ∧ 1 ≤ r.length ∧ r.length ≤ 3 := by
  have h : keyRows.all (fun r => r.all okWord && decide (1 ≤ r.length ∧ r.length ≤ 3)) = true := by decide +kernel
  intro r hr
  have := List.all_eq_true.mp h r hr
  simp only [Bool.and_eq_true] at this
  have h2 := of_decide_eq_true this.2
  exact ⟨fun w hw => List.all_eq_true.mp this.1 w hw, h2.1, h2.2⟩
/-- no row of two words or more begins inside another -/
theorem keyRows_apart : ∀ r ∈ keyRows, ∀ r' ∈ keyRows, 2 ≤ r'.length → ∀ j, 1 ≤ j → j < r.length → r.getD j "" ≠ r'.getD 0 "" := by
  have h : keyRows.all (fun r => keyRows.all fun r' => decide (2 ≤ r'.length → ∀ j < r.length, 1 ≤ j → r.getD j "" ≠ r'.getD 0 "")) = true := by decide +kernel
  intro r hr r' hr' h2 j hj1 hj2
  have := of_decide_eq_true (List.all_eq_true.mp (List.all_eq_true.mp h r hr) r' hr')
  exact this h2 j hj2 hj1
def RowsIn (rows : List (List Str)) : Prop := ∀ r ∈ rows, r ∈ keyRows
theorem seg_len {words : List Str} {a z : Nat} (h : a + z ≤ words.length) : (seg words a z).length = z := by
  unfold seg; rw [List.length_take, List.length_drop]; omega
theorem seg_get {words : List Str} {a z j : Nat} (hj : j < z) : (seg words a z).getD j "" = words.getD (a + j) "" := by
  unfold seg
  rw [List.getD_eq_getElem?_getD, List.getElem?_take_of_lt hj, List.getElem?_drop, ← List.getD_eq_getElem?_getD]
theorem seg_ok {words : List Str} (h : OkWs words) (a z : Nat) : OkWs (seg words a z) := fun w hw => h w (List.mem_of_mem_drop (List.mem_of_mem_take hw))
theorem seg_succ {words : List Str} {a z : Nat} (h : a + z < words.length) : seg words a (z + 1) = seg words a z ++ [words.getD (a + z) ""] := by
  unfold seg
  rw [List.take_add_one, List.getElem?_drop, getD_get h]; rfl
theorem seg_one {words : List Str} {a : Nat} (h : a < words.length) : seg words a 1 = [words.getD a ""] := by
  have := seg_succ (words := words) (a := a) (z := 0) (by omega)
  rw [this]; rfl
section
variable {rows : List (List Str)} {words : List Str}
def Hit (rows : List (List Str)) (words : List Str) (a z : Nat) : Prop := a + z ≤ words.length ∧ seg words a z ∈ rows
theorem hasW_iff (hr : RowsIn rows) (hw : OkWs words) {a z : Nat} (hz : 1 ≤ z) : hasW (kkOf rows) words a z = true ↔ Hit rows words a z := by
  unfold hasW Hit
  rw [decide_eq_true_eq]
  constructor
  · rintro ⟨h1, h2⟩
    refine ⟨h1, ?_⟩
    obtain ⟨r, hm, e⟩ := List.mem_map.mp h2
    have hl := seg_len h1
    have ok := keyRows_ok r (hr r hm)
    have := text_inj ok.1 (seg_ok hw a z) (by intro q; rw [q] at ok; exact absurd ok.2.1 (by decide)) (by intro q; rw [q] at hl; rw [List.length_nil] at hl; omega) e
    rw [← this]; exact hm
  · rintro ⟨h1, h2⟩
    exact ⟨h1, List.mem_map.mpr ⟨_, h2, rfl⟩⟩
theorem hit_le (hr : RowsIn rows) {a z : Nat} (h : Hit rows words a z) : 1 ≤ z ∧ z ≤ 3 := by
  have := keyRows_ok _ (hr _ h.2)
  rw [seg_len h.1] at this
  exact this.2
theorem sizeW_hit (hr : RowsIn rows) (hw : OkWs words) {a : Nat} : sizeW (kkOf rows) words a = 0 ∨ Hit rows words a (sizeW (kkOf rows) words a) := by
  unfold sizeW
  split
  · exact .inr ((hasW_iff hr hw (by decide)).mp (by assumption))
  · split
    · exact .inr ((hasW_iff hr hw (by decide)).mp (by assumption))
    · split
      · exact .inr ((hasW_iff hr hw (by decide)).mp (by assumption))
      · exact .inl rfl
theorem sizeW_le3 (kk words : List Str) (a : Nat) : sizeW kk words a ≤ 3 := by
  unfold sizeW; repeat' split
  all_goals decide
theorem sizeW_max (hr : RowsIn rows) (hw : OkWs words) {a z : Nat} (h : Hit rows words a z) : z ≤ sizeW (kkOf rows) words a := by
  obtain ⟨h1, h3⟩ := hit_le hr h
  have hh := (hasW_iff hr hw h1).mpr h
  unfold sizeW
  split
  · exact h3
  · split
    · rename_i n3 _
      have : z ≠ 3 := fun q => n3 (q ▸ hh)
      omega
    · split
      · rename_i n3 n2 _
        have : z ≠ 3 := fun q => n3 (q ▸ hh)
        have : z ≠ 2 := fun q => n2 (q ▸ hh)
        omega
      · rename_i n3 n2 n1
        have : z ≠ 3 := fun q => n3 (q ▸ hh)
        have : z ≠ 2 := fun q => n2 (q ▸ hh)
        have : z ≠ 1 := fun q => n1 (q ▸ hh)
        omega
/-! the runs part the words -/
theorem run_in {kk words : List Str} : ∀ (f a : Nat), ∀ p ∈ sizesRun kk words f a, p.2 = sizeW kk words p.1 ∧ a ≤ p.1 ∧ p.1 < words.length
  | 0, _, p, hp => by cases hp
  | f + 1, a, p, hp => by
    unfold sizesRun at hp
    split at hp
    · rcases List.mem_cons.mp hp with rfl | hp
      · exact ⟨rfl, Nat.le_refl _, by assumption⟩
      · obtain ⟨h1, h2, h3⟩ := run_in f _ p hp
        exact ⟨h1, by omega, h3⟩
    · cases hp
theorem run_cover {kk words : List Str} : ∀ (f a i : Nat), words.length - a ≤ f → a ≤ i → i < words.length → ∃ p ∈ sizesRun kk words f a, p.1 ≤ i ∧ i < p.1 + max 1 p.2
  | 0, _, _, h, _, _ => by omega
  | f + 1, a, i, h, h1, h2 => by
    unfold sizesRun
    rw [if_pos (by omega)]
    by_cases hi : i < a + max 1 (sizeW kk words a)
    · exact ⟨_, .head _, h1, hi⟩
    · obtain ⟨p, hp, h3⟩ := run_cover (kk := kk) f (a + max 1 (sizeW kk words a)) i (by omega) (by omega) h2
      exact ⟨p, .tail _ hp, h3⟩
theorem run_apart {kk words : List Str} : ∀ (f a : Nat), ∀ p ∈ sizesRun kk words f a, ∀ q ∈ sizesRun kk words f a, p.1 < q.1 → p.1 + max 1 p.2 ≤ q.1
  | 0, _, p, hp, _, _ => by cases hp
  | f + 1, a, p, hp, q, hq => by
    intro hlt
    unfold sizesRun at hp hq
    split at hp
    · rw [if_pos (by assumption)] at hq
      rcases List.mem_cons.mp hp with rfl | hp
      · rcases List.mem_cons.mp hq with rfl | hq
        · exact absurd hlt (Nat.lt_irrefl _)
        · exact (run_in f _ q hq).2.1
      · have := (run_in f _ p hp).2.1
        rcases List.mem_cons.mp hq with rfl | hq
        · dsimp only at hlt ⊢; omega
        · exact run_apart f _ p hp q hq hlt
    · cases hp
theorem run_next {kk words : List Str} : ∀ (f a i : Nat) (p q : Nat × Nat), (sizesRun kk words f a)[i]? = some p → (sizesRun kk words f a)[i + 1]? = some q → q.1 = p.1 + max 1 p.2
  | 0, _, i, p, q, hp, _ => by simp [sizesRun] at hp
  | f + 1, a, i, p, q, hp, hq => by
    unfold sizesRun at hp hq
    split at hp
    · rw [if_pos (by assumption)] at hq
      rw [List.getElem?_cons_succ] at hq
      cases i with
      | zero =>
        rw [List.getElem?_cons_zero] at hp
        have hp := Option.some.inj hp
        subst hp
        cases f with
        | zero => simp [sizesRun] at hq
        | succ f =>
          unfold sizesRun at hq
          split at hq
          · rw [List.getElem?_cons_zero] at hq
            have hq := Option.some.inj hq
            subst hq; rfl
          · simp at hq
      | succ i =>
        rw [List.getElem?_cons_succ] at hp
        exact run_next f _ i p q hp hq
    · simp at hp
theorem run_last {kk words : List Str} : ∀ (f a : Nat) (p : Nat × Nat), words.length - a ≤ f → (sizesRun kk words f a).getLast? = some p → p.1 + max 1 p.2 = words.length
  | 0, _, p, _, hp => by simp [sizesRun] at hp
  | f + 1, a, p, hf, hp => by
    unfold sizesRun at hp
    split at hp
    · rename_i hlt
      have hle := sizeW_le (kk := kk) (words := words) (a := a) (by omega)
      rw [List.getLast?_cons] at hp
      cases h : (sizesRun kk words f (a + max 1 (sizeW kk words a))).getLast? with
      | none =>
        rw [h] at hp
        have hp := Option.some.inj hp
        have hp : (a, sizeW kk words a) = p := hp
        subst hp
        have hnil := List.getLast?_eq_none_iff.mp h
        by_cases hq : a + max 1 (sizeW kk words a) < words.length
        · cases f with
          | zero => omega
          | succ f => unfold sizesRun at hnil; rw [if_pos hq] at hnil; cases hnil
        · dsimp only; omega
      | some q =>
        rw [h] at hp
        have hp := Option.some.inj hp
        have hp : q = p := hp
        subst hp
        exact run_last f _ q (by omega) h
    · simp at hp
theorem run_len {kk words : List Str} : ∀ (f a : Nat), (sizesRun kk words f a).length ≤ words.length - a
  | 0, _ => Nat.zero_le _
  | f + 1, a => by
    unfold sizesRun
    split
    · have := run_len (kk := kk) (words := words) f (a + max 1 (sizeW kk words a))
      rw [List.length_cons]; omega
    · exact Nat.zero_le _
def runs (rows : List (List Str)) (words : List Str) : List (Nat × Nat) := sizesAll (kkOf rows) words
def startsOf (rows : List (List Str)) (words : List Str) : List Nat := (runs rows words).map (·.1)
theorem runs_mem {p : Nat × Nat} (h : p ∈ runs rows words) : p.2 = sizeW (kkOf rows) words p.1 ∧ p.1 < words.length := by
  have := run_in _ _ p h
  exact ⟨this.1, this.2.2⟩
theorem starts_mem {a : Nat} (h : a ∈ startsOf rows words) : (a, sizeW (kkOf rows) words a) ∈ runs rows words := by
  obtain ⟨p, hp, rfl⟩ := List.mem_map.mp h
  have := (runs_mem hp).1
  rw [← this]; exact hp
theorem mem_starts {p : Nat × Nat} (h : p ∈ runs rows words) : p.1 ∈ startsOf rows words := List.mem_map.mpr ⟨p, h, rfl⟩
theorem inner_not {p : Nat × Nat} {i : Nat} (h : p ∈ runs rows words) (h1 : p.1 < i) (h2 : i < p.1 + max 1 p.2) : i ∉ startsOf rows words := by
  intro hi
  have := run_apart _ _ p h _ (starts_mem hi) h1
  dsimp only at this
  omega
/-- a match of two words or more begins where a run begins -/
theorem hit_start (hr : RowsIn rows) (hw : OkWs words) {a z : Nat} (h : Hit rows words a z) (hz : 2 ≤ z) : (a, sizeW (kkOf rows) words a) ∈ runs rows words := by
  obtain ⟨p, hp, h1, h2⟩ := run_cover (kk := kkOf rows) (words := words) words.length 0 a (by omega) (Nat.zero_le _) (by have := h.1; omega)
  have hp : p ∈ runs rows words := hp
  obtain ⟨e, hl⟩ := runs_mem hp
  by_cases ha : p.1 = a
  · rw [← ha, ← e]; exact hp
  · exfalso
    have hs : sizeW (kkOf rows) words p.1 ≠ 0 := by omega
    rcases sizeW_hit hr hw (a := p.1) with q | hh
    · exact hs q
    · refine keyRows_apart _ (hr _ hh.2) _ (hr _ h.2) (by rw [seg_len h.1]; exact hz) (a - p.1) (by omega) (by rw [seg_len hh.1]; omega) ?_
      rw [seg_get (by omega), seg_get (by omega)]
      congr 1
      omega
theorem hit_inner (hr : RowsIn rows) (hw : OkWs words) {a z i : Nat} (h : Hit rows words a z) (h1 : a < i) (h2 : i < a + z) : i ∉ startsOf rows words := by
  have hs := hit_start hr hw h (by omega)
  have hm := sizeW_max hr hw h
  exact inner_not hs h1 (by dsimp only; omega)
end
end Mine
end
section
open Lean Elab Tactic Meta PySem PySem.W PySem.Calls PyProof.Rows
set_option pp.deepTerms false
set_option pp.maxSteps 800
set_option pp.deepTerms.threshold 5
namespace Mine
/-! the tokens, as places and sizes -/
set_option maxRecDepth 100000
theorem ends_rows {rows : List (List Str)} (h1 : ∀ r ∈ rows, 1 ≤ r.length ∧ r.length ≤ 3) : ∀ t : List Str, (ends t).filter (fun q => decide (q ∈ rows)) = [3, 2, 1].flatMap fun z => if z ≤ t.length ∧ t.drop (t.length - z) ∈ rows then [t.drop (t.length - z)] else [] := by
  have h0 : [] ∉ rows := fun h => absurd (h1 _ h).1 (by decide)
  intro t
  induction t with
  | nil => simp [ends, h0]
  | cons y l ih =>
    by_cases hl : 3 ≤ l.length
    · have hh : y :: l ∉ rows := fun h => by have := (h1 _ h).2; simp only [List.length_cons] at this; omega
      rw [ends_cons, List.filter_cons, decide_eq_false hh]
      have e : ∀ z, z ≤ 3 → (if z ≤ (y :: l).length ∧ (y :: l).drop ((y :: l).length - z) ∈ rows then [(y :: l).drop ((y :: l).length - z)] else []) = (if z ≤ l.length ∧ l.drop (l.length - z) ∈ rows then [l.drop (l.length - z)] else []) := fun z hz => by
        have e1 : (y :: l).length - z = (l.length - z) + 1 := by simp only [List.length_cons]; omega
        rw [e1, List.drop_succ_cons]
        have e2 : z ≤ (y :: l).length := by simp only [List.length_cons]; omega
        have e3 : z ≤ l.length := by omega
        simp only [e2, e3, true_and]
      simp only [List.flatMap_cons, List.flatMap_nil] at ih ⊢
      rw [e 3 (by decide), e 2 (by decide), e 1 (by decide)]
      exact ih
    · match l, hl with
      | [], _ => by_cases a1 : [y] ∈ rows <;> simp [ends, h0, a1]
      | [b], _ => by_cases a1 : [y, b] ∈ rows <;> by_cases a2 : [b] ∈ rows <;> simp [ends, h0, a1, a2]
      | [b, c], _ => by_cases a1 : [y, b, c] ∈ rows <;> by_cases a2 : [b, c] ∈ rows <;> by_cases a3 : [c] ∈ rows <;> simp [ends, h0, a1, a2, a3]
      | _ :: _ :: _ :: _, hl => exact absurd (by simp only [List.length_cons]; omega) hl
theorem flat_if {α β : Type} (c : α → Prop) [DecidablePred c] (f : α → β) : ∀ l : List α, (l.flatMap fun z => if c z then [f z] else []) = (l.filter fun z => decide (c z)).map f
  | [] => rfl
  | z :: l => by
    rw [List.flatMap_cons, flat_if c f l, List.filter_cons]
    by_cases h : c z
    · rw [if_pos h, decide_eq_true h]; rfl
    · rw [if_neg h, decide_eq_false h]; rfl
def hitsAt (rows : List (List Str)) (words : List Str) (i : Nat) : List Nat := [3, 2, 1].filter fun z => decide (z ≤ i + 1 ∧ seg words (i + 1 - z) z ∈ rows)
def pairsAt (rows : List (List Str)) (words : List Str) (i : Nat) : List (Nat × Nat) := if hitsAt rows words i = [] then [(i, 0)] else (hitsAt rows words i).map fun z => (i + 1 - z, z)
def pairsAll (rows : List (List Str)) (words : List Str) : List (Nat × Nat) := (List.range words.length).flatMap (pairsAt rows words)
theorem endRows_hits {rows : List (List Str)} {words : List Str} (hr : RowsIn rows) {i : Nat} (hi : i < words.length) : endRows rows words i = (hitsAt rows words i).map fun z => seg words (i + 1 - z) z := by
  unfold endRows hitsAt
  rw [ends_rows (fun r h => (keyRows_ok r (hr r h)).2), ← flat_if (fun z => z ≤ i + 1 ∧ seg words (i + 1 - z) z ∈ rows) (fun z => seg words (i + 1 - z) z)]
  have hl : (words.take (i + 1)).length = i + 1 := by rw [List.length_take]; omega
  rw [hl]
  have e : ∀ z ∈ [3, 2, 1], (if z ≤ i + 1 ∧ (words.take (i + 1)).drop (i + 1 - z) ∈ rows then [(words.take (i + 1)).drop (i + 1 - z)] else []) = (if z ≤ i + 1 ∧ seg words (i + 1 - z) z ∈ rows then [seg words (i + 1 - z) z] else []) := by
    intro z _
    by_cases hz : z ≤ i + 1
    · have e1 : (words.take (i + 1)).drop (i + 1 - z) = seg words (i + 1 - z) z := by
        unfold seg
        rw [List.drop_take]
        congr 1
        omega
      rw [e1]
    · rw [if_neg (fun q => hz q.1), if_neg (fun q => hz q.1)]
  simp only [List.flatMap_cons, List.flatMap_nil]
  rw [e 3 (by decide), e 2 (by decide), e 1 (by decide)]
theorem hitsAt_mem {rows : List (List Str)} {words : List Str} (hr : RowsIn rows) {i z : Nat} (hi : i < words.length) : z ∈ hitsAt rows words i ↔ 1 ≤ z ∧ z ≤ i + 1 ∧ Hit rows words (i + 1 - z) z := by
  unfold hitsAt
  rw [List.mem_filter, decide_eq_true_eq]
  constructor
  · rintro ⟨h1, h2, h3⟩
    have hz : 1 ≤ z := by simp only [List.mem_cons, List.not_mem_nil, or_false] at h1; omega
    exact ⟨hz, h2, by omega, h3⟩
  · rintro ⟨h1, h2, h3⟩
    have := hit_le hr h3
    refine ⟨?_, h2, h3.2⟩
    simp only [List.mem_cons, List.not_mem_nil, or_false]
    omega
def fin1 (p : Nat × Nat) : Nat := p.1 + max 1 p.2 - 1
def IsPair (rows : List (List Str)) (words : List Str) (p : Nat × Nat) : Prop := (p.2 = 0 ∧ p.1 < words.length ∧ ∀ a z, Hit rows words a z → a + z ≠ p.1 + 1) ∨ (1 ≤ p.2 ∧ Hit rows words p.1 p.2)
theorem pairsAt_mem {rows : List (List Str)} {words : List Str} (hr : RowsIn rows) {i : Nat} (hi : i < words.length) {p : Nat × Nat} : p ∈ pairsAt rows words i ↔ IsPair rows words p ∧ fin1 p = i := by
  unfold pairsAt IsPair
  constructor
  · intro h
    split at h
    · rename_i hn
      rw [List.mem_singleton] at h
      subst h
      refine ⟨.inl ⟨rfl, hi, fun a z hh e => ?_⟩, ?_⟩
      · have hz := hit_le hr hh
        have e : a + z = i + 1 := e
        have : z ∈ hitsAt rows words i := (hitsAt_mem hr hi).mpr ⟨hz.1, by omega, by rw [show i + 1 - z = a by omega]; exact hh⟩
        rw [hn] at this; cases this
      · show i + max 1 0 - 1 = i
        omega
    · obtain ⟨z, hz, rfl⟩ := List.mem_map.mp h
      obtain ⟨h1, h2, h3⟩ := (hitsAt_mem hr hi).mp hz
      refine ⟨.inr ⟨h1, h3⟩, ?_⟩
      show i + 1 - z + max 1 z - 1 = i
      omega
  · rintro ⟨h | h, hf⟩
    · obtain ⟨h1, h2, h3⟩ := h
      unfold fin1 at hf
      have hp : p = (i, 0) := by
        obtain ⟨a, z⟩ := p
        dsimp only at *
        subst h1
        rw [show a = i by omega]
      subst hp
      have : hitsAt rows words i = [] := by
        cases hh : hitsAt rows words i with
        | nil => rfl
        | cons z r =>
          have hz := (hitsAt_mem hr hi (z := z)).mp (by rw [hh]; exact .head _)
          exact absurd (show i + 1 - z + z = i + 1 by omega) (h3 _ _ hz.2.2)
      rw [if_pos this]
      exact .head _
    · obtain ⟨h1, h2⟩ := h
      unfold fin1 at hf
      have hz : p.2 ∈ hitsAt rows words i := (hitsAt_mem hr hi).mpr ⟨h1, by omega, by rw [show i + 1 - p.2 = p.1 by omega]; exact h2⟩
      rw [if_neg (fun q => by rw [q] at hz; cases hz)]
      refine List.mem_map.mpr ⟨p.2, hz, ?_⟩
      obtain ⟨a, z⟩ := p
      dsimp only at *
      congr 1
      omega
theorem pairLt {rows : List (List Str)} {words : List Str} {p : Nat × Nat} (h : IsPair rows words p) : p.1 ≤ fin1 p ∧ fin1 p < words.length ∧ p.1 + max 1 p.2 = fin1 p + 1 := by
  unfold fin1
  rcases h with ⟨h1, h2, -⟩ | ⟨h1, h2, -⟩ <;> omega
theorem pairsAll_mem {rows : List (List Str)} {words : List Str} (hr : RowsIn rows) {p : Nat × Nat} : p ∈ pairsAll rows words ↔ IsPair rows words p := by
  unfold pairsAll
  rw [List.mem_flatMap]
  constructor
  · rintro ⟨i, hi, hp⟩
    exact ((pairsAt_mem hr (List.mem_range.mp hi)).mp hp).1
  · intro h
    have := (pairLt h).2.1
    exact ⟨fin1 p, List.mem_range.mpr this, (pairsAt_mem hr this).mpr ⟨h, rfl⟩⟩
theorem pairsAt_len (rows : List (List Str)) (words : List Str) (i : Nat) : 1 ≤ (pairsAt rows words i).length ∧ (pairsAt rows words i).length ≤ 3 := by
  unfold pairsAt
  split
  · exact ⟨Nat.le_refl _, by show 1 ≤ 3; decide⟩
  · rename_i h
    rw [List.length_map]
    have h1 : (hitsAt rows words i).length ≤ 3 := List.length_filter_le _ [3, 2, 1]
    exact ⟨List.length_pos_iff.mpr h, h1⟩
theorem flat_len {α β : Type} {f : α → List β} (h : ∀ a, 1 ≤ (f a).length ∧ (f a).length ≤ 3) : ∀ l : List α, l.length ≤ (l.flatMap f).length ∧ (l.flatMap f).length ≤ 3 * l.length
  | [] => ⟨Nat.le_refl _, Nat.le_refl _⟩
  | a :: l => by
    have h1 := h a
    have h2 := flat_len h l
    rw [List.flatMap_cons, List.length_append, List.length_cons]
    omega
theorem pairsAll_len (rows : List (List Str)) (words : List Str) : words.length ≤ (pairsAll rows words).length ∧ (pairsAll rows words).length ≤ 3 * words.length := by
  have := flat_len (pairsAt_len rows words) (List.range words.length)
  rw [List.length_range] at this
  exact this
/-! places in the text -/
section
variable {ns : List Int} {starts : List Nat} {words : List Str} {rows : List (List Str)}
def spU (ns : List Int) (starts : List Nat) (words : List Str) (i : Nat) : Nat := (tU ns starts words i).length + (gapOf ns starts words i).length
def tlU (ns : List Int) (starts : List Nat) (words : List Str) (i : Nat) : Nat := (tU ns starts words i).length
theorem spots_all (ns : List Int) (starts : List Nat) (words : List Str) : ∀ n, (textUp ns starts words n).2 = (List.range n).map (spU ns starts words)
  | 0 => rfl
  | n + 1 => by
    rw [List.range_succ, List.map_append, ← spots_all ns starts words n]
    show (textUp ns starts words n).2 ++ [((textUp ns starts words n).1 ++ gapOf ns starts words n).length] = _
    rw [str_app_len]; rfl
theorem spots_get {n i : Nat} (hi : i < n) : (textUp ns starts words n).2.getD i 0 = spU ns starts words i := by
  rw [spots_all, List.getD_eq_getElem?_getD, List.getElem?_map, List.getElem?_range hi]; rfl
theorem word_pos (hww : ∀ y ∈ words, y ∈ lawWords) {i : Nat} (hi : i < words.length) : 1 ≤ (words.getD i "").length ∧ (words.getD i "").length ≤ 8 := by
  have := word_len (menu_ok _ (hww _ (getD_mem hi)))
  omega
theorem tl_succ (hww : ∀ y ∈ words, y ∈ lawWords) {i : Nat} (hi : i < words.length) : tlU ns starts words (i + 1) = spU ns starts words i + (words.getD i "").length := tU_len hww hi
theorem sp_tl (i : Nat) : tlU ns starts words i ≤ spU ns starts words i := Nat.le_add_right _ _
theorem sp_le (hww : ∀ y ∈ words, y ∈ lawWords) {i : Nat} (hi : i < words.length) : spU ns starts words i < tlU ns starts words (i + 1) := by
  have := tl_succ (ns := ns) (starts := starts) hww hi
  have := (word_pos hww hi).1
  omega
theorem tl_mono (hww : ∀ y ∈ words, y ∈ lawWords) : ∀ (k i : Nat), i + k ≤ words.length → tlU ns starts words i ≤ tlU ns starts words (i + k)
  | 0, _, _ => Nat.le_refl _
  | k + 1, i, h => by
    have h1 : tlU ns starts words i ≤ tlU ns starts words (i + k) := tl_mono hww k i (by omega)
    have h2 := sp_tl (ns := ns) (starts := starts) (words := words) (i + k)
    have h3 := sp_le (ns := ns) (starts := starts) hww (i := i + k) (by omega)
    show _ ≤ tlU ns starts words (i + k + 1)
    omega
theorem tl_le (hww : ∀ y ∈ words, y ∈ lawWords) {i j : Nat} (h : i ≤ j) (hj : j ≤ words.length) : tlU ns starts words i ≤ tlU ns starts words j := by
  have := tl_mono (ns := ns) (starts := starts) hww (j - i) i (by omega)
  rw [show i + (j - i) = j by omega] at this
  exact this
/-- a word's place is behind the end of all words ahead of it -/
theorem tl_sp (hww : ∀ y ∈ words, y ∈ lawWords) {i j : Nat} (h : i ≤ j) (hj : j ≤ words.length) : tlU ns starts words i ≤ spU ns starts words j := Nat.le_trans (tl_le hww h hj) (sp_tl j)
theorem sp_tl_lt (hww : ∀ y ∈ words, y ∈ lawWords) {i j : Nat} (h : i < j) (hj : j ≤ words.length) : spU ns starts words i < tlU ns starts words j := Nat.lt_of_lt_of_le (sp_le hww (by omega)) (tl_le hww (by omega) hj)
theorem tl_lt (hww : ∀ y ∈ words, y ∈ lawWords) {i j : Nat} (h : i < j) (hj : j ≤ words.length) : tlU ns starts words i < tlU ns starts words j := Nat.lt_of_le_of_lt (sp_tl i) (sp_tl_lt hww h hj)
theorem sp_lt (hww : ∀ y ∈ words, y ∈ lawWords) {i j : Nat} (h : i < j) (hj : j < words.length) : spU ns starts words i < spU ns starts words j := Nat.lt_of_lt_of_le (sp_tl_lt hww h (by omega)) (sp_tl j)
theorem tl_bound (hwo : OkWs words) (i : Nat) : tlU ns starts words i ≤ 10 * i := (textUp_len hwo i).1
theorem text_snoc : ∀ (ws : List Str) (y : Str), ws ≠ [] → (textOf (ws ++ [y]) false).length = (textOf ws false).length + 1 + y.length := by
  have e : (Str.ofString " ").length = 1 := rfl
  have e2 : ∀ ws, textOf ws false = Str.join (Str.ofString " ") ws := fun ws => txt_join ws
  intro ws y h
  rw [e2, e2]
  induction ws with
  | nil => exact absurd rfl h
  | cons x r ih =>
    cases r with
    | nil =>
      show (Str.join (Str.ofString " ") [x, y]).length = _
      rw [join_cons_cons, join_one, join_one, str_app_len, str_app_len, e]
    | cons z r =>
      have := ih (by simp)
      show (Str.join (Str.ofString " ") (x :: z :: (r ++ [y]))).length = _
      rw [join_cons_cons, join_cons_cons, str_app_len, str_app_len, str_app_len, str_app_len]
      show _ + (Str.join (Str.ofString " ") (z :: r ++ [y])).length = _
      rw [this]
      omega
theorem run_text (hww : ∀ y ∈ words, y ∈ lawWords) {a : Nat} : ∀ z, 1 ≤ z → a + z ≤ words.length → (∀ j, a < j → j < a + z → gapOf ns starts words j = " ") → spU ns starts words a + (textOf (seg words a z) false).length = tlU ns starts words (a + z)
  | 0, h, _, _ => absurd h (by decide)
  | 1, _, h, _ => by
    rw [seg_one (by omega), tl_succ hww (by omega)]
    have : (textOf [words.getD a ""] false).length = (words.getD a "").length := by
      show (Txt.join (Str.ofString " ") _).length = _
      rw [txt_join, join_one]
    omega
  | z + 2, _, h, hg => by
    have ih := run_text hww (a := a) (z + 1) (by omega) (by omega) fun j h1 h2 => hg j h1 (by omega)
    rw [seg_succ (by omega), text_snoc _ _ (by intro q; have := seg_len (words := words) (a := a) (z := z + 1) (by omega); rw [q] at this; cases this)]
    show _ = tlU ns starts words (a + (z + 1) + 1)
    rw [tl_succ hww (by omega)]
    have hgap := hg (a + (z + 1)) (by omega) (by omega)
    have e : (Str.ofString " ").length = 1 := rfl
    have : spU ns starts words (a + (z + 1)) = tlU ns starts words (a + (z + 1)) + 1 := by
      unfold spU tlU
      rw [hgap, e]
    omega
def dT (ns : List Int) (rows : List (List Str)) (words : List Str) (p : Nat × Nat) : TokD := dueTok (tU ns (startsOf rows words) words words.length) (textUp ns (startsOf rows words) words words.length).2 words p
def sp (ns : List Int) (rows : List (List Str)) (words : List Str) (i : Nat) : Nat := spU ns (startsOf rows words) words i
def tl (ns : List Int) (rows : List (List Str)) (words : List Str) (i : Nat) : Nat := tlU ns (startsOf rows words) words i
theorem dEnd (hww : ∀ y ∈ words, y ∈ lawWords) {p : Nat × Nat} (h : IsPair rows words p) : dueEnd (textUp ns (startsOf rows words) words words.length).2 words p = tl ns rows words (fin1 p + 1) := by
  have := (pairLt h).2.1
  unfold dueEnd
  show (textUp ns (startsOf rows words) words words.length).2.getD (fin1 p) 0 + (words.getD (fin1 p) "").length = _
  rw [spots_get this]
  exact (tl_succ hww this).symm
theorem dT_st {p : Nat × Nat} (h : IsPair rows words p) : (dT ns rows words p).st = (sp ns rows words p.1 : Nat) := by
  show (((textUp ns (startsOf rows words) words words.length).2.getD p.1 0 : Nat) : Int) = _
  have := pairLt h
  rw [spots_get (by omega)]; rfl
theorem dT_en (hww : ∀ y ∈ words, y ∈ lawWords) {p : Nat × Nat} (h : IsPair rows words p) : (dT ns rows words p).en = (tl ns rows words (fin1 p + 1) : Int) - 1 := by
  show ((dueEnd _ _ _ : Nat) : Int) - 1 = _
  rw [dEnd hww h]
theorem tok_eq {x : Str} {e : Int} {n : Nat} {v : Option Str} {spots : List Nat} {words : List Str} {p : Nat × Nat} (h1 : e = (dueEnd spots words p : Int) - 1) (h2 : e - n + 1 = (spots.getD p.1 0 : Nat)) (h3 : v = dueVal words p) : tokOf x e n v = dueTok x spots words p := by
  unfold tokOf dueTok
  rw [h2, h3, h1, show (dueEnd spots words p : Int) - 1 + 1 = dueEnd spots words p by omega]
theorem wordToks_pairs (hr : RowsIn rows) (hww : ∀ y ∈ words, y ∈ lawWords) {i : Nat} (hi : i < words.length) : wordToks rows words (tU ns (startsOf rows words) words words.length) i (endI ns (startsOf rows words) words i) = (pairsAt rows words i).map (dT ns rows words) := by
  have hwo : OkWs words := fun w hw => menu_ok _ (hww w hw)
  unfold wordToks pairsAt
  rw [endRows_hits hr hi]
  by_cases hh : hitsAt rows words i = []
  · rw [hh, List.map_nil, if_pos rfl, if_pos rfl, List.map_singleton]
    congr 1
    have hp : (i, 0) ∈ pairsAt rows words i := by unfold pairsAt; rw [if_pos hh]; exact .head _
    have hip := ((pairsAt_mem hr hi).mp hp)
    refine tok_eq ?_ ?_ rfl
    · rw [dEnd hww hip.1, hip.2]; rfl
    · show _ = (((textUp ns (startsOf rows words) words words.length).2.getD i 0 : Nat) : Int)
      rw [spots_get hi]
      have := tl_succ (ns := ns) (starts := startsOf rows words) hww hi
      unfold endI
      show ((tlU ns (startsOf rows words) words (i + 1) : Nat) : Int) - 1 - _ + 1 = _
      omega
  · rw [if_neg (by simpa using hh), if_neg hh, List.map_map, List.map_map]
    refine List.map_congr_left fun z hz => ?_
    have hp : (i + 1 - z, z) ∈ pairsAt rows words i := by unfold pairsAt; rw [if_neg hh]; exact List.mem_map.mpr ⟨z, hz, rfl⟩
    have hip := ((pairsAt_mem hr hi).mp hp)
    obtain ⟨h1, h2, h3⟩ := (hitsAt_mem hr hi).mp hz
    refine tok_eq ?_ ?_ ?_
    · rw [dEnd hww hip.1, hip.2]; rfl
    · show _ = (((textUp ns (startsOf rows words) words words.length).2.getD (i + 1 - z) 0 : Nat) : Int)
      rw [spots_get (by omega)]
      have := run_text (ns := ns) (starts := startsOf rows words) hww (a := i + 1 - z) z h1 h3.1 fun j j1 j2 => gap_far (by omega) (hit_inner hr hwo h3 j1 j2)
      rw [show i + 1 - z + z = i + 1 by omega] at this
      unfold endI
      show ((tlU ns (startsOf rows words) words (i + 1) : Nat) : Int) - 1 - ((textOf (seg words (i + 1 - z) z) false).length : Nat) + 1 = _
      omega
    · unfold dueVal
      rw [if_neg (by show z ≠ 0; omega)]; rfl
theorem iter_pairs {P : List (List Str)} {O : List (Option (Str × Str))} {ks : List Str} (h : InvA rows P O ks) (hn : P.Nodup) (hO : O.length = P.length) (hr : RowsIn rows) (hww : ∀ y ∈ words, y ∈ lawWords) :
    iterOut P O ks true false (tU ns (startsOf rows words) words words.length) = (pairsAll rows words).map (dT ns rows words) := by
  rw [iter_all h hn hO hww]
  unfold pairsAll
  rw [List.map_flatMap]
  have : ∀ l : List Nat, (∀ i ∈ l, i < words.length) → (l.flatMap fun j => wordToks rows words (tU ns (startsOf rows words) words words.length) j (endI ns (startsOf rows words) words j)) = l.flatMap fun a => (pairsAt rows words a).map (dT ns rows words) := by
    intro l
    induction l with
    | nil => intro _; rfl
    | cons i l ih =>
      intro hl
      rw [List.flatMap_cons, List.flatMap_cons, ih fun j hj => hl j (.tail _ hj), wordToks_pairs hr hww (hl i (.head _))]
  exact this _ fun i hi => List.mem_range.mp hi
end
end Mine
end
section
open Lean Elab Tactic Meta PySem PySem.W PySem.Calls PyProof.Rows
set_option pp.deepTerms false
set_option pp.maxSteps 800
set_option pp.deepTerms.threshold 5
namespace Mine
/-! the tokens put in sequence, and what the filter leaves of them -/
set_option maxRecDepth 100000
section
variable {ns : List Int} {words : List Str} {rows : List (List Str)}
theorem dT_key (hww : ∀ y ∈ words, y ∈ lawWords) {p : Nat × Nat} (h : IsPair rows words p) : keyT (dT ns rows words p) = ((sp ns rows words p.1 : Int), (sp ns rows words p.1 : Int) - tl ns rows words (fin1 p + 1)) := by
  unfold keyT
  rw [dT_st h, dT_en hww h]
  congr 1
  omega
theorem key_lt (hww : ∀ y ∈ words, y ∈ lawWords) {p q : Nat × Nat} (hp : IsPair rows words p) (hq : IsPair rows words q) (h : KeyLt (dT ns rows words p) (dT ns rows words q)) : p.1 < q.1 ∨ (p.1 = q.1 ∧ fin1 q < fin1 p) := by
  unfold KeyLt lt2 at h
  rw [dT_key hww hp, dT_key hww hq] at h
  have h := of_decide_eq_true h
  dsimp only at h
  have lp := pairLt hp
  have lq := pairLt hq
  rcases Nat.lt_trichotomy p.1 q.1 with h1 | h1 | h1
  · exact .inl h1
  · refine .inr ⟨h1, ?_⟩
    rw [h1] at h
    rcases Nat.lt_or_ge (fin1 q) (fin1 p) with h2 | h2
    · exact h2
    · have : tl ns rows words (fin1 p + 1) ≤ tl ns rows words (fin1 q + 1) := tl_le hww (by omega) (by omega)
      omega
  · have : sp ns rows words q.1 < sp ns rows words p.1 := sp_lt hww h1 (by omega)
    omega
theorem dT_inj (hww : ∀ y ∈ words, y ∈ lawWords) {p q : Nat × Nat} (hp : IsPair rows words p) (hq : IsPair rows words q) (h : keyT (dT ns rows words p) = keyT (dT ns rows words q)) : p.1 = q.1 ∧ fin1 p = fin1 q := by
  rw [dT_key hww hp, dT_key hww hq] at h
  have h1 := congrArg Prod.fst h
  have h2 := congrArg Prod.snd h
  dsimp only at h1 h2
  have lp := pairLt hp
  have lq := pairLt hq
  have e : p.1 = q.1 := by
    rcases Nat.lt_trichotomy p.1 q.1 with h3 | h3 | h3
    · have : sp ns rows words p.1 < sp ns rows words q.1 := sp_lt hww h3 (by omega)
      omega
    · exact h3
    · have : sp ns rows words q.1 < sp ns rows words p.1 := sp_lt hww h3 (by omega)
      omega
  refine ⟨e, ?_⟩
  rcases Nat.lt_trichotomy (fin1 p) (fin1 q) with h3 | h3 | h3
  · have : tl ns rows words (fin1 p + 1) < tl ns rows words (fin1 q + 1) := tl_lt hww (by omega) (by omega)
    omega
  · exact h3
  · have : tl ns rows words (fin1 q + 1) < tl ns rows words (fin1 p + 1) := tl_lt hww (by omega) (by omega)
    omega
theorem pair_eq (hr : RowsIn rows) {p q : Nat × Nat} (hp : IsPair rows words p) (hq : IsPair rows words q) (h : p.1 = q.1 ∧ fin1 p = fin1 q) : p = q := by
  obtain ⟨a, z⟩ := p
  obtain ⟨b, y⟩ := q
  obtain ⟨h1, h2⟩ := h
  unfold fin1 at h2
  unfold IsPair at hp hq
  dsimp only at *
  subst h1
  congr 1
  rcases hp with ⟨p1, p2, p3⟩ | ⟨p1, p2⟩
  · rcases hq with ⟨q1, -, -⟩ | ⟨q1, q2⟩
    · omega
    · exact absurd (show a + y = a + 1 by omega) (p3 _ _ q2)
  · rcases hq with ⟨q1, q2, q3⟩ | ⟨q1, -⟩
    · exact absurd (show a + z = a + 1 by omega) (q3 _ _ p2)
    · omega
theorem pairsAt_nodup (rows : List (List Str)) (words : List Str) (i : Nat) : (pairsAt rows words i).Nodup := by
  unfold pairsAt
  split
  · simp
  · have h : (hitsAt rows words i).Nodup := List.Pairwise.sublist List.filter_sublist (show [3, 2, 1].Nodup by decide)
    have h2 : ((hitsAt rows words i).map fun z => (i + 1 - z, z)).Pairwise (· ≠ ·) := by
      rw [List.pairwise_map]
      exact h.imp fun {a b} hab e => hab (congrArg Prod.snd e)
    exact h2
theorem pairsAll_nodup (hr : RowsIn rows) : (pairsAll rows words).Nodup := by
  have : (pairsAll rows words).Pairwise (· ≠ ·) := by
    unfold pairsAll
    rw [List.pairwise_flatMap]
    refine ⟨fun i _ => pairsAt_nodup rows words i, ?_⟩
    refine List.Pairwise.imp_of_mem ?_ (List.pairwise_lt_range (n := words.length))
    intro i j hi hj hij p hp q hq e
    have h1 := ((pairsAt_mem hr (List.mem_range.mp hi)).mp hp).2
    have h2 := ((pairsAt_mem hr (List.mem_range.mp hj)).mp hq).2
    rw [e] at h1
    omega
  exact this
theorem keys_nodup (hr : RowsIn rows) (hww : ∀ y ∈ words, y ∈ lawWords) : (((pairsAll rows words).map (dT ns rows words)).map keyT).Nodup := by
  have : (((pairsAll rows words).map (dT ns rows words)).map keyT).Pairwise (· ≠ ·) := by
    rw [List.pairwise_map, List.pairwise_map]
    refine List.Pairwise.imp_of_mem ?_ (pairsAll_nodup hr)
    intro p q hp hq hne e
    exact hne (pair_eq hr ((pairsAll_mem hr).mp hp) ((pairsAll_mem hr).mp hq) (dT_inj hww ((pairsAll_mem hr).mp hp) ((pairsAll_mem hr).mp hq) e))
  exact this
theorem dT_fit (hww : ∀ y ∈ words, y ∈ lawWords) (hl : words.length ≤ 9) {p : Nat × Nat} (h : IsPair rows words p) : TokFit (dT ns rows words p) := by
  have hwo : OkWs words := fun w hw => menu_ok _ (hww w hw)
  have lp := pairLt h
  unfold TokFit
  rw [dT_st h, dT_en hww h]
  have h1 : sp ns rows words p.1 < tl ns rows words (fin1 p + 1) := sp_tl_lt hww (by omega) (by omega)
  have h2 : tl ns rows words (fin1 p + 1) ≤ 10 * (fin1 p + 1) := tl_bound hwo _
  omega
/-- one token is before the other or holds it -/
theorem pair_lap (hr : RowsIn rows) (hwo : OkWs words) {p q : Nat × Nat} (hp : IsPair rows words p) (hq : IsPair rows words q) (h : p.1 < q.1 ∨ (p.1 = q.1 ∧ fin1 q < fin1 p)) : fin1 p < q.1 ∨ (p.1 ≤ q.1 ∧ fin1 q ≤ fin1 p) := by
  have lp := pairLt hp
  have lq := pairLt hq
  rcases h with h | h
  · by_cases hb : fin1 p < q.1
    · exact .inl hb
    · refine .inr ⟨by omega, ?_⟩
      have hz : ¬ (q.2 ≥ 2) := fun hz => by
        rcases hp with ⟨p1, -, -⟩ | ⟨p1, p2⟩
        · omega
        · rcases hq with ⟨q1, -, -⟩ | ⟨q1, q2⟩
          · omega
          · exact hit_inner hr hwo p2 h (by omega) (mem_starts (p := (q.1, sizeW (kkOf rows) words q.1)) (hit_start hr hwo q2 hz))
      omega
  · exact .inr ⟨by omega, by omega⟩
theorem dT_lap (hr : RowsIn rows) (hww : ∀ y ∈ words, y ∈ lawWords) {p q : Nat × Nat} (hp : IsPair rows words p) (hq : IsPair rows words q) (h : KeyLt (dT ns rows words p) (dT ns rows words q)) : Lap (dT ns rows words p) (dT ns rows words q) := by
  have hwo : OkWs words := fun w hw => menu_ok _ (hww w hw)
  have lp := pairLt hp
  have lq := pairLt hq
  unfold Lap
  rw [dT_st hp, dT_st hq, dT_en hww hp, dT_en hww hq]
  rcases pair_lap hr hwo hp hq (key_lt hww hp hq h) with h1 | ⟨h1, h2⟩
  · refine .inl ?_
    have : tl ns rows words (fin1 p + 1) ≤ sp ns rows words q.1 := tl_sp hww (by omega) (by omega)
    omega
  · refine .inr ⟨?_, ?_⟩
    · rcases Nat.lt_or_ge p.1 q.1 with h3 | h3
      · have : sp ns rows words p.1 < sp ns rows words q.1 := sp_lt hww h3 (by omega)
        omega
      · rw [show p.1 = q.1 by omega]; exact Int.le_refl _
    · have : tl ns rows words (fin1 q + 1) ≤ tl ns rows words (fin1 p + 1) := tl_le hww (by omega) (by omega)
      omega
theorem drop_filter {c : Int} : ∀ {r : List TokD}, r.Pairwise KeyLt → r.dropWhile (fun d => decide (d.st ≤ c)) = r.filter fun d => decide (c < d.st)
  | [], _ => rfl
  | d :: r, h => by
    have h' := List.pairwise_cons.mp h
    by_cases hd : d.st ≤ c
    · rw [List.dropWhile_cons, List.filter_cons, decide_eq_true hd, decide_eq_false (by omega), drop_filter h'.2]; rfl
    · rw [List.dropWhile_cons, List.filter_cons, decide_eq_false hd, decide_eq_true (by omega)]
      have : r.filter (fun d => decide (c < d.st)) = r := by
        rw [List.filter_eq_self]
        intro e he
        have := h'.1 e he
        unfold KeyLt lt2 keyT at this
        have := of_decide_eq_true this
        dsimp only at this
        exact decide_eq_true (by omega)
      rw [this]; rfl
/-- a run's own token -/
theorem run_pair (hr : RowsIn rows) (hwo : OkWs words) {p : Nat × Nat} (h : p ∈ runs rows words) : IsPair rows words p := by
  obtain ⟨e, hl⟩ := runs_mem h
  rcases sizeW_hit (words := words) hr hwo (a := p.1) with h0 | hh
  · refine .inl ⟨e.trans h0, hl, fun a z hz he => ?_⟩
    have hz1 := hit_le hr hz
    by_cases ha : a = p.1
    · have : z ≤ sizeW (kkOf rows) words p.1 := sizeW_max hr hwo (ha ▸ hz)
      omega
    · exact hit_inner hr hwo hz (i := p.1) (by omega) (by omega) (mem_starts h)
  · rw [← e] at hh
    exact .inr ⟨(hit_le hr hh).1, hh⟩
theorem run_top (hr : RowsIn rows) (hwo : OkWs words) {p q : Nat × Nat} (h : p ∈ runs rows words) (hq : IsPair rows words q) (e : q.1 = p.1) : fin1 q ≤ fin1 p := by
  obtain ⟨e1, -⟩ := runs_mem h
  unfold fin1
  rcases hq with ⟨q1, -, -⟩ | ⟨q1, q2⟩
  · omega
  · have := sizeW_max hr hwo q2
    rw [e, ← e1] at this
    omega
theorem filt_runs (hr : RowsIn rows) (hww : ∀ y ∈ words, y ∈ lawWords) : ∀ (f s : Nat) (ds : List TokD), words.length - s ≤ f → (∀ p ∈ sizesRun (kkOf rows) words f s, p ∈ runs rows words) → ds.Pairwise KeyLt →
    (∀ d, d ∈ ds ↔ ∃ p, IsPair rows words p ∧ s ≤ p.1 ∧ d = dT ns rows words p) → filt ds = (sizesRun (kkOf rows) words f s).map (dT ns rows words) := by
  have hwo : OkWs words := fun w hw => menu_ok _ (hww w hw)
  have hend : ∀ s (ds : List TokD), ¬ s < words.length → (∀ d, d ∈ ds ↔ ∃ p, IsPair rows words p ∧ s ≤ p.1 ∧ d = dT ns rows words p) → ds = [] := by
    intro s ds hs hm
    cases ds with
    | nil => rfl
    | cons d r =>
      obtain ⟨p, hp, h1, -⟩ := (hm d).mp (.head _)
      have := pairLt hp
      omega
  intro f
  induction f with
  | zero =>
    intro s ds hf _ _ hm
    rw [hend s ds (by omega) hm]; rfl
  | succ f ih =>
    intro s ds hf hrun hs hm
    by_cases hlt : s < words.length
    · have hstep : sizesRun (kkOf rows) words (f + 1) s = (s, sizeW (kkOf rows) words s) :: sizesRun (kkOf rows) words f (s + max 1 (sizeW (kkOf rows) words s)) := by
        show (if s < words.length then (s, sizeW (kkOf rows) words s) :: sizesRun (kkOf rows) words f (s + max 1 (sizeW (kkOf rows) words s)) else []) = _
        rw [if_pos hlt]
      rw [hstep] at hrun ⊢
      generalize hzd : sizeW (kkOf rows) words s = z at *
      have hin : (s, z) ∈ runs rows words := hrun _ (.head _)
      have hpr := run_pair hr hwo hin
      have lpr := pairLt hpr
      have hmem : dT ns rows words (s, z) ∈ ds := (hm _).mpr ⟨_, hpr, Nat.le_refl _, rfl⟩
      cases ds with
      | nil => cases hmem
      | cons d0 r =>
        have hs' := List.pairwise_cons.mp hs
        obtain ⟨p0, hp0, h1, e0⟩ := (hm d0).mp (.head _)
        have hd0 : d0 = dT ns rows words (s, z) := by
          rcases List.mem_cons.mp hmem with h | h
          · exact h.symm
          · exfalso
            have hk := hs'.1 _ h
            rw [e0] at hk
            rcases key_lt hww hp0 hpr hk with h2 | ⟨h2, h3⟩
            · have h2 : p0.1 < s := h2
              omega
            · have := run_top hr hwo hin hp0 h2
              omega
        rw [filt_cons, List.map_cons, hd0]
        congr 1
        unfold dropIn
        rw [drop_filter hs'.2]
        refine ih _ _ (by omega) (fun p hp => hrun p (.tail _ hp)) (hs'.2.sublist List.filter_sublist) fun d => ?_
        rw [List.mem_filter, decide_eq_true_eq, dT_en hww hpr]
        have hfin : fin1 (s, z) + 1 = s + max 1 z := lpr.2.2.symm
        constructor
        · rintro ⟨hd, hst⟩
          obtain ⟨p, hp, h2, rfl⟩ := (hm d).mp (.tail _ hd)
          refine ⟨p, hp, ?_, rfl⟩
          rw [dT_st hp] at hst
          rcases Nat.lt_or_ge p.1 (s + max 1 z) with h3 | h3
          · have lp := pairLt hp
            have : sp ns rows words p.1 < tl ns rows words (fin1 (s, z) + 1) := sp_tl_lt hww (by omega) (by omega)
            omega
          · exact h3
        · rintro ⟨p, hp, h2, rfl⟩
          have lp := pairLt hp
          have hst : tl ns rows words (fin1 (s, z) + 1) ≤ sp ns rows words p.1 := tl_sp hww (by omega) (by omega)
          rw [dT_st hp]
          refine ⟨?_, by omega⟩
          rcases List.mem_cons.mp ((hm _).mpr ⟨p, hp, by omega, rfl⟩) with h3 | h3
          · exfalso
            have h4 := congrArg TokD.st h3
            rw [hd0, dT_st hp, dT_st hpr] at h4
            have : sp ns rows words s < tl ns rows words (fin1 (s, z) + 1) := sp_tl_lt hww (by omega) (by omega)
            have h4 : ((sp ns rows words p.1 : Nat) : Int) = sp ns rows words s := h4
            omega
          · exact h3
    · have : sizesRun (kkOf rows) words (f + 1) s = [] := sizesRun_end hlt
      rw [hend s ds hlt hm, this]; rfl
theorem sorted_out (hr : RowsIn rows) (hww : ∀ y ∈ words, y ∈ lawWords) (ds' : List TokD) (hp : ds'.Perm ((pairsAll rows words).map (dT ns rows words))) (hs : ds'.Pairwise KeyLt) : ds'.Pairwise Lap ∧ filt ds' = (runs rows words).map (dT ns rows words) := by
  have hm : ∀ d, d ∈ ds' ↔ ∃ p, IsPair rows words p ∧ 0 ≤ p.1 ∧ d = dT ns rows words p := by
    intro d
    rw [hp.mem_iff, List.mem_map]
    constructor
    · rintro ⟨p, hp, rfl⟩; exact ⟨p, (pairsAll_mem hr).mp hp, Nat.zero_le _, rfl⟩
    · rintro ⟨p, hp, -, rfl⟩; exact ⟨p, (pairsAll_mem hr).mpr hp, rfl⟩
  refine ⟨?_, filt_runs hr hww words.length 0 ds' (by omega) (fun p hp => hp) hs hm⟩
  refine List.Pairwise.imp_of_mem ?_ hs
  intro a b ha hb hk
  obtain ⟨p, hp, -, rfl⟩ := (hm a).mp ha
  obtain ⟨q, hq, -, rfl⟩ := (hm b).mp hb
  exact dT_lap hr hww hp hq hk
end
end Mine
end
section
open Lean Elab Tactic Meta PySem PySem.W PySem.Calls PyProof.Rows
set_option pp.deepTerms false
set_option pp.maxSteps 800
set_option pp.deepTerms.threshold 5
namespace Mine
/-! the signs of the law's tokens -/
set_option maxRecDepth 100000
theorem slice_nat {x : Str} {a n : Nat} {i j : Int} (hi : i = a) (hj : j = a + n) (h : a + n ≤ x.length) : Txt.slice x (some i) (some j) = ⟨((x.cps.toList.drop a).take n).toArray⟩ := by
  subst hi
  subst hj
  have := eq_of_beq (slice_closesL (x := x) (i := (a : Int)) (j := (a : Int) + n) (by omega) (by omega) (by omega))
  rw [this]
  congr 2
  rw [show ((a : Int) + n - a).toNat = n by omega, Int.toNat_natCast]
theorem take_short {p : Nat → Bool} {c : Nat} (hc : p c = false) : ∀ {l : List Nat}, c ∈ l → (l.takeWhile p).length < l.length
  | [], h => by cases h
  | d :: l, h => by
    rw [List.takeWhile_cons]
    split
    · rcases List.mem_cons.mp h with rfl | h
      · rename_i q; rw [hc] at q; cases q
      · have := take_short hc h
        simp only [List.length_cons]; omega
    · simp
theorem nonblank_first {x : Str} {c : Nat} {l : List Nat} (h : x.cps.toList = c :: l) (hc : Unicode.isSpace c = false) : nonblank x = true := by
  unfold nonblank
  refine decide_eq_true ?_
  unfold Txt.strip
  rw [PyProof.Rows.stripBy_eq]
  have e1 : stripLo Unicode.isSpace true x = 0 := by
    show (if true = true then (List.takeWhile Unicode.isSpace x.cps.toList).length else 0) = 0
    rw [if_pos rfl, h, List.takeWhile_cons, hc]; rfl
  have hl : x.length = l.length + 1 := by
    show x.cps.size = _
    rw [← Array.length_toList, h]; rfl
  have e2 : 0 < stripHi Unicode.isSpace true x 0 := by
    show 0 < (if true = true then x.length - (List.takeWhile Unicode.isSpace (List.drop 0 x.cps.toList).reverse).length else x.length)
    rw [if_pos rfl, List.drop_zero, h]
    have := take_short hc (l := (c :: l).reverse) (by simp)
    rw [List.length_reverse, List.length_cons] at this
    omega
  rw [e1]
  show (x.cps.extract 0 _).size ≠ 0
  rw [Array.size_extract]
  have : x.cps.size = l.length + 1 := hl
  omega
section
variable {ns : List Int} {starts : List Nat} {words : List Str} {rows : List (List Str)}
theorem tU_rest (ns : List Int) (starts : List Nat) (words : List Str) (i : Nat) : ∀ k, ∃ rest, (tU ns starts words (i + k)).cps.toList = (tU ns starts words i).cps.toList ++ rest
  | 0 => ⟨[], by simp⟩
  | k + 1 => by
    obtain ⟨rest, h⟩ := tU_rest ns starts words i k
    refine ⟨rest ++ ((gapOf ns starts words (i + k)).cps.toList ++ (wordAs ns words (i + k)).cps.toList), ?_⟩
    show (tU ns starts words (i + k + 1)).cps.toList = _
    rw [tU_succ, cps_app, cps_app, h]
    simp only [List.append_assoc]
theorem tU_parts {n i : Nat} (hi : i < n) : ∃ rest, (tU ns starts words n).cps.toList = (tU ns starts words i).cps.toList ++ ((gapOf ns starts words i).cps.toList ++ ((wordAs ns words i).cps.toList ++ rest)) := by
  obtain ⟨rest, h⟩ := tU_rest ns starts words (i + 1) (n - (i + 1))
  rw [show i + 1 + (n - (i + 1)) = n by omega, tU_succ, cps_app, cps_app] at h
  exact ⟨rest, by rw [h]; simp only [List.append_assoc]⟩
theorem codes_len (x : Str) : x.cps.toList.length = x.length := Array.length_toList
theorem tU_drop_sp {n i : Nat} (hi : i < n) : ∃ rest, (tU ns starts words n).cps.toList.drop (spU ns starts words i) = (wordAs ns words i).cps.toList ++ rest := by
  obtain ⟨rest, h⟩ := tU_parts (ns := ns) (starts := starts) (words := words) hi
  refine ⟨rest, ?_⟩
  rw [h, ← List.append_assoc]
  refine List.drop_left' ?_
  rw [List.length_append, codes_len, codes_len]; rfl
theorem tU_gap {n i : Nat} (hi : i < n) : ((tU ns starts words n).cps.toList.drop (tlU ns starts words i)).take (gapOf ns starts words i).length = (gapOf ns starts words i).cps.toList := by
  obtain ⟨rest, h⟩ := tU_parts (ns := ns) (starts := starts) (words := words) hi
  rw [h, List.drop_left' (show _ = tlU ns starts words i from codes_len _), List.take_left' (codes_len _)]
theorem tok_slice (hww : ∀ y ∈ words, y ∈ lawWords) {p : Nat × Nat} (h : IsPair rows words p) : (dT ns rows words p).tx = ⟨(((tU ns (startsOf rows words) words words.length).cps.toList.drop (sp ns rows words p.1)).take (tl ns rows words (fin1 p + 1) - sp ns rows words p.1)).toArray⟩ := by
  have lp := pairLt h
  have h1 : sp ns rows words p.1 < tl ns rows words (fin1 p + 1) := sp_tl_lt hww (by omega) (by omega)
  have h2 : tl ns rows words (fin1 p + 1) ≤ tl ns rows words words.length := tl_le hww (by omega) (Nat.le_refl _)
  show Txt.slice _ (some (((textUp ns (startsOf rows words) words words.length).2.getD p.1 0 : Nat) : Int)) (some ((dueEnd _ _ _ : Nat) : Int)) = _
  rw [dEnd hww h, spots_get (by omega)]
  refine slice_nat rfl ?_ ?_
  · show ((tl ns rows words (fin1 p + 1) : Nat) : Int) = (sp ns rows words p.1 : Nat) + _
    omega
  · show sp ns rows words p.1 + _ ≤ tl ns rows words words.length
    omega
theorem tok_ascii (hww : ∀ y ∈ words, y ∈ lawWords) {p : Nat × Nat} (h : IsPair rows words p) : (dT ns rows words p).tx.cps.all (· < 128) = true := by
  rw [tok_slice hww h, Array.all_eq_true_iff_forall_mem]
  intro c hc
  have hc : c ∈ (((tU ns (startsOf rows words) words words.length).cps.toList.drop (sp ns rows words p.1)).take (tl ns rows words (fin1 p + 1) - sp ns rows words p.1)) := by simpa using hc
  exact decide_eq_true (tU_ascii hww _ (Nat.le_refl _) c (List.mem_of_mem_drop (List.mem_of_mem_take hc)))
theorem tok_len (hww : ∀ y ∈ words, y ∈ lawWords) (hl : words.length ≤ 9) {p : Nat × Nat} (h : IsPair rows words p) : (dT ns rows words p).tx.length ≤ 1000 := by
  have hwo : OkWs words := fun w hw => menu_ok _ (hww w hw)
  have h1 : tl ns rows words words.length ≤ 10 * words.length := tl_bound hwo _
  have h2 : (tU ns (startsOf rows words) words words.length).cps.toList.length = tl ns rows words words.length := codes_len _
  rw [tok_slice hww h, ← codes_len]
  show (((tU ns (startsOf rows words) words words.length).cps.toList.drop (sp ns rows words p.1)).take (tl ns rows words (fin1 p + 1) - sp ns rows words p.1)).toArray.toList.length ≤ 1000
  rw [List.length_take, List.length_drop]
  omega
theorem tok_nonblank (hww : ∀ y ∈ words, y ∈ lawWords) {p : Nat × Nat} (h : IsPair rows words p) : nonblank (dT ns rows words p).tx = true := by
  have lp := pairLt h
  have h1 : sp ns rows words p.1 < tl ns rows words (fin1 p + 1) := sp_tl_lt hww (by omega) (by omega)
  obtain ⟨rest, hd⟩ := tU_drop_sp (ns := ns) (starts := startsOf rows words) (words := words) (n := words.length) (i := p.1) (by omega)
  obtain ⟨f, hf, hf2⟩ := wordAs_codes (ns := ns) hww (i := p.1) (by omega)
  have hw := (word_pos hww (i := p.1) (by omega)).1
  rw [← codes_len] at hw
  have hd : (tU ns (startsOf rows words) words words.length).cps.toList.drop (sp ns rows words p.1) = (words.getD p.1 "").cps.toList.map f ++ rest := by rw [← hf]; exact hd
  have hs := tok_slice (ns := ns) hww h
  rw [hd] at hs
  obtain ⟨k, hk⟩ : ∃ k, tl ns rows words (fin1 p + 1) - sp ns rows words p.1 = k + 1 := ⟨tl ns rows words (fin1 p + 1) - sp ns rows words p.1 - 1, by omega⟩
  rw [hk] at hs
  cases hc : (words.getD p.1 "").cps.toList with
  | nil => rw [hc] at hw; exact absurd hw (by decide)
  | cons c l =>
    rw [hc] at hs
    refine nonblank_first (c := f c) (l := (l.map f ++ rest).take k) ?_ (hf2 c (by rw [hc]; exact .head _)).2.2
    rw [hs]; rfl
theorem fit_all {P : List (List Str)} {O : List (Option (Str × Str))} {ks : List Str} (h : InvA rows P O ks) (hn : P.Nodup) (hO : O.length = P.length) (hr : RowsIn rows) (hww : ∀ y ∈ words, y ∈ lawWords) (hl : words.length ≤ 9) :
    ∀ d ∈ iterOut P O ks true false (tU ns (startsOf rows words) words words.length), TokFit d ∧ d.tx.length ≤ 1000 ∧ nonblank d.tx = true := by
  rw [iter_pairs h hn hO hr hww]
  intro d hd
  obtain ⟨p, hp, rfl⟩ := List.mem_map.mp hd
  have hp := (pairsAll_mem hr).mp hp
  exact ⟨dT_fit hww hl hp, tok_len hww hl hp, tok_nonblank hww hp⟩
/-! the ends -/
def outOf (ns : List Int) (rows : List (List Str)) (words : List Str) : List TokD := (runs rows words).map (dT ns rows words)
theorem out_len : (outOf ns rows words).length ≤ words.length := by
  unfold outOf
  rw [List.length_map]
  exact run_len (kk := kkOf rows) (words := words) words.length 0
theorem out_one (h1 : 1 ≤ words.length) : 1 ≤ (outOf ns rows words).length := by
  obtain ⟨p, hp, -⟩ := run_cover (kk := kkOf rows) (words := words) words.length 0 0 (by omega) (Nat.le_refl _) (by omega)
  unfold outOf
  rw [List.length_map]
  exact List.length_pos_of_mem (show p ∈ runs rows words from hp)
theorem out_fit (hr : RowsIn rows) (hww : ∀ y ∈ words, y ∈ lawWords) (hl : words.length ≤ 9) : ∀ d ∈ outOf ns rows words, TokFit d := by
  intro d hd
  obtain ⟨p, hp, rfl⟩ := List.mem_map.mp hd
  exact dT_fit hww hl (run_pair hr (fun w hw => menu_ok _ (hww w hw)) hp)
theorem val_ok (hwo : OkWs words) (p : Nat × Nat) : ∀ y, dueVal words p = some y → PyData.strOk y = true := by
  intro y hy
  unfold dueVal at hy
  split at hy
  · cases hy
  · have hy := Option.some.inj hy
    subst hy
    refine ascii_ok ?_
    have h := text_ascii (seg_ok hwo p.1 p.2) false
    rw [Array.all_eq_true_iff_forall_mem] at h ⊢
    intro c hc
    have hc : c ∈ (Str.ofString "<" ++ joinW (seg words p.1 p.2) ++ Str.ofString ">").cps.toList := Array.mem_toList_iff.mpr hc
    rw [cps_app, cps_app] at hc
    rcases List.mem_append.mp hc with hc | hc
    · rcases List.mem_append.mp hc with hc | hc
      · have hc' : c ∈ ([60] : List Nat) := hc
        rw [List.mem_singleton.mp hc']; rfl
      · exact h c (Array.mem_toList_iff.mp hc)
    · have hc' : c ∈ ([62] : List Nat) := hc
      rw [List.mem_singleton.mp hc']; rfl
theorem out_ok (hr : RowsIn rows) (hww : ∀ y ∈ words, y ∈ lawWords) : ∀ d ∈ outOf ns rows words, TokOk d := by
  intro d hd
  have hwo : OkWs words := fun w hw => menu_ok _ (hww w hw)
  obtain ⟨p, hp, rfl⟩ := List.mem_map.mp hd
  exact ⟨ascii_ok (tok_ascii hww (run_pair hr hwo hp)), val_ok hwo p⟩
theorem out_first (h1 : 1 ≤ words.length) : ((outOf ns rows words).getD 0 ⟨0, 0, "", none⟩).st = 0 := by
  obtain ⟨n, hn⟩ : ∃ n, words.length = n + 1 := ⟨words.length - 1, by omega⟩
  unfold outOf runs sizesAll
  rw [hn]
  unfold sizesRun
  rw [if_pos (by omega)]
  show (((textUp ns (startsOf rows words) words words.length).2.getD 0 0 : Nat) : Int) = 0
  rw [spots_get (by omega)]
  unfold spU
  rw [gap_zero]; rfl
theorem out_last (hr : RowsIn rows) (hww : ∀ y ∈ words, y ∈ lawWords) (h1 : 1 ≤ words.length) : ((outOf ns rows words).getLastD ⟨0, 0, "", none⟩).en = ((tU ns (startsOf rows words) words words.length).length : Int) - 1 := by
  have hwo : OkWs words := fun w hw => menu_ok _ (hww w hw)
  have ho := out_one (ns := ns) (rows := rows) h1
  unfold outOf at ho ⊢
  rw [List.length_map] at ho
  cases h : (runs rows words).getLast? with
  | none => rw [List.getLast?_eq_none_iff.mp h] at ho; exact absurd ho (by decide)
  | some p =>
    have hm : p ∈ runs rows words := List.mem_of_getLast? h
    have hp := run_pair hr hwo hm
    have e := run_last words.length 0 p (by omega) h
    rw [List.getLastD_eq_getLast?, List.getLast?_map, h]
    show (dT ns rows words p).en = _
    rw [dT_en hww hp, show fin1 p + 1 = words.length by have := pairLt hp; omega]
    rfl
theorem out_bet (hr : RowsIn rows) (hww : ∀ y ∈ words, y ∈ lawWords) : ∀ i, i + 1 < (outOf ns rows words).length → betAt (tU ns (startsOf rows words) words words.length) (outOf ns rows words) i = "" ∨ betAt (tU ns (startsOf rows words) words words.length) (outOf ns rows words) i = " " ∨ betAt (tU ns (startsOf rows words) words words.length) (outOf ns rows words) i = "  " := by
  intro i hi
  have hwo : OkWs words := fun w hw => menu_ok _ (hww w hw)
  have hl : (outOf ns rows words).length = (runs rows words).length := List.length_map _
  rw [hl] at hi
  have hp1 : (runs rows words)[i]? = some ((runs rows words)[i]'(by omega)) := List.getElem?_eq_getElem _
  have hq1 : (runs rows words)[i + 1]? = some ((runs rows words)[i + 1]'hi) := List.getElem?_eq_getElem _
  generalize (runs rows words)[i]'(by omega) = p at hp1
  generalize (runs rows words)[i + 1]'hi = q at hq1
  have hpm := run_pair hr hwo (List.mem_of_getElem? hp1)
  have hqm := run_pair hr hwo (List.mem_of_getElem? hq1)
  have hnx := run_next (kk := kkOf rows) (words := words) words.length 0 i p q hp1 hq1
  have lp := pairLt hpm
  have lq := pairLt hqm
  have e1 : (outOf ns rows words).getD i ⟨0, 0, "", none⟩ = dT ns rows words p := by
    unfold outOf
    rw [List.getD_eq_getElem?_getD, List.getElem?_map, hp1]; rfl
  have e2 : (outOf ns rows words).getD (i + 1) ⟨0, 0, "", none⟩ = dT ns rows words q := by
    unfold outOf
    rw [List.getD_eq_getElem?_getD, List.getElem?_map, hq1]; rfl
  have hb : betAt (tU ns (startsOf rows words) words words.length) (outOf ns rows words) i = gapOf ns (startsOf rows words) words q.1 := by
    unfold betAt
    rw [e1, e2, dT_en hww hpm, dT_st hqm]
    have e3 : fin1 p + 1 = q.1 := by omega
    rw [e3, slice_nat (a := tl ns rows words q.1) (n := (gapOf ns (startsOf rows words) words q.1).length) (by omega)]
    · have := tU_gap (ns := ns) (starts := startsOf rows words) (words := words) (n := words.length) (i := q.1) (by omega)
      rw [show tl ns rows words q.1 = tlU ns (startsOf rows words) words q.1 from rfl, this, Array.toArray_toList]
    · show ((sp ns rows words q.1 : Nat) : Int) = _
      rw [show sp ns rows words q.1 = tl ns rows words q.1 + (gapOf ns (startsOf rows words) words q.1).length from rfl, Int.natCast_add]
    · have : sp ns rows words q.1 < tl ns rows words words.length := sp_tl_lt hww (by omega) (Nat.le_refl _)
      exact Nat.le_of_lt this
  rw [hb]
  rcases gap_cases ns (startsOf rows words) words q.1 with ⟨h, -⟩ | h | h
  · exact .inl h
  · exact .inr (.inl h)
  · exact .inr (.inr h)
theorem runs_ok (hr : RowsIn rows) (hww : ∀ y ∈ words, y ∈ lawWords) : ∀ p ∈ runs rows words, p.1 < words.length ∧ p.1 + p.2 ≤ words.length ∧ p.2 ≤ 3 := by
  intro p hp
  have hwo : OkWs words := fun w hw => menu_ok _ (hww w hw)
  have := runs_mem hp
  have h2 := pairLt (run_pair hr hwo hp)
  refine ⟨this.2, by omega, ?_⟩
  rw [this.1]
  exact sizeW_le3 _ _ _
theorem text_len_ok (hww : ∀ y ∈ words, y ∈ lawWords) (h1 : 1 ≤ words.length) (hl : words.length ≤ 9) : (tU ns starts words words.length).length ≤ 90 ∧ (tU ns starts words words.length).length ≠ 0 := by
  have hwo : OkWs words := fun w hw => menu_ok _ (hww w hw)
  have h2 : tlU ns starts words words.length ≤ 10 * words.length := tl_bound hwo _
  have h3 := sp_tl_lt (ns := ns) (starts := starts) hww (i := 0) (j := words.length) (by omega) (Nat.le_refl _)
  unfold tlU at h2 h3
  omega
theorem spots_ok (hww : ∀ y ∈ words, y ∈ lawWords) (hl : words.length ≤ 9) : ∀ x ∈ (textUp ns starts words words.length).2, x ≤ 100 := by
  have hwo : OkWs words := fun w hw => menu_ok _ (hww w hw)
  rw [spots_all]
  intro x hx
  obtain ⟨i, hi, rfl⟩ := List.mem_map.mp hx
  have hi := List.mem_range.mp hi
  have h2 := tl_bound (ns := ns) (starts := starts) hwo (i + 1)
  have h3 := sp_le (ns := ns) (starts := starts) hww hi
  omega
theorem spots_len : (textUp ns starts words words.length).2.length = words.length := by
  rw [spots_all, List.length_map, List.length_range]
end
end Mine
end
section
open Lean Elab Tactic Meta PySem PySem.W PySem.Calls PyProof.Rows
set_option pp.deepTerms false
set_option pp.maxSteps 800
set_option pp.deepTerms.threshold 5
namespace Mine
/-! the table of the law's keys -/
set_option maxRecDepth 100000
theorem inv_known {rows P : List (List Str)} {O : List (Option (Str × Str))} {ks : List Str} (h : InvA rows P O ks) : ∀ p ∈ P, ∀ x ∈ p, x ∈ ks := fun p hp x hx => by
  rcases (h.mem p).mp hp with rfl | ⟨r, hr, e⟩
  · cases hx
  · exact (h.known x).mpr ⟨r, hr, List.mem_of_mem_take (e.symm ▸ hx)⟩
theorem inv_take {rows P : List (List Str)} {O : List (Option (Str × Str))} {ks : List Str} (h : InvA rows P O ks) : ∀ q ∈ P, ∀ k, q.take k ∈ P := fun q hq k => by
  rcases (h.mem q).mp hq with rfl | ⟨r, hr, e⟩
  · rw [List.take_nil]; exact (h.mem []).mpr (.inl rfl)
  · refine (h.mem _).mpr (.inr ⟨r, hr, ?_⟩)
    rw [← e, List.length_take, List.take_take, List.length_take]
    congr 1
    have : q.length ≤ r.length := by rw [← e, List.length_take]; omega
    omega
theorem inv_three {rows P : List (List Str)} {O : List (Option (Str × Str))} {ks : List Str} (h : InvA rows P O ks) : ∀ q ∈ P, q.length ≤ 3 := fun q hq => by
  rcases (h.mem q).mp hq with rfl | ⟨r, hr, e⟩
  · exact Nat.zero_le _
  · have h1 := (h.ok r hr).2.2
    rw [← e, List.length_take]; omega
theorem inv_word {rows P : List (List Str)} {O : List (Option (Str × Str))} {ks : List Str} (h : InvA rows P O ks) : ∀ x ∈ ks, x.length ≤ 1000 := fun x hx => by
  obtain ⟨r, hr, e⟩ := (h.known x).mp hx
  have := (word_len ((h.ok r hr).1 x e)).1
  omega
theorem inv_ol {rows P : List (List Str)} {O : List (Option (Str × Str))} {ks : List Str} (h : InvA rows P O ks) (hn : P.Nodup) (hO : O.length = P.length) : ∀ (i : Nat) (ms ov : Str), O[i]? = some (some (ms, ov)) → ms.length ≤ 1000 := fun i ms ov hi => by
  have hlt : i < P.length := by
    rw [← hO]; exact (List.getElem?_eq_some_iff.mp hi).1
  have h1 := told_at (O := O) hn (List.getElem?_eq_getElem hlt)
  rw [hi, h.told] at h1
  split at h1
  · rename_i hr
    have h2 := Option.some.inj h1
    have h3 := (h.ok _ hr).2.2
    have h4 := text_bound (h.ok _ hr).1 false
    have h5 : ms = textOf P[i] false := (Prod.mk.inj h2).1.symm
    rw [h5]; omega
  · cases h1
def allPaths : List (List Str) := [[], ["mit"], ["gpl"], ["mit", "gpl"], ["bsd"], ["bsd", "new"], ["bsd", "new", "("], ["("], [")"], ["x"], ["x", "or"]]
theorem paths_all : ∀ r ∈ keyRows, ∀ k, r.take k ∈ allPaths := by
  have h : keyRows.all (fun r => (List.range 4).all fun k => decide (r.take k ∈ allPaths)) = true := by decide +kernel
  intro r hr k
  have h1 := List.all_eq_true.mp h r hr
  by_cases hk : k < 4
  · exact of_decide_eq_true (List.all_eq_true.mp h1 k (List.mem_range.mpr hk))
  · have hl := (keyRows_ok r hr).2.2
    have e : r.take k = r.take 3 := by rw [List.take_of_length_le (by omega), List.take_of_length_le (by omega)]
    rw [e]
    exact of_decide_eq_true (List.all_eq_true.mp h1 3 (by decide))
theorem inv_twenty {rows P : List (List Str)} {O : List (Option (Str × Str))} {ks : List Str} (h : InvA rows P O ks) (hr : RowsIn rows) (hn : P.Nodup) : P.length ≤ 20 := by
  have hs : P ⊆ allPaths := by
    intro q hq
    rcases (h.mem q).mp hq with rfl | ⟨r, hm, e⟩
    · exact .head _
    · rw [← e]; exact paths_all r (hr r hm) _
  have := List.Nodup.length_le_of_subset hn hs
  have e : allPaths.length = 11 := rfl
  omega
theorem rowsOf_in (c : Nat) : RowsIn (rowsOf c) := by
  intro r hr
  obtain ⟨i, hi, rfl⟩ := List.mem_map.mp hr
  have hi := List.mem_range.mp (List.mem_filter.mp hi).1
  rw [List.getD_eq_getElem?_getD, List.getElem?_eq_getElem (show i < keyRows.length from hi)]
  exact List.getElem_mem _
theorem rowsOf_len (c : Nat) : (rowsOf c).length ≤ 9 := by
  unfold rowsOf rowsUp
  rw [List.length_map]
  have := List.length_filter_le (bitOn c) (List.range 9)
  rw [List.length_range] at this
  exact this
theorem kk_ok {rows : List (List Str)} (hr : RowsIn rows) : StrsOk (kkOf rows) := by
  intro x hx
  obtain ⟨r, hm, rfl⟩ := List.mem_map.mp hx
  exact ascii_ok (text_ascii (keyRows_ok r (hr r hm)).1 false)
end Mine
end
section
open Lean Elab Tactic Meta PySem PySem.W PySem.Calls PyProof.Rows
set_option pp.deepTerms false
set_option pp.maxSteps 800
set_option pp.deepTerms.threshold 5
namespace Mine
section
variable {prog : Program} {w : World} {base h : Heap} {m : Str → Option Value}
set_option maxRecDepth 100000
theorem dedup {L : Addr} : ∀ {l : List (Addr × Obj)}, News base L h l → ∃ l', (∀ p ∈ l, p ∈ l') ∧ (∀ p ∈ l', p ∈ l) ∧ Apart l'
  | [], _ => ⟨[], fun _ h => h, fun _ h => h, List.nodup_nil⟩
  | p :: r, N => by
    obtain ⟨l', h1, h2, h3⟩ := dedup (l := r) fun q hq => N q (.tail _ hq)
    by_cases hp : p ∈ l'
    · refine ⟨l', fun q hq => ?_, fun q hq => .tail _ (h2 q hq), h3⟩
      rcases List.mem_cons.mp hq with rfl | hq
      · exact hp
      · exact h1 q hq
    · refine ⟨p :: l', fun q hq => ?_, fun q hq => ?_, apart_cons.mpr ⟨fun q hq e => hp ?_, h3⟩⟩
      · rcases List.mem_cons.mp hq with rfl | hq
        · exact .head _
        · exact .tail _ (h1 q hq)
      · rcases List.mem_cons.mp hq with rfl | hq
        · exact .head _
        · exact .tail _ (h2 q hq)
      · rw [← same_at N (.tail _ (h2 q hq)) (.head _) e]; exact hq
theorem law_init {L D2 kd cc na ndx tr dx : Nat} {okd oc oD2 : Obj} {tk0 t0 t1 t2 : Tok} {led : List (Addr × Obj)}
    (N : News base L h ((D2, oD2) :: (kd, okd) :: (cc, oc) :: (na, { cls := .ref 71, dict := some ndx, slots := #[some (.ref cc), some (.ref 44), some (.ref 44), some (.str "" tk0)] }) :: (ndx, dictOf [] 0) :: (tr, instObj 169 dx) :: (dx, dictOf (hdEnts w.params false ⟨tr, dx, kd, okd, t0, t1, t2⟩ na) 3) :: led))
    (k1 : okd.IsDictOf (strKind prog w) []) (k2 : oc.IsDictOf (strKind prog w) []) (k3 : (cc == sysModules) = false) (k4 : (kd == sysModules) = false) (hap : Apart led)
    (c0 : ∀ p ∈ led, p.1 < dx) (c1 : dx < tr) (c2 : tr < ndx) (c3 : ndx < na) (c4 : na < cc) (c5 : cc < kd) :
    ∃ H nd, H.tr = tr ∧ News base L h (LedOf w H nd led) ∧ Added prog w tr led [] H nd [[]] [none] [] [] := by
  refine ⟨⟨tr, dx, kd, okd, t0, t1, t2⟩, [⟨na, ndx, cc, oc, .str "" tk0, .ref 44, .ref 44⟩], rfl, fun p hp => N p ?_, rfl, k4, ?_, InvA.nil, by decide, by decide⟩
  · simp only [LedOf, hdObjs, objsOf, List.flatMap_cons, List.flatMap_nil, Nd.objs, List.cons_append, List.nil_append, List.append_nil, List.mem_cons, List.not_mem_nil, or_false] at hp ⊢
    rcases hp with h | h | h | h | h | h | h
    all_goals first | (exact .inr (.inr (.inr (.inr (.inr (.inr (.inr h))))))) | (subst h; repeat (first | exact .inl rfl | exact rfl | apply Or.inr))
  · refine ⟨⟨rfl, ?_, ?_, rfl, by simp, ?_, ?_⟩, k1, ⟨rfl, ?_, ?_⟩, ?_, ?_⟩
    · intro i n p hn hp
      rcases i with _ | i
      · cases hn; cases hp; exact k2
      · simp at hn
    · intro n hn
      rw [List.mem_singleton.mp hn]; exact k3
    · intro p hp
      rw [List.mem_singleton.mp hp]; simp
    · intro i n p hn hp
      rcases i with _ | i
      · cases hn; cases hp; exact ⟨tk0, rfl⟩
      · simp at hn
    · intro i n hn _
      rcases i with _ | i
      · cases hn; rfl
      · simp at hn
    · intro i n x y hn hO
      rcases i with _ | i
      · simp at hO
      · simp at hn
    · intro i n hn
      rcases i with _ | i
      · cases hn; rfl
      · simp at hn
    · have hl : ∀ q ∈ led, q.1 < dx ∧ q.1 < tr ∧ q.1 < ndx ∧ q.1 < na ∧ q.1 < cc ∧ q.1 < kd := fun q hq => by
        have h1 : @LT.lt Nat _ q.1 dx := c0 q hq
        refine ⟨h1, ?_, ?_, ?_, ?_, ?_⟩
        all_goals (show @LT.lt Nat _ _ _; omega)
      refine apart3.mpr ⟨?_, ?_, hap, ?_, ?_, ?_⟩
      · unfold Apart
        simp only [hdObjs, List.map_cons, List.map_nil, List.nodup_cons, List.mem_cons, List.not_mem_nil, or_false, not_or, List.nodup_nil, not_false_eq_true, and_true]
        repeat' apply And.intro
        all_goals first | exact Nat.ne_of_gt (by omega) | exact Nat.ne_of_lt (by omega)
      · unfold Apart
        simp only [objsOf, List.flatMap_cons, List.flatMap_nil, Nd.objs, List.cons_append, List.nil_append, List.append_nil, List.map_cons, List.map_nil, List.nodup_cons, List.mem_cons, List.not_mem_nil, or_false, not_or, List.nodup_nil, not_false_eq_true, and_true]
        repeat' apply And.intro
        all_goals first | exact Nat.ne_of_gt (by omega) | exact Nat.ne_of_lt (by omega)
      · intro p hp q hq
        simp only [hdObjs, objsOf, List.flatMap_cons, List.flatMap_nil, Nd.objs, List.cons_append, List.nil_append, List.append_nil, List.mem_cons, List.not_mem_nil, or_false] at hp hq
        rcases hp with rfl | rfl | rfl <;> rcases hq with rfl | rfl | rfl <;> first | exact Nat.ne_of_gt (by omega) | exact Nat.ne_of_lt (by omega)
      · intro p hp q hq
        obtain ⟨a1, a2, a3, a4, a5, a6⟩ := hl q hq
        simp only [hdObjs, List.mem_cons, List.not_mem_nil, or_false] at hp
        rcases hp with rfl | rfl | rfl <;> first | exact Nat.ne_of_gt a1 | exact Nat.ne_of_gt a2 | exact Nat.ne_of_gt a6
      · intro p hp q hq
        obtain ⟨a1, a2, a3, a4, a5, a6⟩ := hl q hq
        simp only [objsOf, List.flatMap_cons, List.flatMap_nil, Nd.objs, List.cons_append, List.nil_append, List.append_nil, List.mem_cons, List.not_mem_nil, or_false] at hp
        rcases hp with rfl | rfl | rfl <;> first | exact Nat.ne_of_gt a3 | exact Nat.ne_of_gt a4 | exact Nat.ne_of_gt a5
end
end Mine
end
section
theorem Mine.switch_S66 : True := by
  w_top off
  trivial
open Lean Elab Tactic Meta PySem PySem.W PySem.Calls PyProof.Rows
set_option pp.deepTerms false
set_option pp.maxSteps 800
set_option pp.deepTerms.threshold 5
namespace Mine
local macro_rules | `(tactic| walk_at "exec For Name Name cons nil") => `(tactic| (refine Mine.Stop.on ?_))
local macro_rules | `(tactic| walk_at "exec For Name Call cons nil") => `(tactic| (refine Mine.Stop.on ?_))
local macro_rules | `(tactic| walk_at "exec Assign cons ListComp") => `(tactic| (refine Mine.Stop.on ?_))
local macro_rules | `(tactic| walk_at "LeaveC") => `(tactic| fail "here")
local macro_rules | `(tactic| k_room) => `(tactic| first | ktr_room | ((simp only [Mine.mark_depth, depth_under_make, depth_under_kw, depth_in1, depth_deeper, depth_caller]); (try dsimp only [ktrTop]); (try simp only [recursionLimit] at *); omega))
local macro_rules | `(tactic| k_all) => `(tactic| first | assumption | exact Mine.offLt (by assumption) | exact Mine.offLt2 (by assumption) (by assumption) | (refine List.forall_mem_append.mpr ⟨?a, ?b⟩; (case a => k_all); (case b => k_all)))
local macro_rules | `(tactic| walk_at "setItem ref str") => `(tactic| (k_here; k_dflt (refine' kda_setB (knd := PySem.strKind _ _) ?F ?N ?hm ?d (strKind_is _ _ _ _) ?z ?_; (case F => k_asm); (case N => k_asm); (case hm => k_mem); (case d => k_asm); (case z => k_asm)); intro h' o' F' N' hd'))
local macro_rules | `(tactic| walk_at "compareOp Is str ref") => `(tactic| (k_here; refine wpAny_is_other (by rfl) (by intro x; cases x) ?_))
local macro_rules | `(tactic| k_mem) => `(tactic| assumption)
local macro_rules | `(tactic| walk_at "eval Name") => `(tactic| (k_here; (with_reducible show wpAny _ _ (eval (Expr.Name _ _) (envOf _ _ _ _ _)) _ _ _); k_dflt (refine' ld ?k1 ?k2 ?_; (case k1 => k_asm); (case k2 => first | exact rfl | assumption); k_whole)))
local macro_rules | `(tactic| walk_at "eval Name") => `(tactic| (k_here; (with_reducible show wpAny _ _ (eval (Expr.Name _ _) (envOfC _ _ _ _ _)) _ _ _); k_dflt (refine' nameX_L ?F ?v ?_ ?a ?b; (case F => k_asm); (case a => rfl); (case b => rfl); (case v => first | rfl | assumption); k_whole)))
local macro_rules | `(tactic| walk_at "call builtin:len") => `(tactic| (k_here; (with_reducible show wpAny _ _ (call (Value.builtin "len") [Value.ref _]) _ _ _); k_dflt (first | refine len_L (by k_asm) (by k_mem) (by omega) ?_ | refine len_T (by k_asm) (by k_mem) (by omega) ?_)))
local macro_rules | `(tactic| walk_at "subscriptTail") => `(tactic| (k_here; (with_reducible show wpAny _ _ (subscriptTail _ (PySem.Expr.Slice _ _ _ _) (Value.ref _) (Value.ref _)) _ _ _); refine Mine.Stop.on ?_))
local macro_rules | `(tactic| walk_at "compareOp Eq ref ref") => `(tactic| (refine Mine.Stop.on ?_))
local macro_rules | `(tactic| walk_at "compareOp NotEq ref ref") => `(tactic| (refine Mine.Stop.on ?_))
local macro_rules | `(tactic| walk_at "call type:list") => `(tactic| (k_here; k_dflt (refine list_of_tuple (by k_asm) (by k_asm) (by k_mem) (by omega) ?_); intro D' c' h' F' N' l1; (try k_sweep)))
local macro_rules | `(tactic| walk_at "call ref") => `(tactic| ((with_reducible show wpAny _ _ (call (Value.ref 298) _) _ _ _); refine Mine.Stop.on ?_))
local macro_rules | `(tactic| walk_at "call ref") => `(tactic| ((with_reducible show wpAny _ _ (call (Value.ref 313) _) _ _ _); refine Mine.Stop.on ?_))
local macro_rules | `(tactic| walk_at "call ref") => `(tactic| ((with_reducible show wpAny _ _ (call (Value.ref 320) _) _ _ _); refine Mine.Stop.on ?_))
local macro_rules | `(tactic| walk_at "call ref") => `(tactic| ((with_reducible show wpAny _ _ (call (Value.ref 306) _) _ _ _); refine Mine.Stop.on ?_))
local macro_rules | `(tactic| walk_at "call ref") => `(tactic| ((with_reducible show wpAny _ _ (call (Value.ref 97) _) _ _ _); refine Mine.Stop.on ?_))
local macro_rules | `(tactic| walk_at "call ref") => `(tactic| ((with_reducible show wpAny _ _ (call (Value.ref 152) _) _ _ _); refine Mine.Stop.on ?_))
local macro_rules | `(tactic| walk_at "call ref") => `(tactic| ((with_reducible show wpAny _ _ (call (Value.ref 160) _) _ _ _); refine Mine.Stop.on ?_))
local macro_rules | `(tactic| walk_at "call ref") => `(tactic| ((with_reducible show wpAny _ _ (call (Value.ref 166) _) _ _ _); refine Mine.Stop.on ?_))
local macro_rules | `(tactic| walk_at "exec For") => `(tactic| (refine Mine.Stop.on ?_))
local macro_rules | `(tactic| walk_at "exec For Tuple Call cons nil") => `(tactic| (refine Mine.Stop.on ?_))
local macro_rules | `(tactic| walk_at "exec For Tuple Name cons nil") => `(tactic| (refine Mine.Stop.on ?_))
local macro_rules | `(tactic| walk_at "exec While") => `(tactic| (refine Mine.Stop.on ?_))
local macro_rules | `(tactic| walk_at "exec Assign cons ListComp") => `(tactic| (refine Mine.Stop.on ?_))
local macro_rules | `(tactic| walk_at "eval ListComp") => `(tactic| (refine Mine.Stop.on ?_))
local macro_rules | `(tactic| walk_at "storeName") => `(tactic| ((with_reducible show wpAny _ _ (storeName _ (Str.ofString "text") _) _ _ _); refine Mine.Stop.on ?_))
local macro_rules | `(tactic| walk_at "CompSrc") => `(tactic| (refine Mine.Stop.on ?_))
theorem same_addrs {cN : Addr} {nd ndA : List Nd} (h : Same nd ndA) : ∀ p ∈ objsOf cN ndA, ∃ q ∈ objsOf cN nd, q.1 = p.1 := by
  intro p hp
  obtain ⟨n, hn, hp⟩ := List.mem_flatMap.mp hp
  have hm : (n.a, n.dx, n.c) ∈ nd.map fun n => (n.a, n.dx, n.c) := by
    unfold Same at h
    rw [← h]
    exact List.mem_map.mpr ⟨n, hn, rfl⟩
  obtain ⟨n', hn', e⟩ := List.mem_map.mp hm
  have e1 : n'.a = n.a := congrArg (·.1) e
  have e2 : n'.dx = n.dx := congrArg (·.2.1) e
  have e3 : n'.c = n.c := congrArg (·.2.2) e
  unfold Nd.objs at hp
  simp only [List.mem_cons, List.not_mem_nil, or_false] at hp
  rcases hp with rfl | rfl | rfl
  · exact ⟨(n'.a, nodeObj cN n'), List.mem_flatMap.mpr ⟨n', hn', .head _⟩, e1⟩
  · exact ⟨(n'.dx, dictOf [] 0), List.mem_flatMap.mpr ⟨n', hn', .tail _ (.head _)⟩, e2⟩
  · exact ⟨(n'.c, n'.oc), List.mem_flatMap.mpr ⟨n', hn', .tail _ (.tail _ (.head _))⟩, e3⟩
theorem outs_but {nilA : Addr} {nd : List Nd} {O : List (Option (Str × Str))} {rest rest' : List (Addr × Obj)} (h : Outs nilA nd O rest) (k : ∀ a x t y u, (a, pairObj x t y u) ∈ rest → (a, pairObj x t y u) ∈ rest') : Outs nilA nd O rest' :=
  ⟨h.len, h.none_, fun i n x y h1 h2 => by
    obtain ⟨ta, t, u, e, hm⟩ := h.some_ i n x y h1 h2
    exact ⟨ta, t, u, e, k _ _ _ _ _ hm⟩⟩
theorem pairs_keep {a b : List (Addr × Obj)} (k : ∀ x t u, (x, tupO [t, u]) ∈ a → (x, tupO [t, u]) ∈ b) : ∀ {vs : List Value} {ks : List I2}, PairsI a vs ks → PairsI b vs ks
  | _, _, .nil => .nil
  | _, _, .cons ⟨x, t, u, e, h⟩ r => .cons ⟨x, t, u, e, k _ _ _ h⟩ (pairs_keep k r)
theorem ints_snoc : ∀ {vs : List Value} {ys : List Int}, IntsAre vs ys → ∀ (n : Int) (t : Tok), IntsAre (vs ++ [.int n t]) (ys ++ [n])
  | _, _, .nil, n, t => .cons n t .nil
  | _, _, .cons a b h, n, t => .cons a b (ints_snoc h n t)
theorem tups_keep {a b : List (Addr × Obj)} (k : ∀ x (vs : List Value), (x, tupO vs) ∈ a → (x, tupO vs) ∈ b) : ∀ {vs : List Value} {ds : List TokD}, TupsIn a vs ds → TupsIn b vs ds
  | _, _, .nil => .nil
  | _, _, .cons ⟨x, t1, t2, t3, vl, e, h1, h2⟩ r => .cons ⟨x, t1, t2, t3, vl, e, k _ _ h1, h2⟩ (tups_keep k r)
section
variable {prog : Program} {w : World} {base : Heap} {L fa : Addr} {cd : Value} {m : Str → Option Value} {s : Shared} {Q : Flow → Shared → Prop} {E : Value → Shared → Prop} {H : TrieHd} {nd : List Nd} {P : List (List Str)} {O : List (Option (Str × Str))} {ks : List Str} {rest ex : List (Addr × Obj)}
set_option maxRecDepth 100000
set_option maxHeartbeats 8000000
theorem tail_spec {tr kl sl : Addr} {kv sv : List Value} {ns : List Int} {kn : Nat} {rows : List (List Str)} {oc oT : Obj} (C : Cx (Mine.hd.heap_39 w.params) lawScope [] base base L s.heap m (LedOf w H nd (ex ++ rest))) (hA : Added prog w tr rest rows H nd P O ks ex) (hr : RowsIn rows) (hrl : rows.length ≤ 9)
   (hkl : (kl, listOf kv.toArray kn) ∈ rest) (hkv : StrsAre kv (kkOf rows)) (hm1 : m "keys" = some (.ref kl)) (hm2 : m "trie" = some (.ref tr)) (hc : (L + 1, oc) ∈ rest) (hoc : oc.data = .cell (some (.ref sl))) (hcT : (L + 1 + 1 + 1, oT) ∈ rest) (hoT : oT.data = .cell none)
   (hS : base.IsList sl sv.toArray) (hIn : IntsAre sv ns) (hl : ns.length ≤ 63) (hb : AllBare s.gens) (ht1 : (231, tabObj #[]) ∈ rest) (ht2 : (126, tabObj #[]) ∈ rest) (hCd : CodeHd base 235 231)
   (hE : PassesOwn (model prog w) (callerA.deeper (lawEnv L fa cd)) (lawEnv L fa cd) E)
   (hQ : ∀ h' tk' gs' m' led', Cx (Mine.hd.heap_39 w.params) lawScope [] base base L h' m' led' → AllBare gs' → TabSt 231 keyPos "Token.sort.<locals>.key" led' → (126, tabObj #[]) ∈ led' → Q (.ret (.bool true)) { s with gens := gs', heap := h', toks := tk' }) :
   wpAny (model prog w) (callerA.deeper (lawEnv L fa cd)) (execs (lawBody.drop 3) (lawEnv L fa cd)) Q E s := by
  with_unfolding_all show wpAny _ (callerA.deeper (envOfC _ ⟨_, _, _, _, _⟩ _ _ _)) (execs (_ :: _) (envOfC _ ⟨_, _, _, _, _⟩ _ _ _)) _ _ _
  obtain ⟨⟨A1, B1⟩, F1, XB1, N1, ⟨p1, loose1, mean1, mg1, mb1, TB1⟩, D1, hk1⟩ := id C
  have X1 := XB1.keeps B1.stays
  have T1 := TB1.keeps B1.stays
  rw [← hA.tr] at hm2
  have htr : (H.tr, ({ cls := .ref 169, dict := some H.dx, data := .plain } : Obj)) ∈ LedOf w H nd (ex ++ rest) := .head _
  have hdx : (H.dx, dictOf (hdEnts w.params false H (adOf nd 0)) 3) ∈ LedOf w H nd (ex ++ rest) := .tail _ (.head _)
  unfold hdEnts at hdx
  have hKl := hA.kl
  have hPl := inv_twenty hA.inv hr hA.trie.ok.nodup
  have hap := hA.trie.apart
  generalize hlq : LedOf w H nd (ex ++ rest) = ledq at *
  k_steps
  refine Stop.off ?_
  rename Fr _ _ _ _ => F2
  rename News _ _ _ _ => N2
  subst hlq
  k_dflt (refine automaton_spec ⟨⟨_, B1⟩, F2, XB1, N2, ⟨_, _, _, _, _, TB1⟩, D1, hk1⟩ ?_ ?_ hA.trie (by omega) (by omega) (inv_word hA.inv) hA.inv.nodup hA.lo (inv_known hA.inv) (inv_take hA.inv) (inv_three hA.inv) (by omega) ?_)
  · decide
  · decide
  intro h3 tk3 ndA f C3 hAut hf0 hf
  have F3 := C3.F
  have N3 := C3.N
  clear F2 N2 htr hdx
  obtain ⟨hap1, hap2⟩ : (∀ p ∈ hdObjs w.params 169 true H (adOf nd 0), p.1 ≠ L + 1 + 1 + 1) ∧ ∀ p ∈ objsOf 71 ndA, p.1 ≠ L + 1 + 1 + 1 := by
    obtain ⟨-, -, -, -, x1, x2⟩ := apart3.mp hap
    refine ⟨fun p hp => ?_, fun p hp => ?_⟩
    · unfold hdObjs at hp
      simp only [List.mem_cons, List.not_mem_nil, or_false] at hp
      rcases hp with rfl | rfl | rfl
      · exact x1 (H.tr, _) (.head _) _ (List.mem_append_right _ hcT)
      · exact x1 (H.dx, _) (.tail _ (.head _)) _ (List.mem_append_right _ hcT)
      · exact x1 (H.kd, _) (.tail _ (.tail _ (.head _))) _ (List.mem_append_right _ hcT)
    · obtain ⟨q, hq, e⟩ := same_addrs hAut.same p hp
      rw [← e]
      exact x2 q hq _ (List.mem_append_right _ hcT)
  obtain ⟨ledq, hlq⟩ : ∃ l, l = hdObjs w.params 169 true H (adOf nd 0) ++ (objsOf 71 ndA ++ (ex ++ rest)) := ⟨_, rfl⟩
  have hup : ∀ p ∈ hdObjs w.params 169 true H (adOf nd 0) ++ (objsOf 71 ndA ++ (ex ++ rest)), p ∈ ledq := fun p hp => hlq ▸ hp
  have hrest : ∀ p ∈ rest, p ∈ ledq := fun p hp => hup _ (List.mem_append_right _ (List.mem_append_right _ (List.mem_append_right _ hp)))
  rw [← hlq] at C3 N3
  clear hlq
  dsimp only
  k_steps
  refine Stop.off ?_
  rename Fr _ _ _ _ => F4
  rename News _ _ _ _ => N4
  (with_unfolding_all refine words_spec ⟨⟨_, B1⟩, F4, XB1, N4, ⟨_, _, _, _, _, TB1⟩, D1, hk1⟩ (hrest _ hc) hoc hS hIn hl hE ?_)
  intro h5 tk5 W wv C5 hW hwv
  have F5 := C5.F
  have N5 := C5.N
  clear F4 N4
  dsimp only
  k_steps
  refine Stop.off ?_
  rename Fr _ _ _ _ => F6
  rename News _ _ _ _ => N6
  rename _ < _ ∧ AllLt _ ledq => hl6
  rename_i Z _ _ _ _ _ _ _
  have hw5 := words_ok ns
  have hwl := words_len ns
  have hww := words_menu ns
  generalize hwds : wordsOf ns = words at *
  have N6b := News.sub (l' := (Z, listOf [].toArray 0) :: (W, LCg.lst wv) :: ledq) N6 fun p hp => .tail _ hp
  (with_unfolding_all refine sizes_spec (kk := kkOf rows) (kn := kn) (wn := wv.length) (zn := 0) ⟨⟨_, B1⟩, F6, XB1, N6b, ⟨_, _, _, _, _, TB1⟩, D1, hk1⟩ ?_ (.tail _ (hrest _ hkl)) hkv (.head _) hwv ?_ (kk_ok hr) (by omega) hw5 hm1 rfl rfl rfl hE ?_)
  · intro p hp
    rcases List.mem_cons.mp hp with rfl | hp
    · exact Nat.ne_of_lt hl6.1
    · exact Nat.ne_of_lt (of_allLt hl6.2 p hp)
  · unfold kkOf; rw [List.length_map]; omega
  intro h7 tk7 m7 zv zn led7 C7 hs7 hZ7 hzv hm7
  have F7 := C7.F
  have N7 := C7.N
  clear F6 N6 N6b
  dsimp only
  have hcT7 : (L + 1 + 1 + 1, oT) ∈ led7 := hs7 _ (.tail _ (hrest _ hcT))
  have hZT := hZ7 _ hcT7
  have N7b := News.sub (l' := (L + 1 + 1 + 1, oT) :: but (L + 1 + 1 + 1) ((Z, listOf zv.toArray zn) :: led7)) N7 fun p hp => by
    rcases List.mem_cons.mp hp with rfl | hp
    · exact .tail _ hcT7
    · exact (mem_but.mp hp).1
  clear N7
  have hsZ : ∀ p ∈ led7, p.1 ≠ L + 1 + 1 + 1 → p ∈ but (L + 1 + 1 + 1) ((Z, listOf zv.toArray zn) :: led7) := fun p hp hn => mem_but.mpr ⟨.tail _ hp, hn⟩
  have hZm : (Z, listOf zv.toArray zn) ∈ but (L + 1 + 1 + 1) ((Z, listOf zv.toArray zn) :: led7) := mem_but.mpr ⟨.head _, hZT.symm⟩
  generalize hledb : but (L + 1 + 1 + 1) ((Z, listOf zv.toArray zn) :: led7) = ledb at *
  have hk0 : ∀ x : Str, x ≠ "at" → x ≠ "sizes" → x ≠ "words" → m7 x = m x := fun x a b c => (hm7 x a).trans ((if_neg b).trans ((if_neg a).trans (if_neg c)))
  have hn7z : m7 "sizes" = some (.ref Z) := hm7 "sizes" (by decide)
  have hn7w : m7 "words" = some (.ref W) := hm7 "words" (by decide)
  have hn7t : m7 "trie" = some (.ref H.tr) := (hk0 "trie" (by decide) (by decide) (by decide)).trans hm2
  have hzv2 : PairsI ledb zv ((runs rows words).map toI) := pairs_keep (fun a t u hp => hsZ _ hp fun e => by
    have := same_at C7.N (.tail _ hp) (.tail _ hcT7) e
    have h2 := congrArg (fun q => q.2.data) this
    rw [show ((L + 1 + 1 + 1, oT) : Addr × Obj).2.data = oT.data from rfl, hoT] at h2
    cases h2) hzv
  clear hk0 hm7 hm1 hm2
  have hzl : zv.length ≤ 9 := by
    rw [pairs2_len hzv2, List.length_map]
    have := run_len (kk := kkOf rows) (words := words) words.length 0
    have h2 : (runs rows words).length ≤ words.length - 0 := this
    omega
  k_steps
  refine Stop.off ?_
  rename _ < _ ∧ AllLt _ ledb => hl8
  rename Fr _ _ _ _ => F8
  rename News _ _ _ _ => N8
  rename_i S _
  k_dflt (refine LCg.ListComp_U (F₀ := by k_asm) (by with_unfolding_all rfl) (by decide) (by rfl) (by decide) (by rfl) ?_)
  k_steps
  refine Stop.off ?_
  k_dflt (refine LCg.CompSrc.ledger (by rfl) F8 N8 (.tail _ (.tail _ hZm)) (by rw [sizeLine_eq, List.size_toArray]; omega) (fun _ => rest_ind (fun i ys nx => nx = (S, listOf #[] 0) :: (L + 1 + 1 + 1, oT) :: ledb ∧ IntsAre ys (((runs rows words).take i).map fun p => (p.1 : Int))) ?_ ?_ _ 0 _ _ (Nat.zero_add _) ⟨rfl, .nil⟩))
  rotate_left
  · rintro i ys nx v I' oI' C' oC' D' m₂ h' tk' E' hi ⟨rfl, hys⟩ hv' hC' hxv F N off ne
    have hv' : zv[i]? = some v := by simpa using hv'
    have hil : i < zv.length := (List.getElem?_eq_some_iff.mp hv').1
    obtain ⟨p, hp⟩ : ∃ p, (runs rows words)[i]? = some p := ⟨_, List.getElem?_eq_getElem (by have := pairs2_len hzv2; rw [List.length_map] at this; omega)⟩
    have hat := pairs2_at hzv2 hil
    rw [List.getD_eq_getElem?_getD, List.getD_eq_getElem?_getD, hv', List.getElem?_map, hp] at hat
    obtain ⟨T, t1, t2, rfl, hT⟩ := hat
    have hnext : (runs rows words).take (i + 1) = (runs rows words).take i ++ [p] := by rw [List.take_add_one, hp]; rfl
    have hT1 : (T, tupO [.int (toI p).1 t1, .int (toI p).2 t2]) ∈ (I', oI') :: (C', oC') :: (D', LCg.lst ys) :: (S, listOf #[] 0) :: (L + 1 + 1 + 1, oT) :: ledb := .tail _ (.tail _ (.tail _ (.tail _ (.tail _ hT))))
    unfold tupO toI at hT1
    dsimp only at hT1
    k_steps
    rename Fr _ _ _ _ => F9
    rename News _ _ _ _ => N9
    refine LCg.CompEnd.intro F9 N9 _ (fun p hp => hp) off (.inr ⟨_, .tail _ (.tail _ hZm), rfl, _, rfl⟩) ⟨rfl, ?_⟩
    rw [hnext, List.map_append]
    exact ints_snoc hys _ _
  rintro ys nx ⟨rfl, hys⟩ D2 h8 tk8 F9 N9 off9
  rw [List.size_toArray, List.take_of_length_le (by have := pairs2_len hzv2; rw [List.length_map] at this; omega)] at hys
  have hD2 : D2 ≠ L + 1 + 1 + 1 ∧ D2 ≠ S ∧ ∀ p ∈ ledb, p.1 ≠ D2 := by
    refine ⟨fun e => off1_mem off9 (L + 1 + 1 + 1, oT) (.tail _ (.head _)) e.symm, fun e => off1_mem off9 (S, _) (.head _) e.symm, fun p hp => off1_mem off9 p (.tail _ (.tail _ hp))⟩
  have hbT : ∀ p ∈ ledb, p.1 ≠ L + 1 + 1 + 1 := fun p hp => by rw [← hledb] at hp; exact (mem_but.mp hp).2
  have hST : S ≠ L + 1 + 1 + 1 := Nat.ne_of_gt hl8.1
  have hbS : ∀ p ∈ ledb, p.1 ≠ S := fun p hp => Nat.ne_of_lt (of_allLt hl8.2 p hp)
  k_steps
  refine Stop.off ?_
  rename Fr _ _ _ _ => F10
  rename News _ _ _ _ => N10
  have N10b := News.sub (l' := (L + 1 + 1 + 1, oT) :: (S, listOf #[] 0) :: (D2, LCg.lst ys) :: ledb) N10 fun p hp => by
    rcases List.mem_cons.mp hp with rfl | hp
    · exact .tail _ (.tail _ (.tail _ (.head _)))
    rcases List.mem_cons.mp hp with rfl | hp
    · exact .tail _ (.tail _ (.head _))
    rcases List.mem_cons.mp hp with rfl | hp
    · exact .tail _ (.head _)
    · exact .tail _ (.tail _ (.tail _ (.tail _ hp)))
  have hoffT : ∀ p ∈ (S, listOf #[] 0) :: (D2, LCg.lst ys) :: ledb, p.1 ≠ L + 1 + 1 + 1 := fun p hp => by
    rcases List.mem_cons.mp hp with rfl | hp
    · exact hST
    rcases List.mem_cons.mp hp with rfl | hp
    · exact hD2.1
    · exact hbT p hp
  k_dflt (refine storeX_C F10 N10b (by rfl) (UpdF.head hoffT) hoT ?_)
  intro h11 ow F11 N11 hcw
  clear F10 N10 N10b
  k_steps
  refine Stop.off ?_
  rename Fr _ _ _ _ => F12
  rename News _ _ _ _ => N12
  have hys' : IntsAre ys ((startsOf rows words).map fun (n : Nat) => (n : Int)) := by unfold startsOf; rw [List.map_map]; exact hys
  have hWb : (W, LCg.lst wv) ∈ ledb := hsZ _ (hs7 _ (.head _)) fun e => by
    have := same_at C7.N (.tail _ (hs7 _ (.head _))) (.tail _ hcT7) e
    have h2 := congrArg (fun q => q.2.data) this
    rw [show ((L + 1 + 1 + 1, oT) : Addr × Obj).2.data = oT.data from rfl, hoT] at h2
    cases h2
  have hcb : (L + 1, oc) ∈ ledb := hsZ _ (hs7 _ (.tail _ (hrest _ hc))) (Nat.ne_of_lt (Nat.lt_succ_of_lt (Nat.lt_succ_self _)))
  (with_unfolding_all refine text_spec (ns := ns) (starts := startsOf rows words) (words := words) (wn := wv.length) (tn := ys.length) (sn := 0) ⟨⟨_, B1⟩, F12, XB1, N12, ⟨_, _, _, _, _, TB1⟩, D1, hk1⟩ hcw ?_ ?_ hST (.tail _ hcb) hoc hS hIn hl (.head _) hys' (.tail _ hWb) hwv hwl.2 hww hw5 hn7w rfl rfl hE ?_)
  · intro p hp
    rcases List.mem_cons.mp hp with rfl | hp
    · exact hD2.2.1
    · exact hbS p hp
  · intro p hp
    rcases List.mem_cons.mp hp with rfl | hp
    · exact hD2.1
    · exact hbT p hp
  intro h13 tk13 m13 oT3 t13 sv3 sn3 C13 hoT3 hsv3 hm13
  have F13 := C13.F
  have N13 := C13.N
  clear F12 N12
  have hn13z : m13 "sizes" = some (.ref Z) := (hm13 "sizes" (by decide)).trans hn7z
  have hn13w : m13 "words" = some (.ref W) := (hm13 "words" (by decide)).trans hn7w
  have hn13t : m13 "trie" = some (.ref H.tr) := (hm13 "trie" (by decide)).trans hn7t
  have hn13s : m13 "spots" = some (.ref S) := hm13 "spots" (by decide)
  clear hm13
  dsimp only
  k_steps
  refine Stop.off ?_
  rename Fr _ _ _ _ => F14
  rename News _ _ _ _ => N14
  rename _ < _ ∧ _ < _ ∧ _ < _ ∧ AllLt _ ledb => hl14
  rename_i Dd _ _
  obtain ⟨x, hxdef⟩ : ∃ x, x = tU ns (startsOf rows words) words words.length := ⟨_, rfl⟩
  have hoT3 : oT3.data = .cell (some (.str x t13)) := by rw [hxdef]; exact hoT3
  have hxl := text_len_ok (ns := ns) (starts := startsOf rows words) hww hwl.1 hwl.2
  have hxa : x.cps.all (· < 128) = true := by
    rw [hxdef, Array.all_eq_true_iff_forall_mem]
    intro c hc
    exact decide_eq_true (tU_ascii hww _ (Nat.le_refl _) c (Array.mem_toList_iff.mpr hc))
  rw [← hxdef] at hxl
  (with_unfolding_all refine due_spec (pairs := runs rows words) (spots := (textUp ns (startsOf rows words) words words.length).2) (words := words) (text := x) (wn := wv.length) (zn := zn) (sn := sn3) (dn := 0) ⟨⟨_, B1⟩, F14, XB1, N14, ⟨_, _, _, _, _, TB1⟩, D1, hk1⟩ ?_ (.head _) hoT3 (.tail _ (.tail _ (.tail _ hZm))) (pairs2_mono (fun p hp => .tail _ (.tail _ (.tail _ hp))) hzv2) (.tail _ (.tail _ (.tail _ hWb))) hwv (.tail _ (.head _)) hsv3 hwl.2 hw5 spots_len ?_ (runs_ok hr hww) (by omega) (spots_ok hww hwl.2) hn13w hn13s hn13z rfl hE ?_)
  · intro p hp
    rcases List.mem_cons.mp hp with rfl | hp
    · exact Nat.ne_of_lt hl14.1
    rcases List.mem_cons.mp hp with rfl | hp
    · exact Nat.ne_of_lt hl14.2.1
    rcases List.mem_cons.mp hp with rfl | hp
    · exact Nat.ne_of_lt hl14.2.2.1
    · exact Nat.ne_of_lt (of_allLt hl14.2.2.2 p hp)
  · have h2 : (runs rows words).length ≤ words.length - 0 := run_len (kk := kkOf rows) (words := words) words.length 0
    omega
  intro h15 tk15 m15 dv dn15 led15 C15 hs15 hD15 hdv15 hm15
  have F15 := C15.F
  have N15 := C15.N
  clear F14 N14
  have hn15t : m15 "trie" = some (.ref H.tr) := (hm15 "trie" (by decide)).trans hn13t
  have hn15d : m15 "due" = some (.ref Dd) := hm15 "due" (by decide)
  clear hm15
  have hb15 : ∀ p ∈ ledb, p ∈ led15 := fun p hp => hs15 p (.tail _ (.tail _ (.tail _ hp)))
  have hT15 : (L + 1 + 1 + 1, oT3) ∈ led15 := hs15 _ (.head _)
  have hq15 : ∀ p ∈ ledq, p.1 ≠ L + 1 + 1 + 1 → p ∈ led15 := fun p hp hn => hb15 p (hsZ p (hs7 p (.tail _ hp)) hn)
  dsimp only
  k_steps
  refine Stop.off ?_
  rename Fr _ _ _ _ => F16
  rename News _ _ _ _ => N16
  have hnd := hA.trie.ok.nodup
  have hOP := hA.trie.outs.len.trans hA.trie.ok.len
  have hit : iterOut P O ks true false x = (pairsAll rows words).map (dT ns rows words) := by rw [hxdef]; exact iter_pairs hA.inv hnd hOP hr hww
  have hpal := pairsAll_len rows words
  have hout1 : (runs rows words).map (dueTok x (textUp ns (startsOf rows words) words words.length).2 words) = outOf ns rows words := by rw [hxdef]; rfl
  rw [hout1] at hdv15
  have holn := out_len (ns := ns) (rows := rows) (words := words)
  have hne : ∀ a y t z u, (a, pairObj y t z u) ∈ ex ++ rest → a ≠ L + 1 + 1 + 1 := fun a y t z u hm e => by
    have := same_at C3.N (hup _ (List.mem_append_right _ (List.mem_append_right _ hm))) (hrest _ hcT) e
    have h2 := congrArg (fun q => q.2.data) this
    rw [show ((L + 1 + 1 + 1, oT) : Addr × Obj).2.data = oT.data from rfl, hoT] at h2
    cases h2
  have hupT : ∀ p ∈ hdObjs w.params 169 true H (adOf nd 0) ++ (objsOf 71 ndA ++ but (L + 1 + 1 + 1) (ex ++ rest)), p ∈ (Dd, listOf dv.toArray dn15) :: led15 := fun p hp => by
    rcases List.mem_append.mp hp with h1 | hp
    · exact .tail _ (hq15 p (hup p (List.mem_append_left _ h1)) (hap1 p h1))
    rcases List.mem_append.mp hp with h1 | hp
    · exact .tail _ (hq15 p (hup p (List.mem_append_right _ (List.mem_append_left _ h1))) (hap2 p h1))
    · exact .tail _ (hq15 p (hup p (List.mem_append_right _ (List.mem_append_right _ (mem_but.mp hp).1))) (mem_but.mp hp).2)
  have htab : ∀ q : Addr, (q, tabObj #[]) ∈ rest → q ≠ L + 1 + 1 + 1 := fun q hm e => by
    have := same_at C3.N (hrest _ hm) (hrest _ hcT) e
    have h2 := congrArg (fun q => q.2.data) this
    rw [show ((L + 1 + 1 + 1, oT) : Addr × Obj).2.data = oT.data from rfl, hoT] at h2
    cases h2
  have ht1q : (231, tabObj #[]) ∈ led15 := hq15 _ (hrest _ ht1) (htab _ ht1)
  have ht2q : (126, tabObj #[]) ∈ led15 := hq15 _ (hrest _ ht2) (htab _ ht2)
  have hTab : TabSt 231 keyPos "Token.sort.<locals>.key" ((Dd, listOf dv.toArray dn15) :: led15) := .inl (.tail _ ht1q)
  (with_unfolding_all refine told_spec (out := outOf ns rows words) (ndA := ndA) (nd := nd) (H := H) (P := P) (O := O) (ks := ks) (f := f) (rest := but (L + 1 + 1 + 1) (ex ++ rest)) (x := x) (oT := oT3) ⟨⟨_, B1⟩, F16, XB1, N16, ⟨_, _, _, _, _, TB1⟩, D1, hk1⟩ (by omega) hxl.2 hxa hupT hA.trie.ok (outs_but hA.trie.outs fun a y t z u hm => mem_but.mpr ⟨hm, hne a y t z u hm⟩) hA.trie.known hA.lo hAut (inv_ol hA.inv hnd hOP) hf0 hf hb ?_ ?_ ?_ ?_ hCd hTab ?_ (by omega) (.tail _ hT15) hoT3 hn15t hE ?_)
  · rw [hit]; exact keys_nodup hr hww
  · rw [hit, List.length_map]; omega
  · rw [hit, List.length_map]; omega
  · rw [hxdef]; exact fit_all hA.inv hnd hOP hr hww hwl.2
  · rw [hit]; exact sorted_out hr hww
  intro h17 tk17 gs17 Dt tv led17 hb17 C17 hs17 hlt17 hS17 htv17
  dsimp only
  have hs17' : ∀ p ∈ led15, (∀ vs, p.2.data ≠ .fields vs) → p ∈ led17 := fun p hp hnf => hs17 p (.tail _ hp) (tab_off N16 hTab (.tail _ hp) hnf)
  have hdv17 := tups_keep (fun a vs hm => hs17' _ hm fun vs q => by cases q) hdv15
  (with_unfolding_all refine end_spec (x := x) (out := outOf ns rows words) (oT := oT3) (tn := tv.length) (dn := dn15) C17 (by omega) (.head _) (tups_mono (fun p hp => .tail _ hp) htv17) (.tail _ ?_) (tups_mono (fun p hp => .tail _ hp) hdv17) (out_ok hr hww) (by omega) (out_one hwl.1) (out_fit hr hww hwl.2) (.tail _ ?_) hoT3 rfl hn15d ?_ (out_first hwl.1) ?_ hE ?_)
  · exact hs17 _ (.head _) (tab_off N16 hTab (.head _) fun vs q => by cases q)
  · exact hs17' _ hT15 fun vs q => by rw [hoT3] at q; cases q
  · rw [hxdef]; exact out_bet hr hww
  · rw [hxdef]; exact out_last hr hww hwl.1
  intro h18 tk18 m18 led18 C18 hs18
  exact hQ _ _ _ _ led18 C18 hb17 (tabSt_mono hS17 fun p hp => hs18 _ (.tail _ hp)) (hs18 _ (.tail _ (hs17 _ (.tail _ ht2q) (by decide))))
end
end Mine
end
section
theorem Mine.switch_S67 : True := by
  w_top off
  trivial
open Lean Elab Tactic Meta PySem PySem.W PySem.Calls PyProof.Rows
set_option pp.deepTerms false
set_option pp.maxSteps 800
set_option pp.deepTerms.threshold 5
namespace Mine
local macro_rules | `(tactic| walk_at "exec For Name Name cons nil") => `(tactic| (refine Mine.Stop.on ?_))
local macro_rules | `(tactic| walk_at "exec For Name Call cons nil") => `(tactic| (refine Mine.Stop.on ?_))
local macro_rules | `(tactic| walk_at "exec Assign cons ListComp") => `(tactic| (refine Mine.Stop.on ?_))
local macro_rules | `(tactic| walk_at "LeaveC") => `(tactic| fail "here")
local macro_rules | `(tactic| k_room) => `(tactic| first | ktr_room | ((simp only [Mine.mark_depth, depth_under_make, depth_under_kw, depth_in1, depth_deeper, depth_caller]); (try dsimp only [ktrTop]); (try simp only [recursionLimit] at *); omega))
local macro_rules | `(tactic| k_all) => `(tactic| first | assumption | exact Mine.offLt (by assumption) | exact Mine.offLt2 (by assumption) (by assumption) | (refine List.forall_mem_append.mpr ⟨?a, ?b⟩; (case a => k_all); (case b => k_all)))
local macro_rules | `(tactic| walk_at "setItem ref str") => `(tactic| (k_here; k_dflt (refine' kda_setB (knd := PySem.strKind _ _) ?F ?N ?hm ?d (strKind_is _ _ _ _) ?z ?_; (case F => k_asm); (case N => k_asm); (case hm => k_mem); (case d => k_asm); (case z => k_asm)); intro h' o' F' N' hd'))
local macro_rules | `(tactic| walk_at "compareOp Is str ref") => `(tactic| (k_here; refine wpAny_is_other (by rfl) (by intro x; cases x) ?_))
local macro_rules | `(tactic| k_mem) => `(tactic| assumption)
local macro_rules | `(tactic| walk_at "eval Name") => `(tactic| (k_here; (with_reducible show wpAny _ _ (eval (Expr.Name _ _) (envOf _ _ _ _ _)) _ _ _); k_dflt (refine' ld ?k1 ?k2 ?_; (case k1 => k_asm); (case k2 => first | exact rfl | assumption); k_whole)))
local macro_rules | `(tactic| walk_at "eval Name") => `(tactic| (k_here; (with_reducible show wpAny _ _ (eval (Expr.Name _ _) (envOfC _ _ _ _ _)) _ _ _); k_dflt (refine' nameX_L ?F ?v ?_ ?a ?b; (case F => k_asm); (case a => rfl); (case b => rfl); (case v => first | rfl | assumption); k_whole)))
local macro_rules | `(tactic| walk_at "call builtin:len") => `(tactic| (k_here; (with_reducible show wpAny _ _ (call (Value.builtin "len") [Value.ref _]) _ _ _); k_dflt (first | refine len_L (by k_asm) (by k_mem) (by omega) ?_ | refine len_T (by k_asm) (by k_mem) (by omega) ?_)))
local macro_rules | `(tactic| walk_at "subscriptTail") => `(tactic| (k_here; (with_reducible show wpAny _ _ (subscriptTail _ (PySem.Expr.Slice _ _ _ _) (Value.ref _) (Value.ref _)) _ _ _); refine Mine.Stop.on ?_))
local macro_rules | `(tactic| walk_at "compareOp Eq ref ref") => `(tactic| (refine Mine.Stop.on ?_))
local macro_rules | `(tactic| walk_at "compareOp NotEq ref ref") => `(tactic| (refine Mine.Stop.on ?_))
local macro_rules | `(tactic| walk_at "call type:list") => `(tactic| (k_here; k_dflt (refine list_of_tuple (by k_asm) (by k_asm) (by k_mem) (by omega) ?_); intro D' c' h' F' N' l1; (try k_sweep)))
local macro_rules | `(tactic| walk_at "call ref") => `(tactic| ((with_reducible show wpAny _ _ (call (Value.ref 298) _) _ _ _); refine Mine.Stop.on ?_))
local macro_rules | `(tactic| walk_at "call ref") => `(tactic| ((with_reducible show wpAny _ _ (call (Value.ref 313) _) _ _ _); refine Mine.Stop.on ?_))
local macro_rules | `(tactic| walk_at "call ref") => `(tactic| ((with_reducible show wpAny _ _ (call (Value.ref 320) _) _ _ _); refine Mine.Stop.on ?_))
local macro_rules | `(tactic| walk_at "call ref") => `(tactic| ((with_reducible show wpAny _ _ (call (Value.ref 306) _) _ _ _); refine Mine.Stop.on ?_))
local macro_rules | `(tactic| walk_at "call ref") => `(tactic| ((with_reducible show wpAny _ _ (call (Value.ref 97) _) _ _ _); refine Mine.Stop.on ?_))
local macro_rules | `(tactic| walk_at "call ref") => `(tactic| ((with_reducible show wpAny _ _ (call (Value.ref 152) _) _ _ _); refine Mine.Stop.on ?_))
local macro_rules | `(tactic| walk_at "call ref") => `(tactic| ((with_reducible show wpAny _ _ (call (Value.ref 160) _) _ _ _); refine Mine.Stop.on ?_))
local macro_rules | `(tactic| walk_at "call ref") => `(tactic| ((with_reducible show wpAny _ _ (call (Value.ref 166) _) _ _ _); refine Mine.Stop.on ?_))
local macro_rules | `(tactic| walk_at "exec For") => `(tactic| (refine Mine.Stop.on ?_))
local macro_rules | `(tactic| walk_at "exec Assign cons ListComp") => `(tactic| (refine Mine.Stop.on ?_))
local macro_rules | `(tactic| kn_posts) => `(tactic| refine Mine.kn_postG (by assumption) (fun _ _ => rfl) (by with_unfolding_all rfl) ?_)
theorem with_own {prog : Program} {w : World} {A : Around} {env : Env} {E : Value → Shared → Prop} {s : Shared} {Q : Flow → Shared → Prop} {body : Stmt} (f : PassesOwn (model prog w) A env E → wpAny (model prog w) A (exec body env) Q E s) (h : PassesOwn (model prog w) A env E) : wpAny (model prog w) A (exec body env) Q E s := f h
theorem start_apart {L : Nat} {a b c d e : Obj} (h1 : 231 < L) (h2 : 126 < L) : Apart [(L + 1 + 1 + 1, a), (L + 1 + 1, b), (L + 1, c), (231, d), (126, e)] := by
  unfold Apart
  simp only [List.map_cons, List.map_nil, List.nodup_cons, List.mem_cons, List.not_mem_nil, or_false, not_or, List.nodup_nil, not_false_eq_true, and_true]
  repeat' apply And.intro
  all_goals first | exact Nat.ne_of_gt (by omega) | exact Nat.ne_of_lt (by omega) | (intro h; cases h)
theorem start_below {L dx : Nat} {a b c d e : Obj} (h : L + 1 + 1 + 1 < dx ∧ L + 1 + 1 < dx ∧ L + 1 < dx ∧ 231 < dx ∧ 126 < dx) : ∀ p ∈ ([(L + 1 + 1 + 1, a), (L + 1 + 1, b), (L + 1, c), (231, d), (126, e)] : List (Addr × Obj)), p.1 < dx := by
  obtain ⟨h1, h2, h3, h4, h5⟩ := h
  intro p hp
  simp only [List.mem_cons, List.not_mem_nil, or_false] at hp
  rcases hp with rfl | rfl | rfl | rfl | rfl <;> assumption
theorem added_more {prog : Program} {w : World} {tr D : Addr} {o : Obj} {rest : List (Addr × Obj)} {rows : List (List Str)} {H : TrieHd} {nd : List Nd} {P : List (List Str)} {O : List (Option (Str × Str))} {ks : List Str} (hA : Added prog w tr rest rows H nd P O ks []) (hD : ∀ p ∈ LedOf w H nd rest, p.1 < D) : Added prog w tr ((D, o) :: rest) rows H nd P O ks [] := by
  refine ⟨hA.tr, hA.lo, ⟨hA.trie.ok, hA.trie.known, outs_but hA.trie.outs fun a x t y u h => .tail _ h, hA.trie.fails, ?_⟩, hA.inv, hA.pl, hA.kl⟩
  obtain ⟨a1, a2, a3, a4, a5, a6⟩ := apart3.mp hA.trie.apart
  have a3 : Apart rest := a3
  refine apart3.mpr ⟨a1, a2, apart_cons.mpr ⟨fun q hq e => ?_, a3⟩, a4, fun p hp q hq => ?_, fun p hp q hq => ?_⟩
  · have h1 := hD q (List.mem_append_right _ (List.mem_append_right _ hq))
    exact absurd e (Nat.ne_of_lt h1)
  · rcases List.mem_cons.mp hq with rfl | hq
    · exact Nat.ne_of_lt (hD p (List.mem_append_left _ hp))
    · exact a5 p hp q hq
  · rcases List.mem_cons.mp hq with rfl | hq
    · exact Nat.ne_of_lt (hD p (List.mem_append_right _ (List.mem_append_left _ hp)))
    · exact a6 p hp q hq
theorem led_more {h₀ h : Heap} {L K : Addr} {o : Obj} {w : World} {H : TrieHd} {nd : List Nd} {rest led : List (Addr × Obj)} (N : News h₀ L h ((K, o) :: led)) (hs : ∀ p ∈ LedOf w H nd rest, p ∈ led) : News h₀ L h (LedOf w H nd ((K, o) :: rest)) :=
  News.sub N fun p hp => by
    rcases List.mem_append.mp hp with h | hp
    · exact .tail _ (hs p (List.mem_append_left _ h))
    rcases List.mem_append.mp hp with h | hp
    · exact .tail _ (hs p (List.mem_append_right _ (List.mem_append_left _ h)))
    rcases List.mem_cons.mp hp with rfl | hp
    · exact .head _
    · exact .tail _ (hs p (List.mem_append_right _ (List.mem_append_right _ hp)))
set_option maxHeartbeats 8000000 in
set_option maxRecDepth 100000 in
theorem law_holds : PySem.Challenge.rw_ew0015_03.Holds := Mine.hd (by
  k_go0
  all_goals (try k_fold)
  k_steps
  refine Stop.off ?_
  rename Fr _ _ _ _ => F0
  rename News _ _ _ _ => N0
  rename Below _ _ _ _ => B1
  rename Top topProg _ _ _ _ _ => TB1
  rename Heap.IsList _ _ _ => hS
  rename IntsAre _ _ => hIn
  rename Frag.In _ _ => XB1
  k_dflt (refine cell_spec (i := 0) ⟨⟨_, B1⟩, F0, XB1, N0, ⟨_, _, _, _, _, TB1⟩, ?D, rfl⟩ ?_ ?_ hS hIn (by omega) (by omega) ?_)
  case D => exact fun a ha => nomatch ha
  · decide
  · decide
  intro h1 tk1 t1 C1
  have F1 := C1.F
  have N1 := C1.N
  clear F0 N0 C1
  try dsimp only
  k_steps
  refine Stop.off ?_
  rename Fr _ _ _ _ => F5
  rename News _ _ _ _ => N5
  rename List Int => ns
  obtain ⟨H, nd, hHtr, N6, hA⟩ := law_init (prog := PySem.Challenge.rw_ew0015_03.row.prog) N5 (by assumption) (by assumption) (by assumption) (by assumption) (start_apart (by omega) (by omega)) (start_below (by assumption)) (by omega) (by omega) (by omega) (by omega) (by omega)
  clear N5
  refine with_own (fun hE => ?_) (by passes_own)
  have hcm : ((cell ns 0 : Nat) : Int).fmod 511 + 1 = ((cell ns 0 % 511 + 1 : Nat) : Int) := by
    rw [Int.fmod_eq_emod_of_nonneg _ (by decide)]; omega
  rename Obj.data _ = Data.cell (some (Value.int _ _)) => hmany
  rw [hcm] at hmany
  have hcl : cell ns 0 % 511 + 1 ≤ 1000 := by omega
  generalize cell ns 0 % 511 + 1 = many at *
  (with_unfolding_all refine keys_spec (c := many) ⟨⟨_, B1⟩, F5, XB1, N6, ⟨_, _, _, _, _, TB1⟩, ?D, rfl⟩ (List.mem_append_right _ (List.mem_append_right _ (.tail _ (.head _)))) hmany hcl hE ?_)
  case D => exact fun a ha => nomatch ha
  intro h7 tk7 K kv led7 C7 hs7 hK7 hkv
  have F7 := C7.F
  have N7 := led_more C7.N hs7
  have hA7 := added_more (o := LCg.lst kv) hA fun p hp => hK7 p (hs7 p hp)
  clear C7 F5 N6 hs7 hK7
  rename Obj.data _ = Data.cell (bindC _ _ _ (Str.ofString "script")) => hsc
  rename Obj.data _ = Data.cell (bindC _ _ _ (Str.ofString "text")) => htc
  dsimp only
  k_steps
  refine Stop.off ?_
  rename Fr _ _ _ _ => F8
  rename News _ _ _ _ => N8
  (with_unfolding_all refine adds_spec (H := H) (nd := nd) (P := [[]]) (O := [none]) (ks := []) (kl := K) (kv := kv) (kn := kv.length) (keys := rowsOf many) ⟨⟨_, B1⟩, F8, XB1, N8, ⟨_, _, _, _, _, TB1⟩, ?D, rfl⟩ (by rw [hHtr]; exact hA7) (.head _) hkv (fun r hr => keyRows_ok r (rowsOf_in many r hr)) (rowsOf_len many) rfl (by rw [hHtr]; rfl) hE ?_)
  case D => exact fun a ha => nomatch ha
  intro h9 tk9 m9 H9 nd9 P9 O9 ks9 ex9 C9 hA9 hm9
  dsimp only
  rename CodeHd _ (235, 231).1 _ => hcode
  (with_unfolding_all refine tail_spec (kl := K) (kv := kv) (kn := kv.length) (rows := rowsOf many) C9 hA9 (rowsOf_in many) (rowsOf_len many) (.head _) hkv ((hm9 _ (by decide)).trans rfl) ((hm9 _ (by decide)).trans (by rw [hHtr]; rfl)) (.tail _ (.tail _ (.tail _ (.head _)))) (hsc.trans rfl) (.tail _ (.head _)) (htc.trans rfl) hS hIn (by omega) (AllBare.of_eq (by assumption)) (.tail _ (.tail _ (.tail _ (.tail _ (.head _))))) (.tail _ (.tail _ (.tail _ (.tail _ (.tail _ (.head _)))))) hcode hE ?_)
  intro h10 tk10 gs10 m10 led10 C10 hgs h231 h126
  have h231 : ∃ ps, (231, tabObj ps) ∈ led10 := by
    rcases h231 with h | ⟨c', oc', vs', t', h, -⟩
    · exact ⟨_, h⟩
    · exact ⟨_, h⟩
  obtain ⟨ps, h231⟩ := h231
  exact ⟨⟨⟨true, rfl, rfl⟩, fun b o e => C10.F.keep b o e, rfl, hgs⟩, GrownAt.of C10.N h231, GrownAt.of C10.N h126, trivial⟩)
end Mine
end
theorem PySem.Challenge.cw_ew0015_03_holds : PySem.Challenge.rw_ew0015_03.Holds := by
  exact Mine.law_holds
