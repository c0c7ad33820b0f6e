import PyProof.Rows.All
import Wide.All
import OpenK.AllK
import Wide.FinOn
import PySem.Challenge.RW_ew0015_01
set_option Elab.async false
section
open PySem PySem.W PyProof.Rows
namespace Mine
local macro_rules | `(tactic| o_head $t:term) => do
  match t with
  | `((kmHook $K $a $e $ts)) =>
    if ts.raw.isOfKind `«term[_]» then Lean.Macro.throwUnsupported
    `(tactic| o_head (kmHook $K $a $e [226, 126, 119, 112]))
  | _ => Lean.Macro.throwUnsupported
set_option maxRecDepth 100000 in
set_option maxHeartbeats 8000000 in
open_top hd for PySem.Challenge.rw_ew0015_01
end Mine
end
section
open PySem PySem.W PySem.Calls PyProof.Rows
namespace Mine
set_option maxRecDepth 100000

def Stop (P : Prop) : Prop := P
theorem Stop.on {P : Prop} (h : Stop P) : P := h
theorem Stop.off {P : Prop} (h : P) : Stop P := h

/-! ledgers -/
theorem News.sub {h₀ h : Heap} {L : Addr} {l l' : List (Addr × Obj)} (N : News h₀ L h l) (hs : ∀ p ∈ l', p ∈ l) : News h₀ L h l' := fun p hp => N p (hs p hp)
theorem offLt {l : List (Addr × Obj)} {d : Addr} (h : ∀ p ∈ l, p.1 < d) : ∀ p ∈ l, p.1 ≠ d := fun p hp => Nat.ne_of_lt (h p hp)

theorem offLt2 {l : List (Addr × Obj)} {c d : Addr} (h2 : c < d) (h : ∀ p ∈ l, p.1 < c) : ∀ p ∈ l, p.1 ≠ d := fun p hp => Nat.ne_of_lt (Nat.lt_trans (h p hp) h2)

/-! the end of a loop's turn -/
def TurnEnd (h₀ : Heap) (L I : Addr) (own : List (Addr × Obj)) (Jn : (Str → Option Value) → List (Addr × Obj) → Prop) (s₁ s₂ : Shared) : Prop :=
  ∃ h' tk m' all nx, s₂ = { s₁ with heap := h', toks := tk } ∧ Fr h₀ L h' m' ∧ News h₀ L h' all ∧ (∀ p ∈ own, p ∈ all) ∧ (∀ p ∈ nx, p ∈ all) ∧ (∀ p ∈ nx, p.1 ≠ I) ∧ Jn m' nx
def TurnPost (h₀ : Heap) (L I : Addr) (own : List (Addr × Obj)) (Jn : (Str → Option Value) → List (Addr × Obj) → Prop) (s₁ : Shared) (Q : Flow → Shared → Prop) (f : Flow) (s₂ : Shared) : Prop :=
  match f with
  | .ret v => Q (.ret v) s₂
  | .brk => Q .next s₂
  | _ => TurnEnd h₀ L I own Jn s₁ s₂
theorem TurnEnd.mk {h₀ : Heap} {L I : Addr} {own : List (Addr × Obj)} {Jn : (Str → Option Value) → List (Addr × Obj) → Prop} {s₁ : Shared} {h' : Heap} {tk : Nat} {m' : Str → Option Value} {all : List (Addr × Obj)} (nx : List (Addr × Obj))
    (F : Fr h₀ L h' m') (N : News h₀ L h' all) (ho : ∀ p ∈ own, p ∈ all) (hn : ∀ p ∈ nx, p ∈ all) (hI : ∀ p ∈ nx, p.1 ≠ I) (hj : Jn m' nx) : TurnEnd h₀ L I own Jn s₁ { s₁ with heap := h', toks := tk } :=
  ⟨h', tk, m', all, nx, rfl, F, N, ho, hn, hI, hj⟩

theorem TurnEnd.app {h₀ : Heap} {L I : Addr} {own : List (Addr × Obj)} {Jn : (Str → Option Value) → List (Addr × Obj) → Prop} {s₁ : Shared} {h' : Heap} {tk : Nat} {m' : Str → Option Value} {nx : List (Addr × Obj)}
    (F : Fr h₀ L h' m') (N : News h₀ L h' (nx ++ own)) (hI : ∀ p ∈ nx, p.1 ≠ I) (hj : Jn m' nx) : TurnEnd h₀ L I own Jn s₁ { s₁ with heap := h', toks := tk } :=
  ⟨h', tk, m', _, nx, rfl, F, N, fun _ h => List.mem_append_right _ h, fun _ h => List.mem_append_left _ h, hI, hj⟩
theorem offSame {I : Addr} {l l' : List (Addr × Obj)} (e : l'.map (·.1) = l.map (·.1)) (h : ∀ p ∈ l, p.1 ≠ I) : ∀ p ∈ l', p.1 ≠ I := fun p hp q => by
  have : p.1 ∈ l.map (·.1) := e ▸ List.mem_map.mpr ⟨p, hp, rfl⟩
  obtain ⟨r, hr, e'⟩ := List.mem_map.mp this
  exact h r hr (e'.trans q)

section
variable {prog : Program} {w : World} {A : Around} {E : Value → Shared → Prop} {s : Shared} {env : Env} {h₀ : Heap} {x : Str} {body : List Stmt} {Q : Flow → Shared → Prop}

theorem loopJ {I : Addr} {fp : List Addr} {n : Nat} {P : Nat → Value → Prop} {St : Nat → Heap → Prop} {m₀ : Str → Option Value} {news : List (Addr × Obj)} (J : Nat → (Str → Option Value) → List (Addr × Obj) → Prop)
    (W : Walks prog w A I fp [I] n P St) (hst : St 0 s.heap) (hLf : env.locals ∉ fp) (hI0 : h₀.get? I = none) (hnw : ∀ p ∈ news, p.1 ≠ I)
    (F : Fr h₀ env.locals s.heap m₀) (N : News h₀ env.locals s.heap news) (hj : J 0 m₀ news)
    (turn : ∀ i v m₁ news₁ own h tk, i < n → P i v → J i m₁ news₁ → (∀ p ∈ own, p.1 ∈ fp) → (∀ p ∈ news₁, p.1 ≠ I) → (∀ b ∈ fp, h₀.get? b = none → ∀ o, h.get? b = some o → (b, o) ∈ own) → St (i + 1) h →
      Fr h₀ env.locals h (fun y => if y = x then some v else m₁ y) → News h₀ env.locals h (news₁ ++ own) →
      wpAny (model prog w) A (execs body env) (TurnPost h₀ env.locals I own (J (i + 1)) { s with heap := h, toks := tk } Q) E { s with heap := h, toks := tk })
    (done : ∀ m₁ news₁ h tk, J n m₁ news₁ → (∀ p ∈ news₁, p.1 ≠ I) → Fr h₀ env.locals h m₁ → News h₀ env.locals h news₁ → Q .next { s with heap := h, toks := tk }) :
    LoopAtV prog w A h₀ env x body Q E (.ref I) s := by
  refine ⟨I, fp, [I], n, P, St, m₀, news, J, rfl, W, hLf, ?_, ?_, hst, F, N, hj, ?_, ?_⟩
  · intro b hb; rw [List.mem_singleton.mp hb]; exact hI0
  · intro p hp hI; exact hnw p hp (List.mem_singleton.mp hI)
  · rintro i v m₁ news₁ s₁ own ⟨hh', tk', rfl⟩ hi hP hJ hoff hown _ hall hst₁ F₁ N₁
    have hoff' : ∀ p ∈ news₁, p.1 ≠ I := fun p hp e => hoff p hp (List.mem_singleton.mpr e)
    have N₂ : News h₀ env.locals hh' (news₁ ++ own) := fun p hp => N₁ p ((List.mem_append.mp hp).elim (fun h => List.mem_append.mpr (.inr h)) fun h => List.mem_append.mpr (.inl h))
    refine wpAny_mono (turn i v m₁ news₁ own hh' tk' hi hP hJ hown hoff' hall hst₁ F₁ N₂) (fun f s₂ p => ?_) fun _ _ e => e
    have fin : TurnEnd h₀ env.locals I own (J (i + 1)) { s with heap := hh', toks := tk' } s₂ → LoopStepU h₀ env.locals [I] own (J (i + 1)) { s with heap := hh', toks := tk' } .next s₂ := by
      rintro ⟨h', tk, m', all, nx, e, F', N', ho, hn, hI, hm⟩
      exact ⟨rfl, h', tk, m', nx, e, F', fun p hp => N' p ((List.mem_append.mp hp).elim (ho p) (hn p)), fun p hp hq => hI p hp (List.mem_singleton.mp hq), hm⟩
    cases f with
    | ret v => exact .ret p
    | brk => exact .brk p
    | next => exact .next (fin p)
    | cont => exact .cont (fin p)
  · rintro h' tk m' news' F' N' hoff hJ
    exact done m' news' h' tk hJ (fun p hp e => hoff p hp (List.mem_singleton.mpr e)) F' N'

/-- a loop over a text's signs (ASCII) -/
theorem iter_strJ {y : Str} {t : Tok} {m₀ : Str → Option Value} {news : List (Addr × Obj)} (J : Nat → (Str → Option Value) → List (Addr × Obj) → Prop)
    (hh : A.handled = none) (ha : y.cps.all (· < 128) = true) (F : Fr h₀ env.locals s.heap m₀) (N : News h₀ env.locals s.heap news) (hj : J 0 m₀ news)
    (turn : ∀ i c u m₁ news₁ I own h tk, y.cps[i]? = some c → J i m₁ news₁ → (∀ p ∈ own, p.1 = I) → (∀ p ∈ news₁, p.1 ≠ I) → (∃ o, (I, o) ∈ own) →
      Fr h₀ env.locals h (fun z => if z = x then some (.str ⟨#[c]⟩ u) else m₁ z) → News h₀ env.locals h (news₁ ++ own) →
      wpAny (model prog w) A (execs body env) (TurnPost h₀ env.locals I own (J (i + 1)) { s with heap := h, toks := tk } Q) E { s with heap := h, toks := tk })
    (done : ∀ m₁ news₁ h tk, J y.cps.size m₁ news₁ → Fr h₀ env.locals h m₁ → News h₀ env.locals h news₁ → Q .next { s with heap := h, toks := tk }) :
    wpAny (model prog w) A (pyIter (.str y t)) (fun it s₂ => LoopAtV prog w A h₀ env x body Q E it s₂) E s := by
  refine wpAny_pyIter_ascii ha ?_
  have hn := next_is_new F
  refine loopJ (P := SignAt y) (St := fun i h => h.IsStrIter s.heap.objs.size "str_ascii_iterator" y t i) J (Walks.strAscii hh s.heap.objs.size y t) ⟨_, Heap.get?_push_size _ rfl, rfl, rfl⟩ ?_ hn ?_ (F.push _) (fun p hp => ⟨Heap.get?_push_of_some _ (N p hp).1, (N p hp).2⟩) hj ?_ ?_
  · intro hm; exact absurd F.ns.lt ((List.mem_singleton.mp hm) ▸ Nat.lt_irrefl _)
  · intro p hp hI; exact absurd (Heap.lt_size (N p hp).1) (hI ▸ Nat.lt_irrefl _)
  · rintro i v m₁ news₁ own h tk _ ⟨c, u, hc, rfl⟩ hJ hown hoff hall ⟨o, ho, _⟩ F₁ N₁
    exact turn i c u m₁ news₁ _ own h tk hc hJ (fun p hp => List.mem_singleton.mp (hown p hp)) hoff ⟨o, hall _ (.head _) hn o ho⟩ F₁ N₁
  · intro m₁ news₁ h tk hJ _ F₁ N₁
    exact done m₁ news₁ h tk hJ F₁ N₁

/-- a loop over a list's items, whatever they are; the list stands as it is -/
theorem iter_listJ {l : Addr} {vs : List Value} {m₀ : Str → Option Value} {news : List (Addr × Obj)} (J : Nat → (Str → Option Value) → List (Addr × Obj) → Prop)
    (hh : A.handled = none) (hl : s.heap.IsList l vs.toArray) (hL : l ≠ env.locals) (F : Fr h₀ env.locals s.heap m₀) (N : News h₀ env.locals s.heap news) (hj : J 0 m₀ news)
    (turn : ∀ i v m₁ news₁ I own h tk, vs[i]? = some v → J i m₁ news₁ → (∀ p ∈ own, p.1 = I ∨ p.1 = l) → (∀ p ∈ news₁, p.1 ≠ I) → (∃ o, (I, o) ∈ own) → h.IsList l vs.toArray → l ≠ I →
      Fr h₀ env.locals h (fun z => if z = x then some v else m₁ z) → News h₀ env.locals h (news₁ ++ own) →
      wpAny (model prog w) A (execs body env) (TurnPost h₀ env.locals I own (J (i + 1)) { s with heap := h, toks := tk } Q) E { s with heap := h, toks := tk })
    (done : ∀ m₁ news₁ h tk, J vs.length m₁ news₁ → Fr h₀ env.locals h m₁ → News h₀ env.locals h news₁ → Q .next { s with heap := h, toks := tk }) :
    wpAny (model prog w) A (pyIter (.ref l)) (fun it s₂ => LoopAtV prog w A h₀ env x body Q E it s₂) E s := by
  obtain ⟨ol, hol, _⟩ := id hl
  have hlt : l < s.heap.objs.size := Heap.lt_size hol
  refine wpAny_pyIter_list hl ?_
  have hn := next_is_new F
  have W := Walks.list (prog := prog) (w := w) hh s.heap.objs.size l (Nat.ne_of_lt hlt) vs.toArray
  have hlen : vs.toArray.size = vs.length := by simp
  rw [hlen] at W
  refine loopJ J W ⟨⟨_, Heap.get?_push_size _ rfl, rfl, rfl⟩, hl.at fun o e => Heap.get?_push_of_some _ e⟩ ?_ hn ?_ (F.push _) (fun p hp => ⟨Heap.get?_push_of_some _ (N p hp).1, (N p hp).2⟩) hj ?_ ?_
  · intro hm
    rcases List.mem_cons.mp hm with e | hm
    · exact absurd F.ns.lt (e ▸ Nat.lt_irrefl _)
    · exact hL (List.mem_singleton.mp hm).symm
  · intro p hp hI; exact absurd (Heap.lt_size (N p hp).1) (hI ▸ Nat.lt_irrefl _)
  · rintro i v m₁ news₁ own h tk _ hP hJ hown hoff hall ⟨⟨o, ho, _⟩, hl'⟩ F₁ N₁
    exact turn i v m₁ news₁ _ own h tk (by simpa using hP) hJ (fun p hp => by simpa using hown p hp) hoff ⟨o, hall _ (.head _) hn o ho⟩ hl' (Nat.ne_of_lt hlt) F₁ N₁
  · intro m₁ news₁ h tk hJ _ F₁ N₁
    exact done m₁ news₁ h tk hJ F₁ N₁

/-- a loop over a range by ones -/
theorem iter_rangeJ {r : Addr} {a₀ b₀ : Int} {t₀ u₀ v₀ : Tok} {n : Nat} {m₀ : Str → Option Value} {news : List (Addr × Obj)} (J : Nat → (Str → Option Value) → List (Addr × Obj) → Prop)
    (hh : A.handled = none) (hr : IsRange s.heap r a₀ b₀ 1 t₀ u₀ v₀) (hsmall : Builtin.Range.small a₀ b₀ 1 = true) (hn : Builtin.Range.rangeSize a₀ b₀ 1 = (n : Int)) (F : Fr h₀ env.locals s.heap m₀) (N : News h₀ env.locals s.heap news) (hj : J 0 m₀ news)
    (turn : ∀ i u m₁ news₁ I own h tk, i < n → J i m₁ news₁ → (∀ p ∈ own, p.1 = I) → (∀ p ∈ news₁, p.1 ≠ I) → (∃ o, (I, o) ∈ own) →
      Fr h₀ env.locals h (fun z => if z = x then some (.int (a₀ + (i : Int)) u) else m₁ z) → News h₀ env.locals h (news₁ ++ own) →
      wpAny (model prog w) A (execs body env) (TurnPost h₀ env.locals I own (J (i + 1)) { s with heap := h, toks := tk } Q) E { s with heap := h, toks := tk })
    (done : ∀ m₁ news₁ h tk, J n m₁ news₁ → Fr h₀ env.locals h m₁ → News h₀ env.locals h news₁ → Q .next { s with heap := h, toks := tk }) :
    wpAny (model prog w) A (pyIter (.ref r)) (fun it s₂ => LoopAtV prog w A h₀ env x body Q E it s₂) E s := by
  refine wpAny_pyIter_range hr hsmall ?_
  have hnew := next_is_new F
  have W : Walks prog w A s.heap.objs.size [s.heap.objs.size] [s.heap.objs.size] n (fun i v => i < n ∧ ∃ t, v = .int (a₀ + i * 1) t)
      (fun i h => IsRangeIter h s.heap.objs.size (a₀ + (i : Nat) * 1) ((n : Int) - (i : Nat)) 1) := (Walks.range hh _ a₀ 1 n).bound
  refine loopJ J W (by show IsRangeIter _ _ _ _ _; rw [hn]; simpa using Heap.get?_push_size _ rfl) ?_ hnew ?_ (F.push _) (fun p hp => ⟨Heap.get?_push_of_some _ (N p hp).1, (N p hp).2⟩) hj ?_ ?_
  · intro hm; exact absurd F.ns.lt ((List.mem_singleton.mp hm) ▸ Nat.lt_irrefl _)
  · intro p hp hI; exact absurd (Heap.lt_size (N p hp).1) (hI ▸ Nat.lt_irrefl _)
  · rintro i v m₁ news₁ own h tk hi ⟨_, u, rfl⟩ hJ hown hoff hall hst F₁ N₁
    have e1 : a₀ + (i : Int) * 1 = a₀ + (i : Int) := by rw [Int.mul_one]
    rw [e1] at F₁
    exact turn i u m₁ news₁ _ own h tk hi hJ (fun p hp => List.mem_singleton.mp (hown p hp)) hoff ⟨_, hall _ (.head _) hnew _ hst⟩ F₁ N₁
  · intro m₁ news₁ h tk hJ _ F₁ N₁
    exact done m₁ news₁ h tk hJ F₁ N₁
end

/-! lists of texts -/
theorem strs_len : ∀ {vs : List Value} {ys : List Str}, StrsAre vs ys → vs.length = ys.length
  | _, _, .nil => rfl
  | _, _, .cons _ _ h => congrArg (· + 1) (strs_len h)
theorem strs_app : ∀ {vs us : List Value} {ys zs : List Str}, StrsAre vs ys → StrsAre us zs → StrsAre (vs ++ us) (ys ++ zs)
  | _, _, _, _, .nil, h => h
  | _, _, _, _, .cons y t a, h => .cons y t (strs_app a h)
theorem strs_snoc {vs : List Value} {ys : List Str} (h : StrsAre vs ys) (y : Str) (t : Tok) : StrsAre (vs ++ [.str y t]) (ys ++ [y]) := strs_app h (.cons y t .nil)
theorem strs_dropLast : ∀ {vs : List Value} {ys : List Str}, StrsAre vs ys → StrsAre vs.dropLast ys.dropLast
  | _, _, .nil => .nil
  | _, _, .cons _ _ .nil => .nil
  | _, _, .cons y t (.cons z u h) => .cons y t (strs_dropLast (StrsAre.cons z u h))
theorem strs_last : ∀ {vs : List Value} {ys : List Str}, StrsAre vs ys → ys ≠ [] → ∃ t, vs.getLast? = some (.str (ys.getLastD ⟨#[]⟩) t)
  | _, _, .nil, h => absurd rfl h
  | _, _, .cons y t .nil, _ => ⟨t, rfl⟩
  | _, _, .cons y t (.cons z u h), _ => by
    obtain ⟨t', e⟩ := strs_last (StrsAre.cons z u h) (by simp)
    refine ⟨t', ?_⟩
    rw [List.getLast?_cons_cons, e]
    simp [List.getLastD]
theorem strs_at : ∀ {vs : List Value} {ys : List Str}, StrsAre vs ys → ∀ {i : Nat} {v : Value}, vs[i]? = some v → ∃ y t, ys[i]? = some y ∧ v = .str y t
  | _, _, .nil, _, _, h => by simp at h
  | _, _, .cons y t _, 0, _, h => ⟨y, t, rfl, by simpa using h.symm⟩
  | _, _, .cons _ _ r, i + 1, _, h => by simpa using strs_at r (i := i) (by simpa using h)

section
variable {prog : Program} {w : World} {A : Around} {E : Value → Shared → Prop} {s : Shared} {h₀ : Heap} {L l : Addr} {m : Str → Option Value} {news news' : List (Addr × Obj)} {vs : List Value} {n : Nat} {t : Tok} {v : Value}
theorem neg1_get {value slice : PySem.Expr} {Q : Value → Shared → Prop} (N : News h₀ L s.heap news) (hm : (l, listOf vs.toArray n) ∈ news) (hv : vs.getLast? = some v) (h : Q v s)
    (hs : subscripted slice false (.ref l) (.int (-1) t) = operate [.ref l, .int (-1) t] (getItem (.ref l) (.int (-1) t)) := by with_unfolding_all rfl) :
    wpAny (model prog w) A (subscriptTail value slice (.ref l) (.int (-1) t)) Q E s := by
  have hl : s.heap.IsList l vs.toArray := PySem.IsL.isList (n := n) (N _ hm).1
  have hne : 0 < vs.length := by cases vs with | nil => cases hv | cons _ _ => simp
  refine tail_any hl.typeIs slot_list_getitem.lookup (wpAny_getItem_list_neg hl (by decide) (by simp; omega) (by decide) ?_ h) hs
  rw [List.getLast?_eq_getElem?] at hv
  have e : ((-1 : Int) + (vs.toArray.size : Int)).toNat = vs.length - 1 := by simp; omega
  rw [e]; simpa using hv
theorem neg1_set {Q : Unit → Shared → Prop} (F : Fr h₀ L s.heap m) (N : News h₀ L s.heap news) (U : Upd l (listOf vs.toArray n) (listOf (vs.dropLast ++ [v]).toArray n) news news') (hne : 0 < vs.length)
    (h : ∀ h', Fr h₀ L h' m → News h₀ L h' news' → Q () { s with heap := h' }) : wpAny (model prog w) A (setItem (.ref l) (.int (-1) t) v) Q E s := by
  obtain ⟨pre, post, rfl, rfl, a, b⟩ := U.split
  have z := N (l, listOf vs.toArray n) (List.mem_append.mpr (.inr (.head _)))
  have e : ((-1 : Int) + (vs.toArray.size : Int)).toNat = vs.length - 1 := by simp; omega
  refine ki_setBack z.1 (by decide) (by simp; omega) (by decide) (h _ (F.change (Heap.SameBut.update ..) z.2.1 z.2.2) (ki_turn _ N a b ?_ ?_))
  · rw [e]
    apply Array.toList_inj.mp
    simp only [Array.toList_setIfInBounds]
    obtain ⟨us, u, rfl⟩ : ∃ us u, vs = us ++ [u] := ⟨vs.dropLast, vs.getLast (by intro q; simp [q] at hne), (List.dropLast_concat_getLast _).symm⟩
    simp
  · obtain ⟨us, u, rfl⟩ : ∃ us u, vs = us ++ [u] := ⟨vs.dropLast, vs.getLast (by intro q; simp [q] at hne), (List.dropLast_concat_getLast _).symm⟩
    simp
end

/-- a list's item, the place symbolic -/
theorem list_item {prog : Program} {w : World} {A : Around} {E : Value → Shared → Prop} {s : Shared} {l : Addr} {items : Array Value} {k : Int} {t : Tok} {v : Value} {value slice : PySem.Expr} {Q : Value → Shared → Prop} (hl : s.heap.IsList l items) (h0 : 0 ≤ k) (hk : k < 1000000)
    (hv : items[k.toNat]? = some v) (h : Q v s) (hs : subscripted slice false (.ref l) (.int k t) = operate [.ref l, .int k t] (getItem (.ref l) (.int k t)) := by with_unfolding_all rfl) :
    wpAny (model prog w) A (subscriptTail value slice (.ref l) (.int k t)) Q E s :=
  tail_any hl.typeIs slot_list_getitem.lookup (wpAny_getItem_list hl h0 (by omega) hv h) hs

theorem range_facts {a : Int} {n : Nat} (ha : a = 0 ∨ a = 1) (h : n ≤ 100000) : Builtin.Range.small a (a + (n : Int)) 1 = true ∧ Builtin.Range.rangeSize a (a + (n : Int)) 1 = (n : Int) := by
  have e : Builtin.Range.rangeSize a (a + (n : Int)) 1 = (n : Int) := by
    unfold Builtin.Range.rangeSize
    rw [if_pos (by decide)]
    by_cases hn : n = 0
    · subst hn; rw [if_neg (by simp)]; rfl
    · rw [if_pos (by omega), Int.ediv_one]; omega
  refine ⟨?_, e⟩
  unfold Builtin.Range.small
  rw [e]
  have f : ∀ z : Int, -1000000 ≤ z → z ≤ 1000000 → Builtin.Range.rangeFitsLong z = true := fun z h1 h2 => by
    unfold Builtin.Range.rangeFitsLong
    simp only [Bool.and_eq_true, decide_eq_true_eq]
    omega
  rw [f a (by omega) (by omega), f (a + n) (by omega) (by omega), f 1 (by omega) (by omega), f n (by omega) (by omega), if_pos (by decide), f (a + n + (1 - 1)) (by omega) (by omega)]
  simp

theorem strs_get : ∀ {vs : List Value} {ys : List Str}, StrsAre vs ys → ∀ {i : Nat} {y : Str}, ys[i]? = some y → ∃ t, vs[i]? = some (.str y t)
  | _, _, .nil, _, _, h => by simp at h
  | _, _, .cons z t _, 0, _, h => ⟨t, by simpa using h⟩
  | _, _, .cons _ _ r, i + 1, _, h => by simpa using strs_get r (i := i) (by simpa using h)

/-! comprehensions by an invariant -/
section
open LCg LCt
variable {prog : Program} {w : World} {A : Around} {h₀ : Heap} {L : Addr} {m : Str → Option Value} {env : Env} {s : Shared}
theorem compEnd_mono {s₁ s₂ : Shared} {I C D : Addr} {oI oC oD : Obj} {S : List (Addr × Obj) → Prop} {r r' : Value → List (Addr × Obj) → Prop} {y : Value} (h : CompEnd h₀ L m s₁ I oI C oC D oD S r y s₂) (k : ∀ y n, r y n → r' y n) : CompEnd h₀ L m s₁ I oI C oC D oD S r' y s₂ := by
  obtain ⟨h', tk, nw, e, F, N, o, hS, hr⟩ := h
  exact ⟨h', tk, nw, e, F, N, o, hS, k _ _ hr⟩
theorem rest_ind {elt : Expr} {x : Str} {scope : Scope} {cl : List (Str × Addr)} {S : List (Addr × Obj) → Prop} {P : Nat → Value → Prop} {Fin : List Value → List (Addr × Obj) → Prop} {n : Nat} (J : Nat → List Value → List (Addr × Obj) → Prop)
    (fin : ∀ ys news, J n ys news → Fin ys news)
    (step : ∀ i ys news v I oI C oC D m₂ h tk (E' : Value → Shared → Prop), i < n → J i ys news → P i v → NsObj oC m₂ → m₂ x = some v → Fr h₀ L h m → News h₀ L h ((I, oI) :: (C, oC) :: (D, lst ys) :: news) → Off3 I C D news → ((@Ne Nat I C) ∧ (@Ne Nat I D) ∧ (@Ne Nat C D)) →
      wpAny (model prog w) A (eval elt (compEnvC scope cl C env)) (CompEnd h₀ L m { s with heap := h, toks := tk } I oI C oC D (lst ys) S (fun y news' => J (i + 1) (ys ++ [y]) news')) E' { s with heap := h, toks := tk }) :
    ∀ (k i : Nat) (ys : List Value) (news : List (Addr × Obj)), i + k = n → J i ys news → CompRest prog w A h₀ L m env elt x scope cl s S P Fin k i ys news
  | 0, i, ys, news, e, hj => CompRest.zero (fin ys news (by rw [← show i = n from e]; exact hj))
  | k + 1, i, ys, news, e, hj => CompRest.succ fun v I oI C oC D m₂ h tk E' hP hC hx F N o ne =>
      wpAny_mono (step i ys news v I oI C oC D m₂ h tk E' (by omega) hj hP hC hx F N o ne) (fun y s' z => compEnd_mono z fun y' n' hj' => rest_ind J fin step k (i + 1) _ _ (by omega) hj') fun _ _ z => z
theorem restT_ind {ct elt : Expr} {x : Str} {scope : Scope} {cl : List (Str × Addr)} {S : List (Addr × Obj) → Prop} {P : Nat → Value → Prop} {Fin : List Value → List (Addr × Obj) → Prop} {n : Nat} (J : Nat → List Value → List (Addr × Obj) → Prop)
    (fin : ∀ ys news, J n ys news → Fin ys news)
    (step : ∀ i ys news v I oI C oC D m₂ h tk (E' : Value → Shared → Prop), i < n → J i ys news → P i v → NsObj oC m₂ → m₂ x = some v → Fr h₀ L h m → News h₀ L h ((I, oI) :: (C, oC) :: (D, lst ys) :: news) → Off3 I C D news → ((@Ne Nat I C) ∧ (@Ne Nat I D) ∧ (@Ne Nat C D)) →
      wpAny (model prog w) A (isTrue ct (compEnvC scope cl C env) (eval ct (compEnvC scope cl C env))) (fun ok s' => if ok = true then
        wpAny (model prog w) A (eval elt (compEnvC scope cl C env)) (CompEnd h₀ L m { s with heap := h, toks := tk } I oI C oC D (lst ys) S (fun y news' => J (i + 1) (ys ++ [y]) news')) E' s'
        else CompEnd h₀ L m { s with heap := h, toks := tk } I oI C oC D (lst ys) S (fun _ news' => J (i + 1) ys news') Value.none s') E' { s with heap := h, toks := tk }) :
    ∀ (k i : Nat) (ys : List Value) (news : List (Addr × Obj)), i + k = n → J i ys news → CompRestT prog w A h₀ L m env ct elt x scope cl s S P Fin k i ys news
  | 0, i, ys, news, e, hj => CompRestT.zero (fin ys news (by rw [← show i = n from e]; exact hj))
  | k + 1, i, ys, news, e, hj => CompRestT.succ fun v I oI C oC D m₂ h tk E' hP hC hx F N o ne =>
      wpAny_mono (step i ys news v I oI C oC D m₂ h tk E' (by omega) hj hP hC hx F N o ne) (fun ok s' z => by
        by_cases hok : ok = true
        · rw [if_pos hok] at z ⊢
          exact wpAny_mono z (fun y s'' z' => compEnd_mono z' fun y' n' hj' => restT_ind J fin step k (i + 1) _ _ (by omega) hj') fun _ _ z => z
        · rw [if_neg hok] at z ⊢
          exact compEnd_mono z fun y' n' hj' => restT_ind J fin step k (i + 1) _ _ (by omega) hj') fun _ _ z => z
end
end Mine
end
section
open PySem PySem.W PySem.Calls PyProof.Rows PyProof.V
namespace Mine
set_option maxRecDepth 100000

/-- a ledger less one address -/
def but (d : Addr) (l : List (Addr × Obj)) : List (Addr × Obj) := l.filter fun p => decide (p.1 ≠ d)
theorem mem_but {d : Addr} {l : List (Addr × Obj)} {p : Addr × Obj} : p ∈ but d l ↔ p ∈ l ∧ p.1 ≠ d := by unfold but; rw [List.mem_filter]; simp
theorem but_off {d : Addr} {l : List (Addr × Obj)} : ∀ p ∈ but d l, p.1 ≠ d := fun _ hp => (mem_but.mp hp).2
theorem mem_put {d : Addr} {o' : Obj} {l : List (Addr × Obj)} {p : Addr × Obj} (hp : p ∈ l) (hn : p.1 ≠ d) : p ∈ (d, o') :: but d l := .tail _ (mem_but.mpr ⟨hp, hn⟩)
theorem news_but {h₀ h : Heap} {L d : Addr} {o : Obj} {l : List (Addr × Obj)} (N : News h₀ L h l) (hm : (d, o) ∈ l) : News h₀ L h ((d, o) :: but d l) := fun p hp => by
  rcases List.mem_cons.mp hp with rfl | hp
  · exact N _ hm
  · exact N _ (mem_but.mp hp).1

section
variable {prog : Program} {w : World} {A : Around} {E : Value → Shared → Prop} {s : Shared} {h₀ : Heap} {L d : Addr} {m : Str → Option Value} {news : List (Addr × Obj)}
theorem kda_setB {K : Type} [DecidableEq K] {knd : KeyKind prog w K} {o : Obj} {kvs : List (K × Value)} {k : K} {key v : Value} {Q : Unit → Shared → Prop} (F : Fr h₀ L s.heap m) (N : News h₀ L s.heap news) (hm : (d, o) ∈ news) (hd : o.IsDictOf knd kvs) (hkey : knd.is k key = true) (hsz : kvs.length ≤ sizeLine)
    (h : ∀ h' o', Fr h₀ L h' m → News h₀ L h' ((d, o') :: but d news) → o'.IsDictOf knd (stored kvs k v) → Q () { s with heap := h', toks := s.toks + 1 }) : wpAny (model prog w) A (setItem (.ref d) key v) Q E s :=
  kda_set F (news_but N hm) (UpdF.head but_off) hd hkey hsz h
theorem append_B {vs : List Value} {n : Nat} {x : Value} {Q : Value → Shared → Prop} (F : Fr h₀ L s.heap m) (N : News h₀ L s.heap news) (hm : (d, listOf vs.toArray n) ∈ news) (hsz : vs.length ≤ 16777216)
    (h : ∀ h', Fr h₀ L h' m → News h₀ L h' ((d, listOf (vs ++ [x]).toArray (n + 1)) :: but d news) → Q .none { s with heap := h' }) : wpAny (model prog w) A (call (.builtin "list.append") [.ref d, x]) Q E s :=
  append_K F (news_but N hm) (Upd.head but_off) (fun h' F' N' => h h' F' (by rw [List.push_toArray] at N'; exact N')) (by rw [sizeLine_eq, List.size_toArray]; exact hsz)
theorem set_slotB {K : Frag} {x C p : Addr} {ox ox' od : Obj} {name : Str} {v : Value} {i : Nat} {Q : Unit → Shared → Prop} (F : Fr h₀ L s.heap m) (X₀ : K.In h₀) (N : News h₀ L s.heap news) (I : InstAt s.heap x ox C (some od))
    (hs : findIn K (.ref C) "__setattr__" = some (some (.builtin "object.__setattr__"))) (hp : plainOver K C = true) (ht : takerIn K C name = some (some (.ref p))) (hT : typeIn K (.ref p) = some (.type "member_descriptor")) (hi : slotIn K p C = some i) (hz : i < 1000)
    (e : { ox with slots := (ox.slots ++ Array.replicate (i + 1 - ox.slots.size) none).setIfInBounds i (some v) } = ox') (hf : ox'.isFreed = false) (hm : (x, ox) ∈ news)
    (h : ∀ h', Fr h₀ L h' m → News h₀ L h' ((x, ox') :: but x news) → Q () { s with heap := h', toks := s.toks + 1 }) : wpAny (model prog w) A (setAttr (.ref x) name v) Q E s :=
  set_slot F X₀ (news_but N hm) I hs hp ht hT hi hz e hf (Upd.head but_off) h
/-- a dict's item under a key: there, or a KeyError -/
theorem kda_item2 {K : Type} [DecidableEq K] {knd : KeyKind prog w K} {o : Obj} {kvs : List (K × Value)} {k : K} {key : Value} {value slice : PySem.Expr} {Q : Value → Shared → Prop} (N : News h₀ L s.heap news) (hm : (d, o) ∈ news) (hd : o.IsDictOf knd kvs) (lo : (d == sysModules) = false) (hh : A.handled = none) (hkey : knd.is k key = true)
    (h1 : ∀ v, valueAt kvs k = some v → Q v { s with toks := s.toks + 1 }) (h2 : valueAt kvs k = none → ∀ h' e, Heap.NewExc s.heap h' e "KeyError" → E (.ref e) { s with heap := h', toks := s.toks + 1 })
    (hs : subscripted slice false (.ref d) key = operate [.ref d, key] (getItem (.ref d) key) := by with_unfolding_all rfl) :
    wpAny (model prog w) A (subscriptTail value slice (.ref d) key) Q E s := by
  refine kdt_tail N hm hd ?_ hs
  cases hv : valueAt kvs k with
  | some v => exact kdt_getItem N hm hd hkey hv (h1 v hv)
  | none => exact wpAny_getItem_missing_of hkey lo hh (kda_dict N hm hd).mapOf hv (h2 hv)
end

/-! the trie's nodes -/
structure Nd where
  a : Addr
  dx : Addr
  c : Addr
  oc : Obj
  tok : Value
  out : Value
  fail : Value
def nodeObj (cN : Addr) (n : Nd) : Obj := { cls := .ref cN, dict := some n.dx, data := .plain, slots := #[some (.ref n.c), some n.fail, some n.out, some n.tok] }
def Nd.objs (cN : Addr) (n : Nd) : List (Addr × Obj) := [(n.a, nodeObj cN n), (n.dx, dictOf [] 0), (n.c, n.oc)]
def adOf (nd : List Nd) (j : Nat) : Addr := ((nd[j]?).map Nd.a).getD 0

theorem gl {α : Type} (us : List α) (u d : α) : (us ++ [u]).getLastD d = u := by rw [List.getLastD_eq_getLast?]; simp
/-- the children of a path: word and number, in the order of their making -/
def kidsFrom : Nat → List (List Str) → List Str → List (Str × Nat)
  | _, [], _ => []
  | k, q :: r, p => if q ≠ [] ∧ q.dropLast = p then (q.getLastD ⟨#[]⟩, k) :: kidsFrom (k + 1) r p else kidsFrom (k + 1) r p
def kids (P : List (List Str)) (p : List Str) : List (Str × Nat) := kidsFrom 0 P p
theorem kidsFrom_append : ∀ (P Q : List (List Str)) (k : Nat) (p : List Str), kidsFrom k (P ++ Q) p = kidsFrom k P p ++ kidsFrom (k + P.length) Q p
  | [], Q, k, p => by simp [kidsFrom]
  | q :: P, Q, k, p => by
    rw [List.cons_append, kidsFrom, kidsFrom, kidsFrom_append P Q (k + 1) p, List.length_cons]
    have e : k + 1 + P.length = k + (P.length + 1) := by omega
    rw [e]
    split <;> simp
theorem kids_snoc (P : List (List Str)) (q p : List Str) : kids (P ++ [q]) p = kids P p ++ (if q ≠ [] ∧ q.dropLast = p then [(q.getLastD ⟨#[]⟩, P.length)] else []) := by
  unfold kids
  rw [kidsFrom_append]
  congr 1
  simp only [kidsFrom, Nat.zero_add]
theorem kidsFrom_mem : ∀ {P : List (List Str)} {k : Nat} {p : List Str} {x : Str} {j : Nat}, (x, j) ∈ kidsFrom k P p → ∃ i, j = k + i ∧ P[i]? = some (p ++ [x])
  | [], _, _, _, _, h => by simp [kidsFrom] at h
  | q :: P, k, p, x, j, h => by
    rw [kidsFrom] at h
    split at h
    · rename_i hq
      rcases List.mem_cons.mp h with e | h
      · cases e
        refine ⟨0, rfl, ?_⟩
        obtain ⟨us, u, rfl⟩ : ∃ us u, q = us ++ [u] := ⟨q.dropLast, q.getLast hq.1, (List.dropLast_concat_getLast _).symm⟩
        rw [← hq.2, gl]; simp
      · obtain ⟨i, rfl, hi⟩ := kidsFrom_mem h
        exact ⟨i + 1, by omega, by simpa using hi⟩
    · obtain ⟨i, rfl, hi⟩ := kidsFrom_mem h
      exact ⟨i + 1, by omega, by simpa using hi⟩
theorem kids_mem {P : List (List Str)} {p : List Str} {x : Str} {j : Nat} (h : (x, j) ∈ kids P p) : P[j]? = some (p ++ [x]) := by
  obtain ⟨i, e, hi⟩ := kidsFrom_mem h
  rw [show j = i by omega]; exact hi
theorem kidsFrom_of : ∀ {P : List (List Str)} {k : Nat} {p : List Str} {x : Str} {i : Nat}, P[i]? = some (p ++ [x]) → (x, k + i) ∈ kidsFrom k P p
  | [], _, _, _, _, h => by simp at h
  | q :: P, k, p, x, 0, h => by
    have e : q = p ++ [x] := by simpa using h
    rw [kidsFrom, if_pos (by rw [e]; simp)]
    rw [e, gl]; exact .head _
  | q :: P, k, p, x, i + 1, h => by
    have ih := kidsFrom_of (P := P) (k := k + 1) (p := p) (x := x) (i := i) (by simpa using h)
    rw [show k + (i + 1) = k + 1 + i by omega, kidsFrom]
    split
    · exact .tail _ ih
    · exact ih
theorem kids_of {P : List (List Str)} {p : List Str} {x : Str} {i : Nat} (h : P[i]? = some (p ++ [x])) : (x, i) ∈ kids P p := by
  have := kidsFrom_of (k := 0) h
  rwa [Nat.zero_add] at this
/-- what the dict of a path's node holds -/
def kvsOf (nd : List Nd) (P : List (List Str)) (p : List Str) : List (Str × Value) := (kids P p).map fun (x, j) => (x, .ref (adOf nd j))
theorem valueAt_map (g : Nat → Value) (x : Str) : ∀ (l : List (Str × Nat)), valueAt (l.map fun (y, j) => (y, g j)) x = (l.find? fun y => decide (y.1 = x)).map fun y => g y.2 := by
  intro l
  unfold valueAt
  induction l with
  | nil => rfl
  | cons y l ih =>
    obtain ⟨y, j⟩ := y
    simp only [List.map_cons, List.find?_cons]
    by_cases h : y = x
    · simp [h]
    · simp only [h, decide_false]
      exact ih
theorem value_none {nd : List Nd} {P : List (List Str)} {p : List Str} {x : Str} (h : p ++ [x] ∉ P) : valueAt (kvsOf nd P p) x = none := by
  unfold kvsOf
  rw [valueAt_map (fun j => .ref (adOf nd j))]
  rw [Option.map_eq_none_iff, List.find?_eq_none]
  rintro ⟨y, j⟩ hy hx
  have : y = x := by simpa using hx
  subst this
  exact h (List.mem_of_getElem? (kids_mem hy))
theorem value_some {nd : List Nd} {P : List (List Str)} {p : List Str} {x : Str} {i : Nat} (hn : P.Nodup) (h : P[i]? = some (p ++ [x])) : valueAt (kvsOf nd P p) x = some (.ref (adOf nd i)) := by
  unfold kvsOf
  rw [valueAt_map (fun j => .ref (adOf nd j))]
  have hm := kids_of h
  cases hf : (kids P p).find? fun y => decide (y.1 = x) with
  | none => exact absurd (by simp) (List.find?_eq_none.mp hf _ hm)
  | some y =>
    obtain ⟨y, j⟩ := y
    have e : y = x := by simpa using List.find?_some hf
    subst e
    have hj := kids_mem (List.mem_of_find?_eq_some hf)
    have hlt : i < P.length := (List.getElem?_eq_some_iff.mp h).1
    have : i = j := (List.getElem?_inj hlt hn).mp (h.trans hj.symm)
    rw [this]; rfl

structure NodesOk (prog : Program) (w : World) (nd : List Nd) (P : List (List Str)) : Prop where
  len : nd.length = P.length
  dict : ∀ (i : Nat) (n : Nd) (p : List Str), nd[i]? = some n → P[i]? = some p → n.oc.IsDictOf (strKind prog w) (kvsOf nd P p)
  lo : ∀ n ∈ nd, (n.c == sysModules) = false
  root : P[0]? = some []
  nodup : P.Nodup
  closed : ∀ p ∈ P, p.dropLast ∈ P
  tok : ∀ (i : Nat) (n : Nd) (p : List Str), nd[i]? = some n → P[i]? = some p → ∃ t, n.tok = .str (p.getLastD ⟨#[]⟩) t

def Apart (l : List (Addr × Obj)) : Prop := (l.map (·.1)).Nodup
def objsOf (cN : Addr) (nd : List Nd) : List (Addr × Obj) := nd.flatMap (Nd.objs cN)

structure TrieHd where
  tr : Addr
  dx : Addr
  kd : Addr
  okd : Obj
  t0 : Tok
  t1 : Tok
  t2 : Tok
def hdEnts (P : Params) (conv : Bool) (H : TrieHd) (root : Addr) : List DictEntry :=
  [⟨PyData.keyHash P "root", .str "root" H.t0, .ref root⟩, ⟨PyData.keyHash P "_known_tokens", .str "_known_tokens" H.t1, .ref H.kd⟩, ⟨PyData.keyHash P "_converted", .str "_converted" H.t2, .bool conv⟩]
def hdObjs (P : Params) (cT : Addr) (conv : Bool) (H : TrieHd) (root : Addr) : List (Addr × Obj) :=
  [(H.tr, { cls := .ref cT, dict := some H.dx, data := .plain }), (H.dx, dictOf (hdEnts P conv H root) 3), (H.kd, H.okd)]

/-- the known words -/
def kvKnown (ks : List Str) : List (Str × Value) := ks.map fun x => (x, .bool true)
def addKnown (ks : List Str) (x : Str) : List Str := if x ∈ ks then ks else ks ++ [x]
theorem known_any (ks : List Str) (x : Str) : ((kvKnown ks).any fun kv => decide (kv.1 = x)) = decide (x ∈ ks) := by
  induction ks with
  | nil => rfl
  | cons k ks ih =>
    show (decide (k = x) || (kvKnown ks).any fun kv => decide (kv.1 = x)) = decide (x ∈ k :: ks)
    rw [ih]
    by_cases h : k = x
    · subst h; simp
    · have h' : ¬ x = k := fun e => h e.symm
      simp [h, h']
theorem known_at (ks : List Str) (x : Str) : (valueAt (kvKnown ks) x).isSome = decide (x ∈ ks) := by rw [valueAt_isSome_eq_any, known_any]
theorem stored_known (ks : List Str) (x : Str) : stored (kvKnown ks) x (.bool true) = kvKnown (addKnown ks x) := by
  unfold stored addKnown
  rw [known_any]
  by_cases h : x ∈ ks
  · rw [if_pos h, if_pos (decide_eq_true h)]
    unfold kvKnown
    rw [List.map_map]
    refine List.map_congr_left fun y _ => ?_
    show (if y = x then (y, Value.bool true) else (y, .bool true)) = _
    split <;> rfl
  · rw [if_neg h, if_neg (by simpa using h)]
    simp [kvKnown]

theorem off1_mem {D : Addr} : ∀ {l : List (Addr × Obj)}, LCg.Off1 D l → ∀ p ∈ l, p.1 ≠ D
  | [], _, _, h => nomatch h
  | _ :: _, x, p, h => by
    rcases List.mem_cons.mp h with rfl | h
    · exact x.1
    · exact off1_mem x.2 p h
theorem known_len (ks : List Str) (x : Str) : (addKnown ks x).length ≤ ks.length + 1 := by unfold addKnown; split <;> simp
theorem known_fold_len (l : List Str) : ∀ ks : List Str, (l.foldl addKnown ks).length ≤ ks.length + l.length := by
  induction l with
  | nil => intro ks; exact Nat.le_refl _
  | cons y l ih => intro ks; rw [List.foldl_cons]; have := ih (addKnown ks y); have := known_len ks y; rw [List.length_cons]; omega
theorem kvKnown_len (ks : List Str) : (kvKnown ks).length = ks.length := by simp [kvKnown]

theorem hd_ne {P : Params} {cT : Addr} {cv : Bool} {H : TrieHd} {r : Addr} {l : List (Addr × Obj)} (h : Apart (hdObjs P cT cv H r ++ l)) : H.tr ≠ H.dx ∧ H.tr ≠ H.kd ∧ H.dx ≠ H.kd ∧ (∀ p ∈ l, p.1 ≠ H.tr ∧ p.1 ≠ H.dx ∧ p.1 ≠ H.kd) ∧ Apart l := by
  unfold Apart hdObjs at h
  simp only [List.cons_append, List.nil_append, List.map_cons, List.nodup_cons, List.mem_cons, not_or] at h
  obtain ⟨⟨h1, h2, h3⟩, ⟨h4, h5⟩, h6, h7⟩ := h
  refine ⟨h1, h2, h4, fun p hp => ?_, h7⟩
  have hm : p.1 ∈ l.map (·.1) := List.mem_map.mpr ⟨p, hp, rfl⟩
  exact ⟨fun e => h3 (e ▸ hm), fun e => h5 (e ▸ hm), fun e => h6 (e ▸ hm)⟩

theorem adOf_lt {nd : List Nd} {j : Nat} (h : j < nd.length) : ∃ n, nd[j]? = some n ∧ adOf nd j = n.a := ⟨nd[j], by simp [h], by simp [adOf, h]⟩
theorem adOf_of {nd : List Nd} {j : Nat} {n : Nd} (h : nd[j]? = some n) : adOf nd j = n.a := by simp [adOf, h]
/-- the same places -/
def Same (nd nd' : List Nd) : Prop := nd'.map (fun n => (n.a, n.dx, n.c)) = nd.map (fun n => (n.a, n.dx, n.c))
theorem same_set {nd : List Nd} {j : Nat} {n : Nd} (h : nd[j]? = some n) (n' : Nd) (e : (n'.a, n'.dx, n'.c) = (n.a, n.dx, n.c)) : Same nd (nd.set j n') := by
  unfold Same
  rw [List.map_set, e]
  apply List.ext_getElem?
  intro i
  rw [List.getElem?_set]
  split
  · rename_i q; subst q
    split
    · simp [h]
    · rename_i q2
      exact absurd (List.getElem?_eq_some_iff.mp h).1 (by simpa using q2)
  · rfl
theorem same_len {nd nd' : List Nd} (h : Same nd nd') : nd'.length = nd.length := by have := congrArg List.length h; simpa using this
theorem same_ad {nd nd' : List Nd} (h : Same nd nd') (j : Nat) : adOf nd' j = adOf nd j := by
  unfold adOf
  have := congrArg (fun l => (l[j]?).map (·.1)) h
  simp only [List.getElem?_map, Option.map_map] at this
  have e : ((fun x : Addr × Addr × Addr => x.1) ∘ fun n : Nd => (n.a, n.dx, n.c)) = Nd.a := rfl
  rw [e] at this
  rw [this]
theorem adOf_snoc {nd : List Nd} {n : Nd} {j : Nat} (h : j < nd.length) : adOf (nd ++ [n]) j = adOf nd j := by unfold adOf; rw [List.getElem?_append_left h]
theorem adOf_last {nd : List Nd} {n : Nd} : adOf (nd ++ [n]) nd.length = n.a := by unfold adOf; simp
theorem kids_lt {P : List (List Str)} {p : List Str} {x : Str} {j : Nat} (h : (x, j) ∈ kids P p) : j < P.length := (List.getElem?_eq_some_iff.mp (kids_mem h)).1
theorem kvsOf_congr {nd nd' : List Nd} {P : List (List Str)} {p : List Str} (h : ∀ j, j < P.length → adOf nd' j = adOf nd j) : kvsOf nd' P p = kvsOf nd P p := by
  unfold kvsOf
  refine List.map_congr_left ?_
  rintro ⟨x, j⟩ hm
  show (x, Value.ref (adOf nd' j)) = (x, Value.ref (adOf nd j))
  rw [h j (kids_lt hm)]
theorem nodes_add {prog : Program} {w : World} {nd : List Nd} {P : List (List Str)} {j : Nat} {p : List Str} {n nn : Nd} {x : Str} {t : Tok} {oc' : Obj} (h : NodesOk prog w nd P) (hp : P[j]? = some p) (hn : nd[j]? = some n) (hx : p ++ [x] ∉ P)
    (hnn : nn.oc.IsDictOf (strKind prog w) []) (hlo : (nn.c == sysModules) = false) (htok : nn.tok = .str x t) (hoc : oc'.IsDictOf (strKind prog w) (stored (kvsOf nd P p) x (.ref nn.a))) :
    NodesOk prog w (nd.set j { n with oc := oc' } ++ [nn]) (P ++ [p ++ [x]]) := by
  have hS : Same nd (nd.set j { n with oc := oc' }) := same_set hn _ rfl
  have hL := same_len hS
  have had : ∀ i, i < P.length → adOf (nd.set j { n with oc := oc' } ++ [nn]) i = adOf nd i := fun i hi => by
    rw [adOf_snoc (by rw [hL, h.len]; exact hi), same_ad hS]
  have hlast : adOf (nd.set j { n with oc := oc' } ++ [nn]) P.length = nn.a := by
    have := adOf_last (nd := nd.set j { n with oc := oc' }) (n := nn)
    rwa [hL, h.len] at this
  have hpm : p ∈ P := List.mem_of_getElem? hp
  have key : ∀ q, kvsOf (nd.set j { n with oc := oc' } ++ [nn]) (P ++ [p ++ [x]]) q = kvsOf nd P q ++ (if p = q then [(x, .ref nn.a)] else []) := fun q => by
    unfold kvsOf
    rw [kids_snoc, List.map_append]
    congr 1
    · exact kvsOf_congr had
    · have e : (p ++ [x] ≠ [] ∧ (p ++ [x]).dropLast = q) ↔ p = q := by simp
      by_cases hq : p = q
      · rw [if_pos (e.mpr hq), if_pos hq, gl]
        simp [hlast]
      · rw [if_neg (fun z => hq (e.mp z)), if_neg hq]; rfl
  refine ⟨?_, ?_, ?_, ?_, ?_, ?_, ?_⟩
  · simp [h.len]
  · intro i n' q hi hq
    rw [key]
    by_cases hlt : i < P.length
    · rw [List.getElem?_append_left hlt] at hq
      rw [List.getElem?_append_left (by rw [hL, h.len]; exact hlt)] at hi
      by_cases hij : i = j
      · subst hij
        rw [hp] at hq
        cases hq
        rw [if_pos rfl]
        rw [List.getElem?_set_self (by rw [h.len]; exact hlt)] at hi
        cases hi
        rw [stored_absent (value_none hx)] at hoc
        exact hoc
      · have hne : p ≠ q := fun e => hij ((List.getElem?_inj hlt h.nodup).mp (hq.trans (e ▸ hp.symm)))
        rw [if_neg hne, List.append_nil]
        rw [List.getElem?_set_ne (fun e => hij e.symm)] at hi
        exact h.dict i n' q hi hq
    · have hi' : i = P.length := by
        have := (List.getElem?_eq_some_iff.mp hq).1
        simp at this; omega
      subst hi'
      have e1 : q = p ++ [x] := by simpa using hq.symm
      have e2 : n' = nn := by
        rw [List.getElem?_append_right (by rw [hL, h.len]; exact Nat.le_refl _), hL, h.len] at hi
        simpa using hi.symm
      subst e1 e2
      rw [if_neg (by simp), List.append_nil]
      have hk : kvsOf nd P (p ++ [x]) = [] := by
        unfold kvsOf
        cases hk : kids P (p ++ [x]) with
        | nil => rfl
        | cons y l =>
          exfalso
          obtain ⟨y, k⟩ := y
          have hm : (y, k) ∈ kids P (p ++ [x]) := by rw [hk]; exact .head _
          have := h.closed _ (List.mem_of_getElem? (kids_mem hm))
          simp at this
          exact hx this
      rw [hk]; exact hnn
  · intro n' hn'
    rcases List.mem_append.mp hn' with hm | hm
    · rcases List.mem_or_eq_of_mem_set hm with hm | rfl
      · exact h.lo _ hm
      · exact h.lo n (List.mem_of_getElem? hn)
    · rw [List.mem_singleton.mp hm]; exact hlo
  · have : 0 < P.length := (List.getElem?_eq_some_iff.mp hp).1 |> Nat.lt_of_le_of_lt (Nat.zero_le _)
    rw [List.getElem?_append_left this]; exact h.root
  · rw [List.nodup_append]
    refine ⟨h.nodup, by simp, fun q hq r hr => ?_⟩
    rw [List.mem_singleton.mp hr]
    rintro rfl
    exact hx hq
  · intro q hq
    rcases List.mem_append.mp hq with hq | hq
    · exact List.mem_append_left _ (h.closed q hq)
    · rw [List.mem_singleton.mp hq]
      rw [List.dropLast_concat]; exact List.mem_append_left _ hpm
  · intro i n' q hi hq
    by_cases hlt : i < P.length
    · rw [List.getElem?_append_left hlt] at hq
      rw [List.getElem?_append_left (by rw [hL, h.len]; exact hlt)] at hi
      by_cases hij : i = j
      · subst hij
        rw [List.getElem?_set_self (by rw [h.len]; exact hlt)] at hi
        cases hi
        exact h.tok i n q hn hq
      · rw [List.getElem?_set_ne (fun e => hij e.symm)] at hi
        exact h.tok i n' q hi hq
    · have hi' : i = P.length := by
        have := (List.getElem?_eq_some_iff.mp hq).1
        simp at this; omega
      subst hi'
      have e1 : q = p ++ [x] := by simpa using hq.symm
      have e2 : n' = nn := by
        rw [List.getElem?_append_right (by rw [hL, h.len]; exact Nat.le_refl _), hL, h.len] at hi
        simpa using hi.symm
      subst e1 e2
      rw [gl]; exact ⟨t, htok⟩

/-! where nodes lie in a ledger -/
theorem mem_objs {cN : Addr} {nd : List Nd} {p : Addr × Obj} : p ∈ objsOf cN nd ↔ ∃ (i : Nat) (n : Nd), nd[i]? = some n ∧ p ∈ n.objs cN := by
  unfold objsOf
  rw [List.mem_flatMap]
  constructor
  · rintro ⟨n, hn, hp⟩
    obtain ⟨i, hi⟩ := List.mem_iff_getElem?.mp hn
    exact ⟨i, n, hi, hp⟩
  · rintro ⟨i, n, hi, hp⟩
    exact ⟨n, List.mem_of_getElem? hi, hp⟩
theorem objs_snoc {cN : Addr} {nd : List Nd} {n : Nd} : objsOf cN (nd ++ [n]) = objsOf cN nd ++ n.objs cN := by simp [objsOf]
theorem objs_addr (cN : Addr) (nd : List Nd) : (objsOf cN nd).map (·.1) = (nd.map fun n => (n.a, n.dx, n.c)).flatMap fun t => [t.1, t.2.1, t.2.2] := by
  unfold objsOf
  rw [List.map_flatMap, List.flatMap_map]
  rfl
theorem apart_same {cN : Addr} {nd nd' : List Nd} {r : List (Addr × Obj)} (h : Same nd nd') (ha : Apart (objsOf cN nd ++ r)) : Apart (objsOf cN nd' ++ r) := by
  unfold Apart at *
  rw [List.map_append, objs_addr, h, ← objs_addr, ← List.map_append]
  exact ha
/-- two entries of a ledger that lies apart, at one address, are one -/
theorem apart_eq {l : List (Addr × Obj)} (h : Apart l) {p q : Addr × Obj} (hp : p ∈ l) (hq : q ∈ l) (e : p.1 = q.1) : p = q := by
  induction l with
  | nil => cases hp
  | cons r l ih =>
    unfold Apart at h
    rw [List.map_cons, List.nodup_cons] at h
    rcases List.mem_cons.mp hp with rfl | hp'
    · rcases List.mem_cons.mp hq with rfl | hq'
      · rfl
      · exact absurd (List.mem_map.mpr ⟨q, hq', e.symm⟩) h.1
    · rcases List.mem_cons.mp hq with rfl | hq'
      · exact absurd (List.mem_map.mpr ⟨p, hp', e⟩) h.1
      · exact ih h.2 hp' hq'
theorem apart_app {a b : List (Addr × Obj)} : Apart (a ++ b) ↔ Apart a ∧ Apart b ∧ ∀ p ∈ a, ∀ q ∈ b, p.1 ≠ q.1 := by
  unfold Apart
  rw [List.map_append, List.nodup_append]
  constructor
  · rintro ⟨h1, h2, h3⟩
    exact ⟨h1, h2, fun p hp q hq => h3 _ (List.mem_map.mpr ⟨p, hp, rfl⟩) _ (List.mem_map.mpr ⟨q, hq, rfl⟩)⟩
  · rintro ⟨h1, h2, h3⟩
    refine ⟨h1, h2, fun x hx y hy => ?_⟩
    obtain ⟨p, hp, rfl⟩ := List.mem_map.mp hx
    obtain ⟨q, hq, rfl⟩ := List.mem_map.mp hy
    exact h3 p hp q hq
theorem apart_perm {a b : List (Addr × Obj)} (h : a.Perm b) (ha : Apart a) : Apart b := ((h.map _).nodup_iff).mp ha
theorem apart_snoc {cN : Addr} {nd : List Nd} {nn : Nd} {r : List (Addr × Obj)} (ha : Apart (objsOf cN nd ++ r)) (h1 : ∀ p ∈ objsOf cN nd ++ r, p.1 ≠ nn.a) (h2 : ∀ p ∈ objsOf cN nd ++ r, p.1 ≠ nn.dx) (h3 : ∀ p ∈ objsOf cN nd ++ r, p.1 ≠ nn.c)
    (e1 : nn.a ≠ nn.dx) (e2 : nn.a ≠ nn.c) (e3 : nn.dx ≠ nn.c) : Apart (objsOf cN (nd ++ [nn]) ++ r) := by
  have : Apart (nn.objs cN ++ (objsOf cN nd ++ r)) := by
    rw [apart_app]
    refine ⟨?_, ha, ?_⟩
    · unfold Apart Nd.objs
      simp [e1, e2, e3]
    · intro p hp q hq
      unfold Nd.objs at hp
      simp only [List.mem_cons, List.not_mem_nil, or_false] at hp
      rcases hp with rfl | rfl | rfl
      · exact (h1 q hq).symm
      · exact (h2 q hq).symm
      · exact (h3 q hq).symm
  refine apart_perm ?_ this
  rw [objs_snoc, List.append_assoc]
  exact (List.perm_append_comm_assoc _ _ _)

theorem apart_cons {a : Addr} {o : Obj} {l : List (Addr × Obj)} : Apart ((a, o) :: l) ↔ (∀ p ∈ l, p.1 ≠ a) ∧ Apart l := by
  unfold Apart
  rw [List.map_cons, List.nodup_cons]
  constructor
  · rintro ⟨h1, h2⟩
    exact ⟨fun p hp e => h1 (List.mem_map.mpr ⟨p, hp, e⟩), h2⟩
  · rintro ⟨h1, h2⟩
    refine ⟨fun hm => ?_, h2⟩
    obtain ⟨p, hp, e⟩ := List.mem_map.mp hm
    exact h1 p hp e
/-! words put in, one by one -/
def addStep (st : List (List Str) × List Str) (x : Str) : List (List Str) × List Str :=
  (if st.2 ++ [x] ∈ st.1 then st.1 else st.1 ++ [st.2 ++ [x]], st.2 ++ [x])
def addAll (P : List (List Str)) (ws : List Str) : List (List Str) := (ws.foldl addStep (P, [])).1
theorem addFold_snd (ws : List Str) : ∀ st : List (List Str) × List Str, (ws.foldl addStep st).2 = st.2 ++ ws := by
  induction ws with
  | nil => intro st; simp
  | cons x r ih => intro st; rw [List.foldl_cons, ih]; simp [addStep]
theorem addFold_len (ws : List Str) : ∀ st : List (List Str) × List Str, (ws.foldl addStep st).1.length ≤ st.1.length + ws.length := by
  induction ws with
  | nil => intro st; exact Nat.le_refl _
  | cons x r ih =>
    intro st; rw [List.foldl_cons]; have := ih (addStep st x)
    have h2 : (addStep st x).1.length ≤ st.1.length + 1 := by unfold addStep; dsimp only; split <;> simp
    rw [List.length_cons]; omega
structure Ext (nilA : Addr) (nd nd' : List Nd) : Prop where
  old : ∀ (i : Nat) (n : Nd), nd[i]? = some n → ∃ n' : Nd, nd'[i]? = some n' ∧ n'.a = n.a ∧ n'.tok = n.tok ∧ n'.out = n.out ∧ n'.fail = n.fail
  new : ∀ (i : Nat) (n' : Nd), nd'[i]? = some n' → nd.length ≤ i → n'.out = .ref nilA ∧ n'.fail = .ref nilA
theorem Ext.refl (nilA : Addr) (nd : List Nd) : Ext nilA nd nd := ⟨fun i n h => ⟨n, h, rfl, rfl, rfl, rfl⟩, fun i n' h hl => by have := (List.getElem?_eq_some_iff.mp h).1; omega⟩
theorem Ext.len {nilA : Addr} {nd nd' : List Nd} (h : Ext nilA nd nd') : nd.length ≤ nd'.length := by
  by_cases hz : nd.length = 0
  · omega
  · obtain ⟨n', hn', _⟩ := h.old (nd.length - 1) (nd[nd.length - 1]'(by omega)) (by simp)
    have := (List.getElem?_eq_some_iff.mp hn').1; omega
theorem Ext.add {nilA : Addr} {nd nd' : List Nd} {j : Nat} {n nn : Nd} {oc' : Obj} (h : Ext nilA nd nd') (hn : nd'[j]? = some n) (ho : nn.out = .ref nilA) (hf : nn.fail = .ref nilA) : Ext nilA nd (nd'.set j { n with oc := oc' } ++ [nn]) := by
  have hL : (nd'.set j { n with oc := oc' }).length = nd'.length := List.length_set ..
  have hl := h.len
  refine ⟨fun i m hm => ?_, fun i m hm hi => ?_⟩
  · obtain ⟨m', hm', e⟩ := h.old i m hm
    have hlt := (List.getElem?_eq_some_iff.mp hm').1
    rw [List.getElem?_append_left (by rw [hL]; exact hlt)]
    by_cases hij : j = i
    · subst hij
      rw [hn] at hm'; cases hm'
      exact ⟨{ n with oc := oc' }, by rw [List.getElem?_set_self hlt], e⟩
    · exact ⟨m', by rw [List.getElem?_set_ne hij]; exact hm', e⟩
  · by_cases hlt : i < nd'.length
    · rw [List.getElem?_append_left (by rw [hL]; exact hlt)] at hm
      by_cases hij : j = i
      · subst hij
        rw [List.getElem?_set_self hlt] at hm
        cases hm
        exact h.new j n hn hi
      · rw [List.getElem?_set_ne hij] at hm
        exact h.new i m hm hi
    · rw [List.getElem?_append_right (by rw [hL]; omega), hL] at hm
      have : m ∈ [nn] := List.mem_of_getElem? hm
      rw [List.mem_singleton.mp this]; exact ⟨ho, hf⟩
theorem Ext.ad {nilA : Addr} {nd nd' : List Nd} (h : Ext nilA nd nd') {i : Nat} (hi : i < nd.length) : adOf nd' i = adOf nd i := by
  obtain ⟨n, hn, e⟩ := adOf_lt hi
  obtain ⟨n', hn', e', _⟩ := h.old i n hn
  rw [e, adOf_of hn', e']

theorem of_allLt {d : Addr} : ∀ {l : List (Addr × Obj)}, AllLt d l → ∀ p ∈ l, p.1 < d
  | [], _, _, h => nomatch h
  | _ :: _, x, p, h => by
    rcases List.mem_cons.mp h with rfl | h
    · exact x.1
    · exact of_allLt x.2 p h
theorem kidsFrom_len : ∀ (P : List (List Str)) (k : Nat) (p : List Str), (kidsFrom k P p).length ≤ P.length
  | [], _, _ => by simp [kidsFrom]
  | q :: P, k, p => by
    rw [kidsFrom]
    have := kidsFrom_len P (k + 1) p
    split <;> simp <;> omega
theorem kvsOf_len (nd : List Nd) (P : List (List Str)) (p : List Str) : (kvsOf nd P p).length ≤ P.length := by
  unfold kvsOf kids; rw [List.length_map]; exact kidsFrom_len P 0 p
theorem objs_cons {cN : Addr} {nd : List Nd} {n : Nd} : objsOf cN (n :: nd) = n.objs cN ++ objsOf cN nd := by simp [objsOf]
theorem apart_of {cN : Addr} : ∀ {nd : List Nd} {i : Nat} {n : Nd}, Apart (objsOf cN nd) → nd[i]? = some n → Apart (n.objs cN)
  | [], _, _, _, h => by simp at h
  | m :: nd, 0, n, ha, h => by
    have e : m = n := by simpa using h
    subst e
    rw [objs_cons, apart_app] at ha
    exact ha.1
  | m :: nd, i + 1, n, ha, h => by
    rw [objs_cons, apart_app] at ha
    exact apart_of ha.2.1 (by simpa using h)
theorem apart_ne {cN : Addr} : ∀ {nd : List Nd} {i j : Nat} {a b : Nd} {p q : Addr × Obj}, Apart (objsOf cN nd) → nd[i]? = some a → nd[j]? = some b → i ≠ j → p ∈ a.objs cN → q ∈ b.objs cN → p.1 ≠ q.1
  | [], _, _, _, _, _, _, _, h, _, _, _, _ => by simp at h
  | m :: nd, 0, 0, _, _, _, _, _, _, _, hne, _, _ => absurd rfl hne
  | m :: nd, 0, j + 1, a, b, p, q, ha, h1, h2, _, hp, hq => by
    have e : m = a := by simpa using h1
    subst e
    rw [objs_cons, apart_app] at ha
    exact ha.2.2 p hp q (mem_objs.mpr ⟨j, b, by simpa using h2, hq⟩)
  | m :: nd, i + 1, 0, a, b, p, q, ha, h1, h2, _, hp, hq => by
    have e : m = b := by simpa using h2
    subst e
    rw [objs_cons, apart_app] at ha
    exact (ha.2.2 q hq p (mem_objs.mpr ⟨i, a, by simpa using h1, hp⟩)).symm
  | m :: nd, i + 1, j + 1, a, b, p, q, ha, h1, h2, hne, hp, hq => by
    rw [objs_cons, apart_app] at ha
    exact apart_ne ha.2.1 (by simpa using h1) (by simpa using h2) (by omega) hp hq
/-- one node's entries when only its dict has changed, or only the node itself -/
theorem objs_set {cN : Addr} {nd : List Nd} {j : Nat} {n n' : Nd} (ha : Apart (objsOf cN nd)) (hn : nd[j]? = some n) {p : Addr × Obj} (hp : p ∈ objsOf cN (nd.set j n')) :
    p ∈ n'.objs cN ∨ (p ∈ objsOf cN nd ∧ ∀ q ∈ n.objs cN, p.1 ≠ q.1) := by
  obtain ⟨i, m, hi, hp⟩ := mem_objs.mp hp
  by_cases hij : j = i
  · subst hij
    rw [List.getElem?_set_self (List.getElem?_eq_some_iff.mp hn).1] at hi
    cases hi
    exact .inl hp
  · rw [List.getElem?_set_ne hij] at hi
    exact .inr ⟨mem_objs.mpr ⟨i, m, hi, hp⟩, fun q hq => apart_ne ha hi hn (fun e => hij e.symm) hp hq⟩
theorem nd_ne {cN : Addr} {n : Nd} (h : Apart (n.objs cN)) : n.a ≠ n.dx ∧ n.a ≠ n.c ∧ n.dx ≠ n.c := by
  unfold Apart Nd.objs at h
  simp only [List.map_cons, List.map_nil, List.nodup_cons, List.mem_cons, List.not_mem_nil, or_false, not_or] at h
  exact ⟨h.1.1, h.1.2, h.2.1⟩
theorem objs_put {cN : Addr} {nd : List Nd} {j : Nat} {n nn : Nd} {oc' : Obj} {r l : List (Addr × Obj)} (hap : Apart (objsOf cN nd ++ r)) (hn : nd[j]? = some n) (hl : ∀ p ∈ objsOf cN nd ++ r, p ∈ l)
    (hnn : ∀ p ∈ nn.objs cN, p ∈ l) (hx : ∀ p ∈ nn.objs cN, p.1 ≠ n.c) : ∀ p ∈ objsOf cN (nd.set j { n with oc := oc' } ++ [nn]) ++ r, p ∈ (n.c, oc') :: but n.c l := by
  obtain ⟨h1, h2, h3⟩ := apart_app.mp hap
  obtain ⟨e1, e2, e3⟩ := nd_ne (apart_of h1 hn)
  intro p hp
  have hmem : ∀ q ∈ n.objs cN, q ∈ objsOf cN nd := fun q hq => mem_objs.mpr ⟨j, n, hn, hq⟩
  rcases List.mem_append.mp hp with hp | hp
  · rw [objs_snoc] at hp
    rcases List.mem_append.mp hp with hp | hp
    · rcases objs_set h1 hn hp with hp | ⟨hp, hq⟩
      · unfold Nd.objs at hp
        simp only [List.mem_cons, List.not_mem_nil, or_false] at hp
        rcases hp with rfl | rfl | rfl
        · exact mem_put (hl _ (List.mem_append_left _ (hmem (n.a, nodeObj cN n) (.head _)))) e2
        · exact mem_put (hl _ (List.mem_append_left _ (hmem _ (.tail _ (.head _))))) e3
        · exact .head _
      · exact mem_put (hl _ (List.mem_append_left _ hp)) (hq (n.c, n.oc) (.tail _ (.tail _ (.head _))))
    · exact mem_put (hnn p hp) (hx p hp)
  · exact mem_put (hl _ (List.mem_append_right _ hp)) (h3 (n.c, n.oc) (hmem _ (.tail _ (.tail _ (.head _)))) p hp).symm
/-- one node turned (its own object alone) -/
theorem objs_turn {cN : Addr} {nd : List Nd} {j : Nat} {n n' : Nd} {r l : List (Addr × Obj)} (hap : Apart (objsOf cN nd ++ r)) (hn : nd[j]? = some n) (hl : ∀ p ∈ objsOf cN nd ++ r, p ∈ l)
    (e : (n'.a, n'.dx, n'.c, n'.oc) = (n.a, n.dx, n.c, n.oc)) : ∀ p ∈ objsOf cN (nd.set j n') ++ r, p ∈ (n.a, nodeObj cN n') :: but n.a l := by
  obtain ⟨h1, h2, h3⟩ := apart_app.mp hap
  obtain ⟨e1, e2, e3⟩ := nd_ne (apart_of h1 hn)
  simp only [Prod.mk.injEq] at e
  obtain ⟨q1, q2, q3, q4⟩ := e
  intro p hp
  have hmem : ∀ q ∈ n.objs cN, q ∈ objsOf cN nd := fun q hq => mem_objs.mpr ⟨j, n, hn, hq⟩
  rcases List.mem_append.mp hp with hp | hp
  · rcases objs_set h1 hn hp with hp | ⟨hp, hq⟩
    · unfold Nd.objs at hp
      simp only [List.mem_cons, List.not_mem_nil, or_false] at hp
      rw [q1, q2, q3, q4] at hp
      rcases hp with rfl | rfl | rfl
      · exact .head _
      · exact mem_put (hl _ (List.mem_append_left _ (hmem _ (.tail _ (.head _))))) e1.symm
      · exact mem_put (hl _ (List.mem_append_left _ (hmem _ (.tail _ (.tail _ (.head _)))))) e2.symm
    · exact mem_put (hl _ (List.mem_append_left _ hp)) (hq (n.a, nodeObj cN n) (.head _))
  · exact mem_put (hl _ (List.mem_append_right _ hp)) (h3 (n.a, nodeObj cN n) (hmem _ (.head _)) p hp).symm
theorem same_addr {cN : Addr} {nd nd' : List Nd} {r : List (Addr × Obj)} (h : Same nd nd') {p : Addr × Obj} (hp : p ∈ objsOf cN nd' ++ r) : ∃ q ∈ objsOf cN nd ++ r, q.1 = p.1 := by
  have e : (objsOf cN nd' ++ r).map (·.1) = (objsOf cN nd ++ r).map (·.1) := by rw [List.map_append, List.map_append, objs_addr, objs_addr, h]
  have : p.1 ∈ (objsOf cN nd ++ r).map (·.1) := e ▸ List.mem_map.mpr ⟨p, hp, rfl⟩
  exact List.mem_map.mp this

/-! a whole trie: its nodes' paths, what is told at each node, the known words -/
abbrev tupO (vs : List Value) : Obj := { cls := .type "tuple", data := .seq vs.toArray }
def pairObj (x : Str) (t : Tok) (y : Str) (u : Tok) : Obj := tupO [.str x t, .str y u]
structure Outs (nilA : Addr) (nd : List Nd) (O : List (Option (Str × Str))) (rest : List (Addr × Obj)) : Prop where
  len : O.length = nd.length
  none_ : ∀ (i : Nat) (n : Nd), nd[i]? = some n → O[i]? = some none → n.out = .ref nilA
  some_ : ∀ (i : Nat) (n : Nd) (x y : Str), nd[i]? = some n → O[i]? = some (some (x, y)) → ∃ ta t u, n.out = .ref ta ∧ (ta, pairObj x t y u) ∈ rest
structure TrieS (prog : Program) (w : World) (nilA cT cN : Addr) (H : TrieHd) (nd : List Nd) (P : List (List Str)) (O : List (Option (Str × Str))) (ks : List Str) (rest : List (Addr × Obj)) : Prop where
  ok : NodesOk prog w nd P
  known : H.okd.IsDictOf (strKind prog w) (kvKnown ks)
  outs : Outs nilA nd O rest
  fails : ∀ (i : Nat) (n : Nd), nd[i]? = some n → n.fail = .ref nilA
  apart : Apart (hdObjs w.params cT false H (adOf nd 0) ++ (objsOf cN nd ++ rest))
/-- what stands told behind one more word row -/
def addOut (O : List (Option (Str × Str))) (k j : Nat) (xy : Str × Str) : List (Option (Str × Str)) := (O ++ List.replicate k none).set j (some xy)
theorem Outs.add {nilA : Addr} {nd nd' : List Nd} {O : List (Option (Str × Str))} {rest : List (Addr × Obj)} {j : Nat} {n : Nd} {x y : Str} {t u : Tok} {ta : Addr} (h : Outs nilA nd O rest) (e : Ext nilA nd nd') (hj : nd'[j]? = some n) :
    Outs nilA (nd'.set j { n with out := .ref ta }) (addOut O (nd'.length - nd.length) j (x, y)) ((ta, pairObj x t y u) :: rest) := by
  have hl := e.len
  have hjl := (List.getElem?_eq_some_iff.mp hj).1
  have hO := h.len
  refine ⟨?_, fun i m hm hi => ?_, fun i m x' y' hm hi => ?_⟩
  · simp [addOut, hO]; omega
  · unfold addOut at hi
    rw [List.getElem?_set] at hi
    split at hi
    · split at hi <;> simp at hi
    · rename_i hne
      rw [List.getElem?_set_ne hne] at hm
      by_cases hlt : i < nd.length
      · rw [List.getElem?_append_left (by omega)] at hi
        obtain ⟨m₀, hm₀⟩ : ∃ m₀, nd[i]? = some m₀ := ⟨nd[i], by simp [hlt]⟩
        obtain ⟨m', hm', -, -, e3, -⟩ := e.old i m₀ hm₀
        rw [hm] at hm'; cases hm'
        rw [e3]; exact h.none_ i m₀ hm₀ hi
      · exact (e.new i m hm (by omega)).1
  · unfold addOut at hi
    rw [List.getElem?_set] at hi
    split at hi
    · rename_i heq
      subst heq
      rw [List.getElem?_set_self hjl] at hm
      cases hm
      split at hi
      · cases hi
        exact ⟨ta, t, u, rfl, .head _⟩
      · cases hi
    · rename_i hne
      rw [List.getElem?_set_ne hne] at hm
      by_cases hlt : i < nd.length
      · rw [List.getElem?_append_left (by omega)] at hi
        obtain ⟨m₀, hm₀⟩ : ∃ m₀, nd[i]? = some m₀ := ⟨nd[i], by simp [hlt]⟩
        obtain ⟨m', hm', -, -, e3, -⟩ := e.old i m₀ hm₀
        rw [hm] at hm'; cases hm'
        obtain ⟨ta', t', u', h1, h2⟩ := h.some_ i m₀ x' y' hm₀ hi
        exact ⟨ta', t', u', by rw [e3, h1], .tail _ h2⟩
      · rw [List.getElem?_append_right (by omega)] at hi
        have := List.mem_of_getElem? hi
        simp at this
theorem nodes_out {prog : Program} {w : World} {nd : List Nd} {P : List (List Str)} {j : Nat} {n : Nd} (h : NodesOk prog w nd P) (hj : nd[j]? = some n) (v f : Value) : NodesOk prog w (nd.set j { n with out := v, fail := f }) P := by
  have hS : Same nd (nd.set j { n with out := v, fail := f }) := same_set hj _ rfl
  have hjl := (List.getElem?_eq_some_iff.mp hj).1
  have hk : ∀ p, kvsOf (nd.set j { n with out := v, fail := f }) P p = kvsOf nd P p := fun p => kvsOf_congr fun i _ => same_ad hS i
  refine ⟨by rw [List.length_set]; exact h.len, fun i m p hm hp => ?_, fun m hm => ?_, h.root, h.nodup, h.closed, fun i m p hm hp => ?_⟩
  · rw [hk]
    by_cases hij : j = i
    · subst hij
      rw [List.getElem?_set_self hjl] at hm; cases hm
      exact h.dict j n p hj hp
    · rw [List.getElem?_set_ne hij] at hm
      exact h.dict i m p hm hp
  · rcases List.mem_or_eq_of_mem_set hm with hm | rfl
    · exact h.lo m hm
    · exact h.lo n (List.mem_of_getElem? hj)
  · by_cases hij : j = i
    · subst hij
      rw [List.getElem?_set_self hjl] at hm; cases hm
      exact h.tok j n p hj hp
    · rw [List.getElem?_set_ne hij] at hm
      exact h.tok i m p hm hp
end Mine
end
section
open PySem PySem.W PySem.Calls PyProof.Rows PyProof.V PySem.Spec
namespace Mine
set_option maxRecDepth 100000

abbrev frs (l : List Env) : List Addr := l.filterMap (·.frame)

/-- what a call stands on: the written part and the top in the base; the frames below; the frame at hand; the ledger -/
structure Cx (K : Frag) (cs : Scope) (outer : List Env) (base h₀ : Heap) (L : Addr) (h : Heap) (m : Str → Option Value) (news : List (Addr × Obj)) : Prop where
  B : ∃ A₀, Below A₀ base outer h₀
  F : Fr h₀ L h m
  XB : K.In base
  N : News h₀ L h news
  TB : ∃ p loose mean mg mb, Top p loose mean mg mb base
  D : KtsDicts (frs outer) h₀
  k : cs.kind = .function

/-- the way back out of a call: all as it was, or the frames below have been noted -/
def LeaveC (K : Frag) (cs : Scope) (env : Env) (outer : List Env) (base h₀ g : Heap) (L : Addr) (m : Str → Option Value) (R : Result → Shared → Prop) (v : Value) (s' : Shared) : Prop :=
  (∃ L' m' news', Fr g L' s'.heap m' ∧ News g L' s'.heap news' ∧ (Cx K cs outer base h₀ L s'.heap m news' → R (.ok (.ret v)) s')) ∨
  ∃ g' L' m' news', KtsTurn (frs (env :: outer)) g g' ∧ Fr g' L' s'.heap m' ∧ News g' L' s'.heap news' ∧ (∀ h₀', KtsTurn (frs outer) h₀ h₀' → Cx K cs outer base h₀' L s'.heap m news' → R (.ok (.ret v)) s')
theorem leaveC {K : Frag} {cs : Scope} {env : Env} {outer : List Env} {base h₀ g g' : Heap} {L L' : Addr} {m m' : Str → Option Value} {R : Result → Shared → Prop} {v : Value} {s' : Shared} {news' : List (Addr × Obj)}
    (T : KtsTurn (frs (env :: outer)) g g') (F : Fr g' L' s'.heap m') (N : News g' L' s'.heap news') (k : ∀ h₀', KtsTurn (frs outer) h₀ h₀' → Cx K cs outer base h₀' L s'.heap m news' → R (.ok (.ret v)) s') : LeaveC K cs env outer base h₀ g L m R v s' := .inr ⟨g', L', m', news', T, F, N, k⟩
theorem leaveC0 {K : Frag} {cs : Scope} {env : Env} {outer : List Env} {base h₀ g : Heap} {L L' : Addr} {m m' : Str → Option Value} {R : Result → Shared → Prop} {v : Value} {s' : Shared} {news' : List (Addr × Obj)}
    (F : Fr g L' s'.heap m') (N : News g L' s'.heap news') (k : Cx K cs outer base h₀ L s'.heap m news' → R (.ok (.ret v)) s') : LeaveC K cs env outer base h₀ g L m R v s' := .inl ⟨L', m', news', F, N, k⟩

theorem mem_frs {env : Env} {outer : List Env} {L b : Addr} (hf : env.frame = some L) (hm : b ∈ frs (env :: outer)) : b = L ∨ b ∈ frs outer := by
  unfold frs at *
  rw [List.filterMap_cons_some hf] at hm
  exact List.mem_cons.mp hm

theorem mark_depth (A : Around) (x : Option Value) : (A.mark x).depth = A.depth := rfl
section
variable {prog : Program} {w : World} {A : Around} {s : Shared} {base h₀ : Heap} {outer : List Env} {env : Env} {L : Addr} {m : Str → Option Value} {cs : Scope} {news : List (Addr × Obj)} {K : Frag}
    {R : Result → Shared → Prop} {name qual : Str} {params : Arguments} {body : List Stmt} {scope : Scope} {dV kV doc pm cdv ct oc : Value} {an od : Option Addr} {osl : Array (Option Value)} {f : Addr} {args : Args} {binds : List (Str × Value)}
/-- the heap a callee is based on: all but the ledger -/
theorem ground (C : Cx K cs outer base h₀ L s.heap m news) (hA : A.frames = some (env :: outer)) (hf : env.frame = some L) (hke : env.scope.kind = .function) :
    let g := hideAll s.heap (news.map (·.1))
    h₀.StaysIn g ∧ Fr h₀ L g m ∧ Below A base (env :: outer) g ∧ KtsDicts (frs (env :: outer)) g := by
  obtain ⟨⟨A₀, B⟩, F, XB, N, TB, D, k⟩ := C
  intro g
  have nm : ∀ b o, h₀.get? b = some o → b ∉ news.map (·.1) := fun b o e q => by
    obtain ⟨p, hp, rfl⟩ := List.mem_map.mp q
    rw [(N p hp).2.2] at e; cases e
  have st : h₀.StaysIn g := fun b o e => hideAll_get _ (F.keep b o e) (nm b o e)
  obtain ⟨oL, es, ep, hL, hLd, hLk, hLf⟩ := F.ns
  have nL : L ∉ news.map (·.1) := fun q => by
    obtain ⟨p, hp, e⟩ := List.mem_map.mp q
    exact (N p hp).2.1 e
  have hLg : g.get? L = some oL := hideAll_get (news.map (·.1)) hL nL
  have hb0 : base.get? L = none := by
    cases q : base.get? L with
    | none => rfl
    | some o => have := B.stays L o q; rw [kts_self F] at this; cases this
  refine ⟨st, ⟨⟨oL, es, ep, hLg, hLd, hLk, hLf⟩, st, F.above⟩, ⟨hA, fun b o e => st b o (B.stays b o e), ⟨by rw [hke]; decide, ⟨L, oL, hf, hb0, hLg, fun vs q => by rw [hLd] at q; cases q⟩, B.frames.of_keeps fun b o e _ => ⟨o, st b o e, rfl⟩⟩⟩, fun b hb => ?_⟩
  rcases mem_frs hf hb with rfl | hb
  · exact ⟨oL, es, ep, hLg, hLd⟩
  · obtain ⟨o, es', n', ho', hd'⟩ := D b hb
    exact ⟨o, es', n', st b o ho', hd'⟩

/-- behind a call that has turned the frames' notes alone -/
theorem unground (C : Cx K cs outer base h₀ L s.heap m news) (hf : env.frame = some L) {g' : Heap} {L' : Addr} {m' : Str → Option Value} {s' : Shared} {news' : List (Addr × Obj)}
    (T' : KtsTurn (frs (env :: outer)) (hideAll s.heap (news.map (·.1))) g') (F' : Fr g' L' s'.heap m') (N' : News g' L' s'.heap news') :
    ∃ h₀', KtsTurn (frs outer) h₀ h₀' ∧ Cx K cs outer base h₀' L s'.heap m news' := by
  obtain ⟨⟨A₀, B⟩, F, XB, N, TB, D, k⟩ := C
  have nm : ∀ b o, h₀.get? b = some o → b ∉ news.map (·.1) := fun b o e q => by
    obtain ⟨p, hp, rfl⟩ := List.mem_map.mp q
    rw [(N p hp).2.2] at e; cases e
  have st : h₀.StaysIn (hideAll s.heap (news.map (·.1))) := fun b o e => hideAll_get _ (F.keep b o e) (nm b o e)
  obtain ⟨oL, es, ep, hL, hLd, hLk, hLf⟩ := F.ns
  have nL : L ∉ news.map (·.1) := fun q => by
    obtain ⟨p, hp, e⟩ := List.mem_map.mp q
    exact (N p hp).2.1 e
  have hLg := hideAll_get (news.map (·.1)) hL nL
  have nL₀ : h₀.get? L = none := kts_self F
  obtain ⟨sl, hs⟩ := T'.up hLg
  obtain ⟨T₁, S₁⟩ := kts_turn_at (h := s'.heap) (fs := frs outer) (g := h₀)
    (fun b hb => by
      obtain ⟨_, o, ho', _⟩ := B.frames.mem hb
      exact ⟨o, ho'⟩)
    (fun b o e nmem => F'.keep b o (T'.other b o (st b o e) (fun q => by
      rcases mem_frs hf q with z | z
      · rw [z, nL₀] at e; cases e
      · exact nmem z)))
    (fun b o e hm => by
      obtain ⟨sl', hs'⟩ := T'.up (st b o e)
      exact ⟨sl', F'.keep _ _ hs'⟩)
  have B₃ : Below A₀ base outer (ktsHeap s'.heap (frs outer) h₀) := ⟨B.stack, fun b o e => T₁.other b o (B.stays b o e) (fun hm => by
    rw [(B.frames.mem hm).1] at e; cases e), B.frames.of_keeps fun b o e _ => by
    obtain ⟨sl', hs'⟩ := T₁.up e
    exact ⟨_, hs', rfl⟩⟩
  refine ⟨_, T₁, ⟨_, B₃⟩, ⟨⟨_, es, ep, F'.keep _ _ hs, hLd, hLk, hLf⟩, S₁, by rw [T₁.size]; exact F.above⟩, XB, fun p hp => ⟨(N' p hp).1, fun q => ?_, ?_⟩, TB, D.turn T₁, k⟩
  · have := (N' p hp).2.2; rw [q, hs] at this; cases this
  · refine T₁.none_ _ ?_
    cases q : h₀.get? p.1 with
    | none => rfl
    | some o =>
      obtain ⟨sl', hs'⟩ := T'.up (st _ _ q)
      have := (N' p hp).2.2
      rw [hs'] at this; cases this

/-- behind a call that has turned nothing -/
theorem unground0 (C : Cx K cs outer base h₀ L s.heap m news) {L' : Addr} {m' : Str → Option Value} {s' : Shared} {news' : List (Addr × Obj)}
    (F' : Fr (hideAll s.heap (news.map (·.1))) L' s'.heap m') (N' : News (hideAll s.heap (news.map (·.1))) L' s'.heap news') : Cx K cs outer base h₀ L s'.heap m news' := by
  obtain ⟨⟨A₀, B⟩, F, XB, N, TB, D, k⟩ := C
  have nm : ∀ b o, h₀.get? b = some o → b ∉ news.map (·.1) := fun b o e q => by
    obtain ⟨p, hp, rfl⟩ := List.mem_map.mp q
    rw [(N p hp).2.2] at e; cases e
  have st : h₀.StaysIn (hideAll s.heap (news.map (·.1))) := fun b o e => hideAll_get _ (F.keep b o e) (nm b o e)
  obtain ⟨oL, es, ep, hL, hLd, hLk, hLf⟩ := F.ns
  have nL : L ∉ news.map (·.1) := fun q => by
    obtain ⟨p, hp, e⟩ := List.mem_map.mp q
    exact (N p hp).2.1 e
  have hLg := hideAll_get (news.map (·.1)) hL nL
  refine ⟨⟨_, B⟩, ⟨⟨oL, es, ep, F'.keep _ _ hLg, hLd, hLk, hLf⟩, fun b o e => F'.keep b o (st b o e), F.above⟩, XB, fun p hp => ⟨(N' p hp).1, fun q => ?_, ?_⟩, TB, D, k⟩
  · have := (N' p hp).2.2; rw [q, hLg] at this; cases this
  · cases q : h₀.get? p.1 with
    | none => rfl
    | some o => have := (N' p hp).2.2; rw [st _ _ q] at this; cases this

theorem enterC (C : Cx K cs outer base h₀ L s.heap m news) (hA : A.frames = some (env :: outer)) (hf : env.frame = some L) (hke : env.scope.kind = .function)
    (ho : K.lookup f = some ⟨oc, od, .func (fnOf name qual params body scope dV kV doc pm an cdv ct), osl⟩) (hcd : codeIn K cdv qual = true) (hroom : A.depth < recursionLimit)
    (hbind : BindsTo s (fnOf name qual params body scope dV kV doc pm an cdv ct) args binds) (hloc : ∀ y ∈ binds, scope.names.lookup y.1 = some .local)
    (h : ∀ g L' h₁, Cx K scope (env :: outer) base g L' h₁ (fun y => binds.reverse.lookup y) news → (∀ p ∈ news, p.1 < L') →
      wpAny (model prog w) (A.deeper (envOf qual scope L' f cdv)) (execs body (envOf qual scope L' f cdv))
        (fun fl s' => LeaveC K cs env outer base h₀ g L m R (match fl with | .ret v => v | _ => .none) s')
        (fun e s' => wpAny (model prog w) (A.deeper (envOf qual scope L' f cdv)) (leaving (envOf qual scope L' f cdv) e) (fun _ s'' => R (.error e) s'') (fun e' s'' => R (.error e') s'') s')
        { s with heap := h₁, toks := s.toks + binds.length })
    (hco : scope.isCoroutine = false) (hgen : scope.isGenerator = false) (hk : scope.kind = .function)
    (hcell : ∀ x ∈ scope.names, x.2 ≠ .cell) : codeAny (model prog w) A (.call (.ref f) args) R s := by
  have C' := C
  obtain ⟨⟨A₀, B⟩, F, XB, N, ⟨p, loose, mean, mg, mb, TB⟩, D, k⟩ := C
  have X₀ : K.In h₀ := XB.keeps B.stays
  have X := X₀.keeps F.keep
  refine codeAny_call_def (fd := fnOf name qual params body scope dV kV doc pm an cdv ct) (body := body) (binds := binds) hroom (X _ _ ho) rfl ((TB.nolimit.keeps B.stays).keeps F.keep) (codeRec_of X hcd) rfl hbind hcell hloc (fun h₁ hns hk₁ => ?_) hco hgen hk
  obtain ⟨st, FG, BG, DG⟩ := ground C' hA hf hke
  refine wpAny_mono (h _ s.heap.objs.size h₁ ⟨⟨A, BG⟩, ⟨hns, fun b o e => hk₁ b o (of_hideAll _ e), Nat.le_of_eq (hideAll_size _ _)⟩, XB,
    (fun p hp => ⟨hk₁ _ _ (N p hp).1, Nat.ne_of_lt (Heap.lt_size (N p hp).1), hideAll_none _ (List.mem_map_of_mem hp)⟩), ⟨p, loose, mean, mg, mb, TB⟩, DG, hk⟩ (fun p hp => Heap.lt_size (N p hp).1)) (fun fl s' hl => ?_) fun _ _ y => y
  rcases hl with ⟨L', m', news', F', N', kk⟩ | ⟨g', L', m', news', T', F', N', kk⟩
  · exact kk (unground0 C' F' N')
  obtain ⟨h₀', T₁, C₁⟩ := unground C' hf T' F' N'
  exact kk h₀' T₁ C₁
theorem enterCC (C : Cx K cs outer base h₀ L s.heap m news) (hA : A.frames = some (env :: outer)) (hf : env.frame = some L) (hke : env.scope.kind = .function)
    (ho : K.lookup f = some ⟨oc, od, .func (fnOf name qual params body scope dV kV doc pm an cdv ct), osl⟩) (hcd : codeIn K cdv qual = true) (hroom : A.depth < recursionLimit)
    (hbind : BindsTo s (fnOf name qual params body scope dV kV doc pm an cdv ct) args binds) (hkind : (binds.all fun y => scope.names.lookup y.1 == some .local || scope.names.lookup y.1 == some .cell) = true)
    (hnd : ((cellsFrom 0 scope.names []).map (·.1)).Nodup)
    (h : ∀ g L' h₁ tk cells, Cx K scope (env :: outer) base g L' h₁ (bindL (envOfC qual scope L' f cdv).kindOf binds fun _ => none) (cells ++ news) →
      CellsAre (bindC (envOfC qual scope L' f cdv).kindOf binds fun _ => none) (cellsFrom (L' + 1) scope.names []) cells → (∀ p ∈ news, p.1 < L') →
      wpAny (model prog w) (A.deeper (envOfC qual scope L' f cdv)) (execs body (envOfC qual scope L' f cdv))
        (fun fl s' => LeaveC K cs env outer base h₀ g L m R (match fl with | .ret v => v | _ => .none) s')
        (fun e s' => wpAny (model prog w) (A.deeper (envOfC qual scope L' f cdv)) (leaving (envOfC qual scope L' f cdv) e) (fun _ s'' => R (.error e) s'') (fun e' s'' => R (.error e') s'') s')
        { s with heap := h₁, toks := tk })
    (hco : scope.isCoroutine = false) (hgen : scope.isGenerator = false) (hk : scope.kind = .function) : codeAny (model prog w) A (.call (.ref f) args) R s := by
  have C' := C
  obtain ⟨⟨A₀, B⟩, F, XB, N, ⟨p, loose, mean, mg, mb, TB⟩, D, k⟩ := C
  have X₀ : K.In h₀ := XB.keeps B.stays
  have X := X₀.keeps F.keep
  obtain ⟨st, FG, BG, DG⟩ := ground C' hA hf hke
  refine codeAny_call_function hroom (X _ _ ho) rfl hco hgen rfl (codeRec_of X hcd) (hbind _ _ _ _ ?_)
  refine wpAny_newFunctionEnv_cells hk (kindsX hkind _) fun env' he s' x => ?_
  subst he
  have hlim : h₀.NoLimit := TB.nolimit.keeps B.stays
  refine ⟨(hlim.keeps F.keep).keeps x.toInCall.keep, codeAny_func ?_⟩
  obtain ⟨h₁, tk, rfl, _⟩ := x.done
  have hk₁ := x.toInCall.keep
  obtain ⟨cells, NC, Y⟩ := Cl.news (h₀ := s.heap) (Nat.le_refl _) fun n c hm => ⟨x.cell n c (lookup_of_mem_nodup (cellsFrom_names scope.names 0 (s.heap.objs.size + 1) [] [] rfl ▸ hnd) hm), x.above n c hm⟩
  refine wpAny_mono (h _ s.heap.objs.size h₁ tk cells ⟨⟨A, BG⟩, ⟨x.toInCall.ns, fun b o e => hk₁ b o (of_hideAll _ e), Nat.le_of_eq (hideAll_size _ _)⟩, XB, (fun p hp => ?_), ⟨p, loose, mean, mg, mb, TB⟩, DG, hk⟩ Y (fun p hp => Heap.lt_size (N p hp).1)) (fun fl s' hl => ?_) fun _ _ y => y
  · rcases List.mem_append.mp hp with hp | hp
    · refine ⟨(NC p hp).1, (NC p hp).2.1, ?_⟩
      cases q : (hideAll s.heap (news.map (·.1))).get? p.1 with
      | none => rfl
      | some o => have := of_hideAll _ q; rw [(NC p hp).2.2] at this; cases this
    · exact ⟨hk₁ _ _ (N p hp).1, Nat.ne_of_lt (Heap.lt_size (N p hp).1), hideAll_none _ (List.mem_map_of_mem hp)⟩
  rcases hl with ⟨L', m', news', F', N', kk⟩ | ⟨g', L', m', news', T', F', N', kk⟩
  · exact kk (unground0 C' F' N')
  obtain ⟨h₀', T₁, C₁⟩ := unground C' hf T' F' N'
  exact kk h₀' T₁ C₁
end

theorem noteFrame_first {M : Model} {A : Around} {E : Value → Shared → Prop} {s : Shared} {base : Heap} {env : Env} {outer : List Env} {L e : Addr} {oe : Obj} {vs : Array Value} {a0 : Value} {Q : Unit → Shared → Prop}
    (hfr : A.frames = some (env :: outer)) (hl : s.heap.FunFrames base (env :: outer)) (hf : env.frame = some L)
    (he : s.heap.get? e = some oe) (hkb : base.StaysIn s.heap) (hen : base.get? e = none) (hd : oe.data = .fields vs) (h1 : vs[1]? = some .none) (h0 : vs[0]? = some a0)
    (h : ∀ h', Heap.NotedW base (env :: outer) e oe.cls a0 (rawInt L) s.heap h' → Q () { s with heap := h' }) : wpAny M A (noteFrame (.ref e) env) Q E s := by
  unfold noteFrame
  simp only [hf]
  refine wpAny_bind (wpAny_field he hd h1 ?_)
  rw [if_neg (by decide)]
  exact wpAny_entryW hfr hl hf he hkb hen hd (Array.getElem?_eq_some_iff.mp h1).1 h0 h

section
variable {prog : Program} {w : World} {A₀ : Around} {E : Value → Shared → Prop} {s' : Shared} {base g h : Heap} {outer : List Env} {L a e : Addr} {m : Str → Option Value} {name : Str} {scope : Scope} {cd : Value}
  {b₀ : Stmt} {suite : List Stmt} {pos np : Pos} {rest : List ExceptHandler} {Q : Flow → Shared → Prop} {news : List (Addr × Obj)} {KF : Frag} {x : Str} {X T' : String}
/-- an exception of the interpreter's, new, caught by the frame's own try -/
theorem caught_own (C : Cx KF scope outer base g L h m news) (hA : A₀.frames = some outer) (hx0 : Heap.NewExc h s'.heap e X)
    (ex : nsIn KF mainGlobals x = some none) (hv : bootBuiltins x = some (.type T')) (hn' : x ≠ "__name__")
    (hexc : isSubtype (.type T') (.type "BaseException") = pure true) (hnt : isSubtype (.type ((Manifest.find? T').elim "type" fun y => y.metatype)) (.type "tuple") = pure false) (hsub : isSubtype (.type X) (.type T') = pure true)
    (k : ∀ h' g', KtsTurn (frs outer) g g' → Cx KF scope outer base g' L h' m news →
      wpAny (model prog w) ((A₀.deeper (envOf name scope L a cd)).mark (some (.ref e))) (execs (b₀ :: suite) (envOf name scope L a cd)) Q E { s' with heap := h' })
    (hx : (envOf name scope L a cd).kindOf x = some .globalImplicit := by rfl) (hd : (x == ("__debug__" : Str)) = false := by decide)
    (hE : PassesOwnAt (model prog w) ((A₀.deeper (envOf name scope L a cd)).mark (some (.ref e))) (A₀.deeper (envOf name scope L a cd)) (envOf name scope L a cd) E := by passes_own) :
    wpAny (model prog w) (A₀.deeper (envOf name scope L a cd)) (noteFrame (.ref e) (envOf name scope L a cd))
      (fun _ s₂ => wpAny (model prog w) (A₀.deeper (envOf name scope L a cd)) (setFlight (.ref e) none) (fun _ s₃ =>
        wpAny (model prog w) (A₀.deeper (envOf name scope L a cd)) (handleBy (.ref e) (envOf name scope L a cd) (.ExceptHandler (some (.Name x np)) none (b₀ :: suite) pos :: rest)) Q E s₃) E s₂) E s' := by
  obtain ⟨⟨A₁, K⟩, F, XB, N, ⟨p, loose, mean, mg, mb, TB⟩, D, hk⟩ := C
  have K : Below A₀ base outer g := ⟨hA, K.stays, K.frames⟩
  obtain ⟨oL, es, ep, hLo, hLd, hLk, hLf⟩ := F.ns
  let B := hideAll h (frs (envOf name scope L a cd :: outer))
  have hfL : (envOf name scope L a cd).frame = some L := rfl
  have hb0 : base.get? L = none := by
    cases q : base.get? L with
    | none => rfl
    | some o => have := K.stays L o q; rw [kts_self F] at this; cases this
  have hBG : ∀ b o, h.get? b = some o → b ∉ frs (envOf name scope L a cd :: outer) → B.get? b = some o := fun b o hb hm => hideAll_get _ hb hm
  have st : base.StaysIn B := fun b o q => hBG b o (F.keep b o (K.stays b o q)) fun hm => by
    rcases mem_frs hfL hm with rfl | hm
    · rw [hb0] at q; cases q
    · rw [(K.frames.mem hm).1] at q; cases q
  have hl : ∀ q ∈ news, B.get? q.1 = some q.2 := fun q hq => hBG _ _ (N q hq).1 fun hm => by
    rcases mem_frs hfL hm with e' | hm
    · exact (N q hq).2.1 e'
    · obtain ⟨o, ho, _⟩ := (K.frames.mem hm).2
      rw [(N q hq).2.2] at ho; cases ho
  have hBL : B.get? L = none := hideAll_none _ (List.mem_filterMap.mpr ⟨_, .head _, hfL⟩)
  have hBh : B.StaysIn s'.heap := fun b o hb => hx0.keeps b o (of_hideAll _ hb)
  obtain ⟨ob, tp, he, hcls, hdd⟩ := hx0.there
  have hen : B.get? e = none := by
    cases q : B.get? e with
    | none => rfl
    | some o => have := of_hideAll _ q; rw [hx0.new] at this; cases this
  have hff : s'.heap.FunFrames B (envOf name scope L a cd :: outer) := by
    refine ⟨by show scope.kind ≠ .module; rw [hk]; decide, ⟨L, oL, rfl, hBL, hx0.keeps _ _ hLo, fun vs q => by rw [hLd] at q; cases q⟩, ?_⟩
    have hsub : ∀ env ∈ outer, ∀ b, env.frame = some b → B.get? b = none := fun env he b hb => hideAll_none _ (List.mem_filterMap.mpr ⟨env, .tail _ he, hb⟩)
    have hfr := K.frames
    have hstep : ∀ (l : List Env), (∀ env ∈ l, ∀ b, env.frame = some b → B.get? b = none) → g.FunFrames base l → s'.heap.FunFrames B l := by
      intro l
      induction l with
      | nil => intro _ _; trivial
      | cons env r ih =>
        rintro hs ⟨h1, ⟨L₁, o₁, hf₁, _, ho₁, hd₁⟩, hr⟩
        exact ⟨h1, ⟨L₁, o₁, hf₁, hs env (.head _) L₁ hf₁, hx0.keeps _ _ (F.keep _ _ ho₁), hd₁⟩, ih (fun env' he' => hs env' (.tail _ he')) hr⟩
    exact hstep outer hsub hfr
  refine noteFrame_first (base := B) (a0 := tp) (L := L) (by show A₀.frames.map _ = _; rw [hA]; rfl) hff rfl he hBh hen hdd rfl rfl fun h₄ hN => ?_
  obtain ⟨k1, k2, k3, hsm₄⟩ := hN
  rw [hcls] at k3
  have hheld₄ : Heap.HeldW B (envOf name scope L a cd :: outer) e (.type X) tp L h₄ := ⟨k1, hen, k2, k3⟩
  have hsm₀ : h.UpToSlots s'.heap := Heap.UpToSlots.of_keeps hx0.keeps
  refine wpAny_landsW hheld₄ fun h₅ hheld hsm₅' => ?_
  have hsm₅ : s'.heap.UpToSlots h₅ := Heap.UpToSlots.trans hsm₄ hsm₅'
  obtain ⟨g₅, T₅, F₅, K₅⟩ := kts_ground K F hBG hheld.1 (hsm₀.trans hsm₅)
  have X₅ : KF.In g₅ := XB.keeps K₅.stays
  have P₅ : TopRead p loose mg mb g₅ := topRead_of (TB.keeps K₅.stays)
  obtain ⟨ob', hob, hobc⟩ := hheld.there
  refine wpAny_handleBy_builtin (X := X) (T := T') (b := true) hexc hnt hsub (name_B F₅ X₅ P₅ ex hv hn' ⟨rfl, ⟨ob', hob, hobc⟩, ?_⟩ hk hx hd)
  refine lands_againW hheld fun h₆ hfl₆ hsm₆ => ?_
  obtain ⟨g₆, T₆, F₆, K₆⟩ := kts_ground K F hBG hfl₆.1 ((hsm₀.trans hsm₅).trans hsm₆)
  exact wpAny_passesOwnAt hE (k h₆ g₆ T₆ ⟨⟨_, K₆⟩, F₆, XB, fun q hq => ⟨hfl₆.1 _ _ (hl q hq), (N q hq).2.1, T₆.none_ _ (N q hq).2.2⟩, ⟨p, loose, mean, mg, mb, TB⟩, D.turn T₆, hk⟩)
end

/-! loops in whose turns an exception may be caught: the frames below are kept in the ledger -/
def frEnts (fs : List Addr) (g : Heap) : List (Addr × Obj) := fs.filterMap fun b => (g.get? b).map fun o => (b, o)
theorem mem_frEnts {fs : List Addr} {g : Heap} {p : Addr × Obj} : p ∈ frEnts fs g ↔ p.1 ∈ fs ∧ g.get? p.1 = some p.2 := by
  unfold frEnts
  rw [List.mem_filterMap]
  constructor
  · rintro ⟨b, hb, e⟩
    cases q : g.get? b with
    | none => rw [q] at e; cases e
    | some o => rw [q] at e; cases e; exact ⟨hb, q⟩
  · rintro ⟨h1, h2⟩
    exact ⟨p.1, h1, by rw [h2]; rfl⟩
theorem frEnts_addr {fs : List Addr} {g : Heap} (h : ∀ b ∈ fs, ∃ o, g.get? b = some o) {b : Addr} (hb : b ∈ fs) : ∃ o, (b, o) ∈ frEnts fs g := by
  obtain ⟨o, ho⟩ := h b hb
  exact ⟨o, mem_frEnts.mpr ⟨hb, ho⟩⟩
section
variable {K : Frag} {cs : Scope} {outer : List Env} {base g g₁ h h' : Heap} {L : Addr} {m m' : Str → Option Value} {news news' all : List (Addr × Obj)}
theorem cx_some (C : Cx K cs outer base g L h m news) : ∀ b ∈ frs outer, ∃ o, g.get? b = some o := fun b hb => by
  obtain ⟨o, es, n, ho, _⟩ := C.D b hb
  exact ⟨o, ho⟩
theorem cx_off (C : Cx K cs outer base g L h m news) : ∀ p ∈ news, p.1 ∉ frs outer := fun p hp q => by
  obtain ⟨o, ho⟩ := cx_some C _ q
  rw [(C.N p hp).2.2] at ho; cases ho
theorem hide_fr (F : Fr g L h m) (k : ∀ b o, (hideAll g₁ (frs outer)).get? b = some o → g.get? b = some o) (hz : g₁.objs.size = g.objs.size) : Fr (hideAll g₁ (frs outer)) L h m :=
  ⟨F.ns, fun b o e => F.keep b o (k b o e), by rw [hideAll_size, hz]; exact F.above⟩
theorem turn_hide (T : KtsTurn (frs outer) g g₁) (F : Fr g₁ L h' m') (N : News g₁ L h' all) : Fr (hideAll g (frs outer)) L h' m' ∧ News (hideAll g (frs outer)) L h' (frEnts (frs outer) g₁ ++ all) := by
  have hk : ∀ b o, (hideAll g (frs outer)).get? b = some o → g₁.get? b = some o := fun b o e => by
    refine T.other b o (of_hideAll _ e) fun q => ?_
    rw [hideAll_none _ q] at e; cases e
  refine ⟨hide_fr F hk T.size.symm, fun p hp => ?_⟩
  rcases List.mem_append.mp hp with hp | hp
  · obtain ⟨h1, h2⟩ := mem_frEnts.mp hp
    refine ⟨F.keep _ _ h2, fun q => ?_, hideAll_none _ h1⟩
    rw [q, kts_self F] at h2; cases h2
  · obtain ⟨h1, h2, h3⟩ := N p hp
    refine ⟨h1, h2, ?_⟩
    cases q : (hideAll g (frs outer)).get? p.1 with
    | none => rfl
    | some o => rw [hk _ _ q] at h3; cases h3
theorem cx_show (C : Cx K cs outer base g L h m news) (T : KtsTurn (frs outer) g g₁) (F : Fr (hideAll g (frs outer)) L h' m') (N : News (hideAll g (frs outer)) L h' all) (hf : ∀ p ∈ frEnts (frs outer) g₁, p ∈ all) (hn : ∀ p ∈ news', p ∈ all ∧ p.1 ∉ frs outer) : Cx K cs outer base g₁ L h' m' news' := by
  obtain ⟨⟨A₀, B⟩, F₀, XB, N₀, TB, D, k⟩ := C
  have hk : ∀ b o, g₁.get? b = some o → h'.get? b = some o := fun b o e => by
    by_cases hb : b ∈ frs outer
    · exact (N (b, o) (hf _ (mem_frEnts.mpr ⟨hb, e⟩))).1
    · have : g.get? b = some o := by
        cases q : g.get? b with
        | none => rw [T.none_ _ q] at e; cases e
        | some o' => rw [T.other _ _ q hb] at e; cases e; rfl
      exact F.keep b o (hideAll_get _ this hb)
  refine ⟨⟨A₀, B.stack, fun b o e => T.other b o (B.stays b o e) fun hm => ?_, B.frames.of_keeps fun b o e _ => ?_⟩, ⟨F.ns, hk, by have := F.above; rw [hideAll_size] at this; rw [T.size]; exact this⟩, XB, fun p hp => ?_, TB, D.turn T, k⟩
  · rw [(B.frames.mem hm).1] at e; cases e
  · obtain ⟨sl, hs⟩ := T.up e
    exact ⟨_, hs, rfl⟩
  · obtain ⟨h1, h2⟩ := hn p hp
    obtain ⟨h3, h4, h5⟩ := N p h1
    refine ⟨h3, h4, T.none_ _ ?_⟩
    cases q : g.get? p.1 with
    | none => rfl
    | some o => rw [hideAll_get _ q h2] at h5; cases h5
/-- no frame below: nothing has turned -/
theorem cx_home (T : KtsTurn (frs []) g g₁) (C : Cx K cs [] base g L h m news) (C₁ : Cx K cs [] base g₁ L h' m' news') : Cx K cs [] base g L h' m' news' :=
  ⟨C.B, ⟨C₁.F.ns, (fun b o e => C₁.F.keep b o (T.other b o e (by simp))), (by rw [← T.size]; exact C₁.F.above)⟩, C.XB, (fun p hp => by
    obtain ⟨h1, h2, h3⟩ := C₁.N p hp
    refine ⟨h1, h2, ?_⟩
    cases q : g.get? p.1 with
    | none => rfl
    | some o => rw [T.other _ _ q (by simp)] at h3; cases h3), C.TB, C.D, C.k⟩

def TurnEndC (outer : List Env) (g : Heap) (L I : Addr) (own : List (Addr × Obj)) (Jn : (Str → Option Value) → List (Addr × Obj) → Prop) (s₁ s₂ : Shared) : Prop :=
  ∃ g' h' tk m' all nx, s₂ = { s₁ with heap := h', toks := tk } ∧ KtsTurn (frs outer) g g' ∧ Fr g' L h' m' ∧ News g' L h' all ∧ (∀ p ∈ own, p ∈ all) ∧ (∀ p ∈ nx, p ∈ all) ∧ (∀ p ∈ nx, p.1 ≠ I) ∧ Jn m' nx
def TurnPostC (outer : List Env) (g : Heap) (L I : Addr) (own : List (Addr × Obj)) (Jn : (Str → Option Value) → List (Addr × Obj) → Prop) (s₁ : Shared) (Q : Flow → Shared → Prop) (f : Flow) (s₂ : Shared) : Prop :=
  match f with
  | .ret v => Q (.ret v) s₂
  | .brk => Q .next s₂
  | _ => TurnEndC outer g L I own Jn s₁ s₂
theorem TurnEndC.mk {I : Addr} {own : List (Addr × Obj)} {Jn : (Str → Option Value) → List (Addr × Obj) → Prop} {s₁ : Shared} {tk : Nat} (nx : List (Addr × Obj))
    (T : KtsTurn (frs outer) g g₁) (F : Fr g₁ L h' m') (N : News g₁ L h' all) (ho : ∀ p ∈ own, p ∈ all) (hn : ∀ p ∈ nx, p ∈ all) (hI : ∀ p ∈ nx, p.1 ≠ I) (hj : Jn m' nx) : TurnEndC outer g L I own Jn s₁ { s₁ with heap := h', toks := tk } :=
  ⟨g₁, h', tk, m', all, nx, rfl, T, F, N, ho, hn, hI, hj⟩
theorem TurnEndC.app {I : Addr} {own : List (Addr × Obj)} {Jn : (Str → Option Value) → List (Addr × Obj) → Prop} {s₁ : Shared} {tk : Nat} {nx : List (Addr × Obj)}
    (T : KtsTurn (frs outer) g g₁) (F : Fr g₁ L h' m') (N : News g₁ L h' (nx ++ own)) (hI : ∀ p ∈ nx, p.1 ≠ I) (hj : Jn m' nx) : TurnEndC outer g L I own Jn s₁ { s₁ with heap := h', toks := tk } :=
  ⟨g₁, h', tk, m', _, nx, rfl, T, F, N, fun _ h => List.mem_append_right _ h, fun _ h => List.mem_append_left _ h, hI, hj⟩
end
section
variable {prog : Program} {w : World} {A : Around} {E : Value → Shared → Prop} {s : Shared} {env : Env} {g base : Heap} {x : Str} {body : List Stmt} {Q : Flow → Shared → Prop} {K : Frag} {cs : Scope} {outer : List Env}
theorem iter_listC {L l : Addr} {vs : List Value} {n : Nat} {m₀ : Str → Option Value} {news : List (Addr × Obj)} (hLe : env.locals = L) (C : Cx K cs outer base g L s.heap m₀ news) (J : Nat → (Str → Option Value) → List (Addr × Obj) → Prop)
    (hh : A.handled = none) (hlm : (l, listOf vs.toArray n) ∈ news) (hj : J 0 m₀ news)
    (turn : ∀ i v m₁ news₁ I own h tk g₁, KtsTurn (frs outer) g g₁ → vs[i]? = some v → J i m₁ news₁ → (∀ p ∈ own, p.1 = I ∨ p.1 = l) → (∀ p ∈ news₁, p.1 ≠ I) → (∃ o, (I, o) ∈ own) → h.IsList l vs.toArray → l ≠ I →
      Cx K cs outer base g₁ L h (fun z => if z = x then some v else m₁ z) (news₁ ++ own) →
      wpAny (model prog w) A (execs body env) (TurnPostC outer g₁ L I own (J (i + 1)) { s with heap := h, toks := tk } Q) E { s with heap := h, toks := tk })
    (done : ∀ m₁ news₁ h tk g₁, KtsTurn (frs outer) g g₁ → J vs.length m₁ news₁ → Cx K cs outer base g₁ L h m₁ news₁ → Q .next { s with heap := h, toks := tk }) :
    wpAny (model prog w) A (pyIter (.ref l)) (fun it s₂ => LoopAtV prog w A (hideAll g (frs outer)) env x body Q E it s₂) E s := by
  subst hLe
  obtain ⟨F₀, N₀⟩ := turn_hide KtsTurn.refl C.F C.N
  have hl : s.heap.IsList l vs.toArray := PySem.IsL.isList (n := n) (C.N _ hlm).1
  have hoffs := cx_off C
  refine iter_listJ (l := l) (vs := vs) (news := frEnts (frs outer) g ++ news) (fun i m' nx => ∃ g₁ nx₀, nx = frEnts (frs outer) g₁ ++ nx₀ ∧ KtsTurn (frs outer) g g₁ ∧ (∀ p ∈ nx₀, p.1 ∉ frs outer) ∧ J i m' nx₀) hh hl (C.N _ hlm).2.1 F₀ N₀ ⟨g, news, rfl, .refl, hoffs, hj⟩ ?_ ?_
  · rintro i v m₁ news₁ I own h tk hv ⟨g₁, nx₀, rfl, T, hno, hJ⟩ hown hoff hIo hlst hlI F₁ N₁
    have hsome : ∀ b ∈ frs outer, ∃ o, g₁.get? b = some o := fun b hb => by
      obtain ⟨o, ho⟩ := cx_some C b hb
      obtain ⟨sl, hs⟩ := T.up ho
      exact ⟨_, hs⟩
    have hIf : I ∉ frs outer := fun q => by
      obtain ⟨o, ho⟩ := frEnts_addr hsome q
      exact hoff _ (List.mem_append_left _ ho) rfl
    have hown' : ∀ p ∈ own, p.1 ∉ frs outer := fun p hp => by
      rcases hown p hp with e | e
      · rw [e]; exact hIf
      · rw [e]; exact hoffs _ hlm
    have C₁ : Cx K cs outer base g₁ env.locals h (fun z => if z = x then some v else m₁ z) (nx₀ ++ own) := cx_show C T F₁ N₁ (fun p hp => List.mem_append_left _ (List.mem_append_left _ hp)) fun p hp => by
      rcases List.mem_append.mp hp with hp | hp
      · exact ⟨List.mem_append_left _ (List.mem_append_right _ hp), hno p hp⟩
      · exact ⟨List.mem_append_right _ hp, hown' p hp⟩
    refine wpAny_mono (turn i v m₁ nx₀ I own h tk g₁ T hv hJ hown (fun p hp => hoff p (List.mem_append_right _ hp)) hIo hlst hlI C₁) (fun f s₂ p => ?_) fun _ _ e => e
    have fin : TurnEndC outer g₁ env.locals I own (J (i + 1)) { s with heap := h, toks := tk } s₂ → TurnEnd (hideAll g (frs outer)) env.locals I own (fun m' nx => ∃ g₁ nx₀, nx = frEnts (frs outer) g₁ ++ nx₀ ∧ KtsTurn (frs outer) g g₁ ∧ (∀ p ∈ nx₀, p.1 ∉ frs outer) ∧ J (i + 1) m' nx₀) { s with heap := h, toks := tk } s₂ := by
      rintro ⟨g', h', tk', m', all, nx, e, T', F', N', ho, hn, hI, hm⟩
      obtain ⟨F₂, N₂⟩ := turn_hide (T.trans T') F' N'
      have hsome' : ∀ b ∈ frs outer, ∃ o, g'.get? b = some o := fun b hb => by
        obtain ⟨o, ho⟩ := hsome b hb
        obtain ⟨sl, hs⟩ := T'.up ho
        exact ⟨_, hs⟩
      refine ⟨h', tk', m', _, frEnts (frs outer) g' ++ nx, e, F₂, N₂, fun p hp => List.mem_append_right _ (ho p hp), fun p hp => ?_, fun p hp => ?_, g', nx, rfl, T.trans T', fun p hp q => ?_, hm⟩
      · rcases List.mem_append.mp hp with hp | hp
        · exact List.mem_append_left _ hp
        · exact List.mem_append_right _ (hn p hp)
      · rcases List.mem_append.mp hp with hp | hp
        · rintro q; exact hIf (q ▸ (mem_frEnts.mp hp).1)
        · exact hI p hp
      · obtain ⟨o, ho⟩ := hsome' _ q
        rw [(N' p (hn p hp)).2.2] at ho; cases ho
    cases f with
    | ret v => exact p
    | brk => exact p
    | next => exact fin p
    | cont => exact fin p
  · rintro m₁ nx h tk ⟨g₁, nx₀, rfl, T, hno, hJ⟩ F₁ N₁
    exact done m₁ nx₀ h tk g₁ T hJ (cx_show C T F₁ N₁ (fun p hp => List.mem_append_left _ hp) fun p hp => ⟨List.mem_append_right _ hp, hno p hp⟩)
end
end Mine
end
section
open PySem PySem.W PySem.Calls PyProof.Rows PySem.Builtin
namespace Mine
set_option maxRecDepth 100000

/-! an object that compares by what it is (no __eq__ of its own), out of the written part -/
structure PlainIn (K : Frag) (x C : Addr) : Prop where
  ty : typeIn K (.ref x) = some (.ref C)
  obj : ∃ o, K.lookup x = some o ∧ o.cls = .ref C
  eq : findIn K (.ref C) "__eq__" = some (some (.builtin "object.__eq__"))
  ne : findIn K (.ref C) "__ne__" = some (some (.builtin "object.__ne__"))
  ob : subIn K (.ref C) (.type "object") = some true
  nt : subIn K (.ref C) (.type "tuple") = some false
section
variable {prog : Program} {w : World} {A : Around} {E : Value → Shared → Prop} {s : Shared} {x C : Addr} {K : Frag}
theorem plain_special {name : Str} {id : String} {args : List Value} {Q : Option Value → Shared → Prop} (X : K.In s.heap) (P : PlainIn K x C) (S : Slot "object" name id) (hf : findIn K (.ref C) name = some (some (.builtin id)))
    (hc : wpAny (model prog w) A (call (.builtin id) (.ref x :: args)) (fun v => Q (some v)) E s) : wpAny (model prog w) A (callSpecialIfBound? (.ref x) name args) Q E s := by
  simp only [callSpecialIfBound?, bindSpecialIfBound?, specialOf]
  refine wpAny_holding (wpAny_bind (wpAny_bind (wpAny_bind ((looks_typeIn X P.ty).here ((looks_findIn X hf).here ?_)))))
  simp only [S.bind]
  refine wpAny_bind (wpAny_askSetting (wpAny_ite ?_))
  have fin : wpAny (model prog w) A (call (.builtin id) ([.ref x] ++ args) >>= fun v => pure (some v)) Q E s :=
    wpAny_bind (wpAny_mono hc (fun v s' h' => wpAny_pure h') fun _ _ h' => h')
  split
  · exact wpAny_bind (wpAny_pure (wpAny_pure fin))
  · exact wpAny_tryCatch (wpAny_bind (wpAny_pure (wpAny_pure fin)))
theorem plain_isob (X : K.In s.heap) (P : PlainIn K x C) : Looks (model prog w) s.heap (isInstance (.ref x) (.type "object")) true := (looks_typeIn X P.ty).andThen (looks_subIn X P.ob)
theorem plain_istup {M : Model} (X : K.In s.heap) (P : PlainIn K x C) : Looks M s.heap (isInstance (.ref x) (.type "tuple")) false := (looks_typeIn X P.ty).andThen (looks_subIn X P.nt)
theorem plain_eq_same {Q : Option Value → Shared → Prop} (X : K.In s.heap) (P : PlainIn K x C) (hq : Q (some (.bool true)) s) : wpAny (model prog w) A (callSpecialIfBound? (.ref x) "__eq__" [.ref x]) Q E s :=
  plain_special X P F.cmp_object.eq P.eq (wpAny_call (codeAny_call_builtin F.cmp_object.eq.plain F.cmpEntry_eq (check_slot F.cmpKind_eq F.cmpSplit_eq (plain_isob X P) (F.cmpArgs_eq _ _) (objEq_entry_same hq))))
theorem plain_eq_other {y : Addr} {oy : Obj} {Q : Option Value → Shared → Prop} (X : K.In s.heap) (P : PlainIn K x C) (hy : s.heap.get? y = some oy) (hxy : x ≠ y) (hq : Q (some .notImplemented) s) : wpAny (model prog w) A (callSpecialIfBound? (.ref x) "__eq__" [.ref y]) Q E s := by
  obtain ⟨o, ho, hc⟩ := P.obj
  exact plain_special X P F.cmp_object.eq P.eq (wpAny_call (codeAny_call_builtin F.cmp_object.eq.plain F.cmpEntry_eq (check_slot F.cmpKind_eq F.cmpSplit_eq (plain_isob X P) (F.cmpArgs_eq _ _) (objEq_entry_other hxy (X _ _ ho) hy (by rw [hc]; intro e; cases e) hq))))
theorem plain_ne_same {Q : Option Value → Shared → Prop} (X : K.In s.heap) (P : PlainIn K x C) (hu : A.units + 1 < cLine) (hq : Q (some (.bool false)) s) : wpAny (model prog w) A (tryCompare (.ref x) "__ne__" (.ref x)) Q E s := by
  simp only [tryCompare]
  refine wpAny_bind (plain_special X P F.cmp_object.ne P.ne (wpAny_call (codeAny_call_builtin F.cmp_object.ne.plain F.cmpEntry_ne (check_slot F.cmpKind_ne F.cmpSplit_ne (plain_isob X P) (F.cmpArgs_ne _ _) ?_))))
  unfold Builtin.«object.__ne__»
  repeat (first | with_reducible refine wpAny_cRoomFor (A := A.in1) hu ?_ | with_reducible refine plain_eq_same X P ?_ | wp_step)
  exact hq
theorem plain_ne_other {y : Addr} {oy : Obj} {Q : Option Value → Shared → Prop} (X : K.In s.heap) (P : PlainIn K x C) (hy : s.heap.get? y = some oy) (hxy : x ≠ y) (hu : A.units + 1 < cLine) (hq : Q none s) : wpAny (model prog w) A (tryCompare (.ref x) "__ne__" (.ref y)) Q E s := by
  simp only [tryCompare]
  refine wpAny_bind (plain_special X P F.cmp_object.ne P.ne (wpAny_call (codeAny_call_builtin F.cmp_object.ne.plain F.cmpEntry_ne (check_slot F.cmpKind_ne F.cmpSplit_ne (plain_isob X P) (F.cmpArgs_ne _ _) ?_))))
  unfold Builtin.«object.__ne__»
  repeat (first | with_reducible refine wpAny_cRoomFor (A := A.in1) hu ?_ | with_reducible refine plain_eq_other X P hy hxy ?_ | wp_step)
  exact hq
/-- x != x -/
theorem plain_ne (X : K.In s.heap) (P : PlainIn K x C) (hu : A.units + 1 < cLine) {Q : Value → Shared → Prop} (hq : Q (.bool false) s) : wpAny (model prog w) A (compareOp .NotEq (.ref x) (.ref x)) Q E s := by
  have hu0 : A.units < cLine := Nat.lt_of_succ_lt hu
  show wpAny _ _ (richCompare .NotEq _ _) _ _ _
  simp only [richCompare, cmpInfo_NotEq, oneThing_ref]
  repeat (first | with_reducible refine wpAny_cRoomFor hu0 ?_ | with_reducible refine (looks_typeIn X P.ty).here ?_ | with_reducible refine plain_ne_same X P hu ?_ | wp_step)
  exact hq
theorem tup_ne_plain_entry {ta : Addr} {vs : List Value} {Q : Fin → Shared → Prop} (X : K.In s.heap) (P : PlainIn K x C) (ht : s.heap.get? ta = some { cls := .type "tuple", data := .seq vs.toArray }) (hq : Q (.done (.ret .notImplemented)) s) :
    wpAny (model prog w) A (Builtin.«tuple.__ne__» ⟨[.ref ta, .ref x], []⟩) Q E s := by
  have H : Looks (model prog w) s.heap (isInstance (.ref x) (.type "tuple")) false := plain_istup X P
  obtain ⟨hp, g, d, tk, os⟩ := s
  wp_walk using wpAny_loadPart' ht, H.here
  exact hq
theorem tup_typeIs {ta : Addr} {vs : List Value} (ht : s.heap.get? ta = some { cls := .type "tuple", data := .seq vs.toArray }) : s.TypeIs (.ref ta) "tuple" := ⟨_, ht, rfl⟩
theorem is_ref_off {M : Model} {a b : Addr} {oa ob : Obj} {Q : Value → Shared → Prop} (hab : a ≠ b) (ha : s.heap.get? a = some oa) (hb : s.heap.get? b = some ob) (hnt : ob.cls ≠ .type "tuple") (h : Q (.bool false) s) : wpAny M A (compareOp .Is (.ref a) (.ref b)) Q E s := by
  show wpAny M A (do return .bool (← isSame (.ref a) (.ref b))) Q E s
  exact wpAny_bind (PySem.SeqAt.wpAny_isSame_ref_other' hab ha hb hnt (wpAny_pure h))
theorem isnot_ref_off {M : Model} {a b : Addr} {oa ob : Obj} {Q : Value → Shared → Prop} (hab : a ≠ b) (ha : s.heap.get? a = some oa) (hb : s.heap.get? b = some ob) (hnt : ob.cls ≠ .type "tuple") (h : Q (.bool true) s) : wpAny M A (compareOp .IsNot (.ref a) (.ref b)) Q E s := by
  show wpAny M A (do return .bool (!(← isSame (.ref a) (.ref b)))) Q E s
  exact wpAny_bind (PySem.SeqAt.wpAny_isSame_ref_other' hab ha hb hnt (wpAny_pure h))
/-- a tuple != an object that compares by what it is -/
theorem tup_ne_plain {ta : Addr} {vs : List Value} (X : K.In s.heap) (P : PlainIn K x C) (ht : s.heap.get? ta = some { cls := .type "tuple", data := .seq vs.toArray }) (hxt : x ≠ ta) (hu : A.units + 1 < cLine) {Q : Value → Shared → Prop} (hq : Q (.bool true) s) :
    wpAny (model prog w) A (compareOp .NotEq (.ref ta) (.ref x)) Q E s := by
  have hu0 : A.units < cLine := Nat.lt_of_succ_lt hu
  obtain ⟨o, ho, hc⟩ := P.obj
  show wpAny _ _ (richCompare .NotEq _ _) _ _ _
  simp only [richCompare, cmpInfo_NotEq, oneThing_ref]
  refine wpAny_holding (wpAny_bind (wpAny_cRoomFor hu0 ?_))
  refine wpAny_bind (wpAny_typeOf (tup_typeIs ht) (wpAny_bind ((looks_typeIn X P.ty).here ?_)))
  rw [if_pos (by rfl)]
  refine wpAny_bind ((looks_subIn X P.nt).here ?_)
  simp only [Bool.false_eq_true, if_false, Bool.not_false, if_true]
  refine wpAny_bind (m := tryCompare (.ref ta) "__ne__" (.ref x)) (wpAny_tryCompare_declines (tup_typeIs ht) F.slot_tuple_ne (wpAny_call (codeAny_call_builtin F.slot_tuple_ne.plain F.entry_tuple_ne (F.slot_tuple_ne.check _ _ _ _ _ _ _ _ (tup_typeIs ht) (F.args_tuple_ne_2 _ _) (tup_ne_plain_entry X P ht ⟨rfl, ?_⟩)))))
  refine wpAny_bind (m := tryCompare (.ref x) "__ne__" (.ref ta)) (plain_ne_other X P ht hxt hu ?_)
  refine wpAny_bind (wpAny_rule (wpAny_bind (PySem.SeqAt.wpAny_isSame_ref_other' (fun e => hxt e.symm) ht (X _ _ ho) (by rw [hc]; intro e; cases e) (wpAny_pure hq))))
end
end Mine
end
section
open Lean Elab Tactic Meta PySem PySem.W PySem.Calls PyProof.Rows PyProof.V PySem.Builtin
namespace Mine
set_option maxRecDepth 100000

/-! texts and rows of texts as data -/
theorem strs_carried : ∀ {vs : List Value} {ws : List Str}, StrsAre vs ws → CarriedAll vs (ws.map PyData.str)
  | _, _, .nil => .nil
  | _, _, .cons _ t r => .cons (.str _ t) (strs_carried r)
def StrsOk (ws : List Str) : Prop := ∀ x ∈ ws, PyData.strOk x = true
theorem strs_canLay : ∀ ws : List Str, StrsOk ws → PyData.canLayAll0 (ws.map PyData.str) = true
  | [], _ => rfl
  | x :: r, h => by simp [PyData.canLayAll0, PyData.canLay0, strs_canLay r (fun y hy => h y (.tail _ hy)), h x (.head _)]
theorem strs_depth : ∀ ws : List Str, PyData.depthAll (ws.map PyData.str) = 0
  | [] => rfl
  | _ :: r => by simp [PyData.depthAll, PyData.depth, strs_depth r]
theorem strs_shapedL (ws : List Str) (h : StrsOk ws) : SeqAt.shaped (.list (ws.map PyData.str)) = true := by
  simp [SeqAt.shaped, PyData.canLay0, PyData.depth, strs_canLay ws h, strs_depth]
theorem strs_shapedT (ws : List Str) (h : StrsOk ws) : SeqAt.shaped (.tuple (ws.map PyData.str)) = true := by
  simp [SeqAt.shaped, PyData.canLay0, PyData.depth, strs_canLay ws h, strs_depth]
theorem strs_sameAll : ∀ ws us : List Str, PySem.Spec.sameAll (ws.map PyData.str) (us.map PyData.str) = decide (ws = us)
  | [], [] => by simp [PySem.Spec.sameAll]
  | [], _ :: _ => by simp [PySem.Spec.sameAll]
  | _ :: _, [] => by simp [PySem.Spec.sameAll]
  | a :: r, b :: t => by
    simp only [List.map_cons, PySem.Spec.sameAll, PySem.Spec.same, strs_sameAll r t]
    by_cases h : a = b <;> by_cases h' : r = t <;> simp [h, h']
theorem strs_sameL (ws us : List Str) : PySem.Spec.same (.list (ws.map PyData.str)) (.list (us.map PyData.str)) = decide (ws = us) := by
  simp only [PySem.Spec.same]; exact strs_sameAll ws us
theorem strs_sameT (ws us : List Str) : PySem.Spec.same (.tuple (ws.map PyData.str)) (.tuple (us.map PyData.str)) = decide (ws = us) := by
  simp only [PySem.Spec.same]; exact strs_sameAll ws us
theorem strs_noMixAll : ∀ ws us : List Str, SeqAt.noMixAll (ws.map PyData.str) (us.map PyData.str) = true
  | [], [] => by simp [SeqAt.noMixAll]
  | [], _ :: _ => by simp [SeqAt.noMixAll]
  | _ :: _, [] => by simp [SeqAt.noMixAll]
  | a :: r, b :: t => by simp [SeqAt.noMixAll, SeqAt.noMix, strs_noMixAll r t]
section
variable {prog : Program} {w : World} {A : Around} {E : Value → Shared → Prop} {s : Shared} {h₀ : Heap} {L a b : Addr} {m : Str → Option Value} {news : List (Addr × Obj)} {vs us : List Value} {n n2 : Nat} {ws ys : List Str} {Q : Value → Shared → Prop}
theorem eq_strsL (N : News h₀ L s.heap news) (ha : (a, listOf vs.toArray n) ∈ news) (hb : (b, listOf us.toArray n2) ∈ news) (hv : StrsAre vs ws) (hu' : StrsAre us ys) (ho : StrsOk ws) (ho2 : StrsOk ys) (hu : A.units + 64 < cLine) (h : Q (.bool (decide (ws = ys))) s) :
    wpAny (model prog w) A (compareOp .Eq (.ref a) (.ref b)) Q E s :=
  eq_dataH_same (reads_newData (PySem.IsL.isList (n := n) (N _ ha).1) (strs_carried hv)) (reads_newData (PySem.IsL.isList (n := n2) (N _ hb).1) (strs_carried hu')) (strs_shapedL _ ho) (strs_shapedL _ ho2) hu
    (by show SeqAt.noMix _ _ = true; simp only [SeqAt.noMix]; exact strs_noMixAll _ _) (by rw [strs_sameL]; exact h)
theorem ne_strsT (N : News h₀ L s.heap news) (ha : (a, tupO vs) ∈ news) (hb : (b, tupO us) ∈ news) (hv : StrsAre vs ws) (hu' : StrsAre us ys) (ho : StrsOk ws) (ho2 : StrsOk ys) (hu : A.units + 64 < cLine) (h : Q (.bool (!decide (ws = ys))) s) :
    wpAny (model prog w) A (compareOp .NotEq (.ref a) (.ref b)) Q E s :=
  ne_dataH_same (reads_newDataT (N.isTup ha) (strs_carried hv)) (reads_newDataT (N.isTup hb) (strs_carried hu')) (strs_shapedT _ ho) (strs_shapedT _ ho2) hu
    (by show SeqAt.noMix _ _ = true; simp only [SeqAt.noMix]; exact strs_noMixAll _ _) (by rw [strs_sameT]; exact h)
theorem len_L (N : News h₀ L s.heap news) (hm : (a, listOf vs.toArray n) ∈ news) (hz : vs.length ≤ 16384) (h : Q (.int (vs.length : Int) (s.toks + 1)) { s with toks := s.toks + 1 + 1 }) :
    wpAny (model prog w) A (call (.builtin "len") [.ref a]) Q E s :=
  kun_lenL (PySem.IsL.isList (n := n) (N _ hm).1) (by rw [List.size_toArray]) (by omega) h
theorem len_T (N : News h₀ L s.heap news) (hm : (a, tupO vs) ∈ news) (hz : vs.length ≤ 16384) (h : Q (.int (vs.length : Int) (s.toks + 1)) { s with toks := s.toks + 1 + 1 }) :
    wpAny (model prog w) A (call (.builtin "len") [.ref a]) Q E s :=
  kun_lenT (N.isTup hm) (by rw [List.size_toArray]) (by omega) h
end
theorem strs_take : ∀ {vs : List Value} {ws : List Str}, StrsAre vs ws → ∀ k : Nat, StrsAre (vs.take k) (ws.take k)
  | _, _, _, 0 => .nil
  | _, _, .nil, _ + 1 => .nil
  | _, _, .cons y t h, k + 1 => .cons y t (strs_take h k)

/-! a tuple's slice up to a place -/
theorem adjust_upto (b n : Nat) : Builtin.Slice.sliceAdjust none (some (b : Int)) 1 (n : Int) = (0, ((min b n : Nat) : Int)) := by
  unfold Builtin.Slice.sliceAdjust
  have h1 : ¬ ((1 : Int) < 0) := by omega
  have h2 : ¬ ((b : Int) < 0) := by omega
  simp only [h1, h2, if_false]
  congr 1
  omega
theorem places_upto (k : Nat) : Builtin.Slice.slicePlaces 0 (k : Int) 1 = k := by
  unfold Builtin.Slice.slicePlaces
  have h1 : (1 : Int) > 0 := by omega
  simp only [h1, if_true, Int.ediv_one]
  split <;> omega
section
variable {prog : Program} {w : World} {A : Around} {E : Value → Shared → Prop} {s : Shared} {h₀ : Heap} {L : Addr} {m : Str → Option Value} {news : List (Addr × Obj)}
theorem sliceApplied_upto {sl : Addr} {b n : Nat} {u : Tok} {Q : Int × Int × Nat → Shared → Prop} (hs : s.heap.IsSliceOf sl .none (.int b u) .none) (h : Q ((0 : Int), 1, min b n) s) :
    wpAny (model prog w) A (Builtin.Slice.sliceApplied (.ref sl) (pure (n : Int))) Q E s := by
  obtain ⟨os, hos, hcs, hds⟩ := id hs
  unfold Builtin.Slice.sliceApplied Builtin.Slice.sliceFields
  refine wpAny_bind (wpAny_bind (wpAny_field hos hds (x := .none) rfl (wpAny_bind (wpAny_field hos hds (x := .int b u) rfl (wpAny_bind (wpAny_field hos hds (x := .none) rfl (wpAny_pure ?_)))))))
  refine wpAny_bind (slicePart_none ?_)
  show wpAny _ _ (if ((1 : Int) == 0) = true then _ else _) _ _ s
  rw [if_neg (by decide)]
  refine wpAny_bind (slicePart_none (wpAny_bind (slicePart_int (wpAny_bind (wpAny_pure ?_)))))
  show wpAny _ _ (match Builtin.Slice.sliceAdjust none (some (b : Int)) 1 (n : Int) with | (lo, hi) => pure (lo, (1 : Int), Builtin.Slice.slicePlaces lo hi 1)) _ _ s
  rw [adjust_upto b n]
  show wpAny _ _ (pure ((0 : Int), (1 : Int), Builtin.Slice.slicePlaces 0 ((min b n : Nat) : Int) 1)) _ _ s
  rw [places_upto]
  exact wpAny_pure h
theorem pick_upto (xs : Array Value) (b : Nat) : ((List.range b).filterMap fun (k : Nat) => xs[((0 : Int) + (k : Int) * 1).toNat]?).toArray = (xs.toList.take b).toArray := by
  have e : (fun (k : Nat) => xs[((0 : Int) + (k : Int) * 1).toNat]?) = fun k => xs[0 + k]? := by
    funext k
    have : ((0 : Int) + (k : Int) * 1).toNat = 0 + k := by omega
    rw [this]
  rw [e]
  have := pick_run xs 0 b
  rw [List.filterMap_map] at this
  have e2 : ((fun x => xs[x]?) ∘ fun x => 0 + x) = fun k => xs[0 + k]? := rfl
  rw [e2] at this
  rw [this, List.drop_zero]
theorem getItem_tuple_upto {t sl : Addr} {vs : List Value} {b : Nat} {u : Tok} {Q : Value → Shared → Prop} (ht : IsTup s.heap t vs.toArray) (hs : s.heap.IsSliceOf sl .none (.int b u) .none) (hsz : vs.length ≤ 1000000)
    (h1 : b < vs.length → Q (.ref s.heap.objs.size) { s with heap := s.heap.push (tupO (vs.take b)) }) (h2 : vs.length ≤ b → Q (.ref t) s) : wpAny (model prog w) A (getItem (.ref t) (.ref sl)) Q E s := by
  have htake : sizeOk (.seq (vs.take b).toArray) := by
    show (vs.take b).toArray.size ≤ sizeLine
    rw [List.size_toArray, List.length_take, sizeLine_eq]
    omega
  obtain ⟨os, hos, hcs, hds⟩ := id hs
  have hTs : s.TypeIs (.ref sl) "slice" := ⟨os, hos, hcs⟩
  unfold getItem
  try with_reducible refine wpAny_holding ?_
  first | refine wpAny_bind (wpAny_pure ?_) | skip
  refine wpAny_bind (wpAny_sequenceKey ht.typeIs (by decide) ?_)
  refine wpAny_bind (wpAny_callSpecial?_slot (name := Str.ofString "__getitem__") ht.typeIs slot_tuple_getitem
    (wpAny_call_entry slot_tuple_getitem ht.typeIs entry_tuple_getitem ?_ (args_tuple_getitem _ _)))
  show wpAny _ _ (Builtin.Tuple.tupleItemsOf (.ref t) >>= _) _ _ s
  refine wpAny_bind (tupleItemsOf_ ht ?_)
  refine wpAny_bind (wpAny_typeOf hTs ?_)
  rw [if_pos (by decide)]
  refine wpAny_bind (sliceApplied_upto hs ?_)
  rw [List.size_toArray]
  show wpAny _ _ (if ((0 : Int) == 0 && (1 : Int) == 1 && (min b vs.length) == vs.length) = true then _ else _) _ _ s
  by_cases hb : b < vs.length
  · have hno : ¬ (((0 : Int) == 0 && (1 : Int) == 1 && (min b vs.length) == vs.length) = true) := by
      have : (min b vs.length == vs.length) = false := by rw [beq_eq_false_iff_ne]; omega
      rw [this]; simp
    rw [if_neg hno, Nat.min_eq_left (Nat.le_of_lt hb), pick_upto]
    have h := h1 hb
    first
      | exact wpAny_bind (m := Builtin.Tuple.tupleExact _) (wpAny_newObj_type (wpAny_pure ⟨_, rfl, wpAny_pure h⟩) htake)
      | exact wpAny_bind (m := Builtin.Tuple.tupleExact _) (wpAny_newObj_type (wpAny_bind (wpAny_pure (wpAny_pure ⟨_, rfl, wpAny_pure h⟩))) htake)
      | exact wpAny_bind (wpAny_bind (m := Builtin.Tuple.tupleExact _) (wpAny_newObj_type (wpAny_pure (wpAny_pure ⟨_, rfl, wpAny_pure h⟩)) htake))
      | exact wpAny_bind (wpAny_bind (m := Builtin.Tuple.tupleExact _) (wpAny_newObj_type (wpAny_pure ⟨_, rfl, wpAny_pure h⟩) htake))
  · have hyes : (((0 : Int) == 0 && (1 : Int) == 1 && (min b vs.length) == vs.length) = true) := by
      have : (min b vs.length == vs.length) = true := by rw [beq_iff_eq]; omega
      rw [this]; simp
    rw [if_pos hyes]
    have h := h2 (by omega)
    have hx : wpAny (model prog w) A.in1 (Builtin.Tuple.tupleIsExact (.ref t)) (fun b s' => b = true ∧ Q (.ref t) s') E s :=
      wpAny_bind (wpAny_typeOf ht.typeIs (wpAny_pure ⟨by rfl, h⟩))
    refine wpAny_bind (wpAny_mono hx (fun b s' hb => ?_) fun _ _ e => e)
    obtain ⟨rfl, hq⟩ := hb
    rw [if_pos rfl]
    first
      | exact wpAny_bind (wpAny_rule (wpAny_bind (wpAny_pure (wpAny_pure ⟨_, rfl, wpAny_pure hq⟩))))
      | exact wpAny_bind (wpAny_rule (wpAny_pure ⟨_, rfl, wpAny_pure hq⟩))
      | exact wpAny_rule (wpAny_pure ⟨_, rfl, wpAny_pure hq⟩)
      | exact wpAny_rule (wpAny_bind (wpAny_pure ⟨_, rfl, wpAny_pure hq⟩))
      | exact wpAny_rule (wpAny_bind (wpAny_pure ⟨_, rfl, hq⟩))
      | exact wpAny_rule (wpAny_pure ⟨_, rfl, hq⟩)
      | exact wpAny_bind (wpAny_rule (wpAny_pure ⟨_, rfl, hq⟩))
      | exact wpAny_bind (wpAny_rule (wpAny_bind (wpAny_pure ⟨_, rfl, hq⟩)))
end
section
variable {prog : Program} {w : World} {A : Around} {E : Value → Shared → Prop} {s : Shared} {h₀ : Heap} {L : Addr} {m : Str → Option Value} {news : List (Addr × Obj)}
/-- t[:b] of a tuple: a new one, or itself -/
theorem slice_tuple_upto {value slice : PySem.Expr} {t : Addr} {vs : List Value} {b : Nat} {u : Tok} {Q : Value → Shared → Prop}
    (F : Fr h₀ L s.heap m) (N : News h₀ L s.heap news) (hm : (t, tupO vs) ∈ news) (hsz : vs.length ≤ 1000000)
    (h : ∀ D h' nx, Fr h₀ L h' m → News h₀ L h' nx → (∀ p ∈ news, p ∈ nx) → (D, tupO (vs.take b)) ∈ nx → (nx = news ∨ ∃ o, nx = (D, o) :: news ∧ ∀ p ∈ news, p.1 < D) → Q (.ref D) { s with heap := h' })
    (hs : subscripted slice false (.ref t) (.ref s.heap.objs.size) = operate [.ref s.heap.objs.size, .ref t] (getItem (.ref t) (.ref s.heap.objs.size)) := by with_unfolding_all rfl)
    :
    wpAny (model prog w) A (subscriptTail value slice (.ref t) (.ref s.heap.objs.size)) Q E { s with heap := s.heap.push { cls := .type "slice", data := .fields #[.none, .int b u, .none] } } := by
  refine kba_turn (value' := PySem.Expr.Name "x" ⟨0, 0, 0, 0⟩) (fun _ => rfl) ?_
  have ht : IsTup s.heap t vs.toArray := N.isTup hm
  have ht' : IsTup (s.heap.push { cls := .type "slice", data := .fields #[.none, .int b u, .none] }) t vs.toArray := ht.keeps fun _ _ e => Heap.get?_push_of_some _ e
  have Np := N.grown (h' := s.heap.push { cls := .type "slice", data := .fields #[.none, .int b u, .none] }) fun _ _ e => Heap.get?_push_of_some _ e
  refine subscriptTail_ops (s := { s with heap := s.heap.push { cls := .type "slice", data := .fields #[.none, .int b u, .none] } }) ht'.typeIs slot_tuple_getitem.lookup
    (getItem_tuple_upto ht' (Heap.IsSliceOf.new ..) hsz (fun hb => ?_) (fun hb => ?_)) hs (fun _ => rfl)
  · have N1 := News.push (F.push { cls := .type "slice", data := .fields #[.none, .int b u, .none] }) Np (tupO (vs.take b))
    rw [Heap.size_push] at N1
    show Q (.ref (s.heap.push _).objs.size) _
    rw [Heap.size_push]
    exact h _ _ _ ((F.push _).push _) N1 (fun p hp => .tail _ hp) (.head _) (.inr ⟨_, rfl, fun p hp => Nat.lt_succ_of_lt (Heap.lt_size (N p hp).1)⟩)
  · refine h _ _ _ (F.push _) Np (fun p hp => hp) ?_ (.inl rfl)
    rw [List.take_of_length_le hb]; exact hm
end
section
variable {prog : Program} {w : World} {A : Around} {E : Value → Shared → Prop} {s : Shared} {h₀ : Heap} {L l : Addr} {m : Str → Option Value} {news : List (Addr × Obj)} {vs us : List Value} {n n2 : Nat} {Q : Value → Shared → Prop}
theorem pick_list_upto (vs : List Value) (b : Nat) : slicePick vs.toArray none (some (b : Int)) none = (vs.take b).toArray := by
  have e : sliceBounds none (some (b : Int)) none vs.toArray.size = (((0 : Nat) : Int), ((min b vs.toArray.size : Nat) : Int), 1) := by
    simp only [sliceBounds, Option.getD_none, show (1 : Int) > 0 by decide, if_true, if_neg (show ¬ ((b : Int) < 0) by omega)]
    congr 1
    congr 1
    omega
  rw [kmk_pick_nat _ e]
  show ((vs.drop 0).take (min b vs.toArray.size - 0)).toArray = _
  rw [List.drop_zero, Nat.sub_zero, List.size_toArray, kmk_take_min]
theorem slice_list_upto {value slice : PySem.Expr} {b : Nat} {u : Tok} (F : Fr h₀ L s.heap m) (N : News h₀ L s.heap news) (hm : (l, listOf vs.toArray n) ∈ news) (hz : vs.length ≤ 1000000)
    (h : ∀ D h', Fr h₀ L h' m → News h₀ L h' ((D, listOf (vs.take b).toArray 0) :: news) → (∀ p ∈ news, p.1 < D) → Q (.ref D) { s with heap := h' })
    (hs : subscripted slice false (.ref l) (.ref s.heap.objs.size) = operate [.ref s.heap.objs.size, .ref l] (getItem (.ref l) (.ref s.heap.objs.size)) := by with_unfolding_all rfl) :
    wpAny (model prog w) A (subscriptTail value slice (.ref l) (.ref s.heap.objs.size)) Q E { s with heap := s.heap.push { cls := .type "slice", data := .fields #[.none, .int b u, .none] } } := by
  refine kba_turn (value' := PySem.Expr.Name "x" ⟨0, 0, 0, 0⟩) (fun _ => rfl) ?_
  refine kmk_slice F N (PySem.IsL.isList (n := n) (N _ hm).1) (lo := none) (hi := some (b : Int)) ?_ ?_ (fun D h' F' N' l1 => h D h' F' ?_ l1) hs (fun _ => rfl) (by rw [sizeLine_eq, List.size_toArray]; omega)
  · first | exact .none | exact rfl | constructor
  · first | exact .int _ _ | exact rfl | constructor
  · rw [pick_list_upto] at N'; exact N'
theorem list_of_tuple (F : Fr h₀ L s.heap m) (N : News h₀ L s.heap news) (hm : (l, tupO vs) ∈ news) (hz : vs.length ≤ 1000000)
    (h : ∀ D c h', Fr h₀ L h' m → News h₀ L h' ((D, listOf vs.toArray c) :: news) → (∀ q ∈ news, q.1 < D) → Q (.ref D) { s with heap := h' }) : wpAny (model prog w) A (call (.type "list") [.ref l]) Q E s :=
  kup_listOfT (n2 := 0) F N hm rfl h (by rw [sizeLine_eq]; simpa using by omega)
theorem add_L {a b : Addr} (F : Fr h₀ L s.heap m) (N : News h₀ L s.heap news) (ha : (a, listOf vs.toArray n) ∈ news) (hb : (b, listOf us.toArray n2) ∈ news) (hz : vs.length + us.length ≤ 1000000)
    (h : ∀ D h', Fr h₀ L h' m → News h₀ L h' ((D, listOf (vs ++ us).toArray 0) :: news) → (∀ p ∈ news, p.1 < D) → Q (.ref D) { s with heap := h' }) : wpAny (model prog w) A (binaryOp .Add (.ref a) (.ref b)) Q E s :=
  kmk_add_lit F N (PySem.IsL.isList (n := n) (N _ ha).1) (PySem.IsL.isList (n := n2) (N _ hb).1) (by simp) h (by rw [sizeLine_eq]; simpa using by omega)
end
end Mine
end
section
open Lean Elab Tactic Meta PySem PySem.W PySem.Calls PyProof.Rows PyProof.V PySem.Builtin
namespace Mine
set_option maxRecDepth 100000
section
variable {prog : Program} {w : World} {A : Around} {E : Value → Shared → Prop} {s : Shared} {env : Env} {h₀ : Heap} {x : Str} {body : List Stmt} {Q : Flow → Shared → Prop} {K : Type} [DecidableEq K] {knd : KeyKind prog w K}
/-- a loop over a dict's values; the dict stands as it is -/
theorem iter_valuesJ {v d : Addr} {kvs : List (K × Value)} {m₀ : Str → Option Value} {news : List (Addr × Obj)} (J : Nat → (Str → Option Value) → List (Addr × Obj) → Prop)
    (hh : A.handled = none) (hv : s.heap.IsValuesView v d) (hd : ∃ ep, s.heap.DictAt knd d kvs ep) (hL : d ≠ env.locals) (F : Fr h₀ env.locals s.heap m₀) (N : News h₀ env.locals s.heap news) (hj : J 0 m₀ news)
    (turn : ∀ i k y m₁ news₁ I own h tk, kvs[i]? = some (k, y) → J i m₁ news₁ → (∀ p ∈ own, p.1 = I ∨ p.1 = d) → (∀ p ∈ news₁, p.1 ≠ I) → (∃ o, (I, o) ∈ own ∧ o.cls = .type "dict_valueiterator") → d ≠ I →
      Fr h₀ env.locals h (fun z => if z = x then some y else m₁ z) → News h₀ env.locals h (news₁ ++ own) →
      wpAny (model prog w) A (execs body env) (TurnPost h₀ env.locals I own (J (i + 1)) { s with heap := h, toks := tk } Q) E { s with heap := h, toks := tk })
    (done : ∀ m₁ news₁ h tk, J kvs.length m₁ news₁ → Fr h₀ env.locals h m₁ → News h₀ env.locals h news₁ → Q .next { s with heap := h, toks := tk }) :
    wpAny (model prog w) A (pyIter (.ref v)) (fun it s₂ => LoopAtV prog w A h₀ env x body Q E it s₂) E s := by
  obtain ⟨ep, hd⟩ := hd
  obtain ⟨od, es, hod, hrest⟩ := id hd
  have hlt : d < s.heap.objs.size := Heap.lt_size hod
  refine wpAny_pyIter_values hv hd ?_
  have hn := next_is_new F
  have W := Walks.dictValues (knd := knd) hh s.heap.objs.size d (Nat.ne_of_lt hlt) kvs ep
  refine loopJ J W ⟨⟨_, Heap.get?_push_size _ rfl, rfl, rfl⟩, hd.at' fun o e => Heap.get?_push_of_some _ e⟩ ?_ hn ?_ (F.push _) (fun p hp => ⟨Heap.get?_push_of_some _ (N p hp).1, (N p hp).2⟩) hj ?_ ?_
  · intro hm
    rcases List.mem_cons.mp hm with e | hm
    · exact absurd F.ns.lt (e ▸ Nat.lt_irrefl _)
    · exact hL (List.mem_singleton.mp hm).symm
  · intro p hp hI; exact absurd (Heap.lt_size (N p hp).1) (hI ▸ Nat.lt_irrefl _)
  · rintro i y m₁ news₁ own h tk _ ⟨k, hP⟩ hJ hown hoff hall ⟨⟨o, ho, hoc, _⟩, hl'⟩ F₁ N₁
    exact turn i k y m₁ news₁ _ own h tk hP hJ (fun p hp => by simpa using hown p hp) hoff ⟨o, hall _ (.head _) hn o ho, hoc⟩ (Nat.ne_of_lt hlt) F₁ N₁
  · intro m₁ news₁ h tk hJ _ F₁ N₁
    exact done m₁ news₁ h tk hJ F₁ N₁
/-- a loop over a dict's keys; the dict stands as it is -/
theorem iter_keysJ {d : Addr} {kvs : List (K × Value)} {m₀ : Str → Option Value} {news : List (Addr × Obj)} (J : Nat → (Str → Option Value) → List (Addr × Obj) → Prop)
    (hh : A.handled = none) (lo : (d == sysModules) = false) (hd : ∃ ep, s.heap.DictAt knd d kvs ep) (hL : d ≠ env.locals) (F : Fr h₀ env.locals s.heap m₀) (N : News h₀ env.locals s.heap news) (hj : J 0 m₀ news)
    (turn : ∀ i k y v m₁ news₁ I own h tk, kvs[i]? = some (k, y) → knd.is k v = true → J i m₁ news₁ → (∀ p ∈ own, p.1 = I ∨ p.1 = d) → (∀ p ∈ news₁, p.1 ≠ I) → (∃ o, (I, o) ∈ own) → d ≠ I →
      Fr h₀ env.locals h (fun z => if z = x then some v else m₁ z) → News h₀ env.locals h (news₁ ++ own) →
      wpAny (model prog w) A (execs body env) (TurnPost h₀ env.locals I own (J (i + 1)) { s with heap := h, toks := tk } Q) E { s with heap := h, toks := tk })
    (done : ∀ m₁ news₁ h tk, J kvs.length m₁ news₁ → Fr h₀ env.locals h m₁ → News h₀ env.locals h news₁ → Q .next { s with heap := h, toks := tk }) :
    wpAny (model prog w) A (pyIter (.ref d)) (fun it s₂ => LoopAtV prog w A h₀ env x body Q E it s₂) E s := by
  obtain ⟨ep, hd⟩ := hd
  obtain ⟨od, es, hod, hrest⟩ := id hd
  have hlt : d < s.heap.objs.size := Heap.lt_size hod
  refine wpAny_pyIter_dict lo hd ?_
  have hn := next_is_new F
  have W := Walks.dictKeys (knd := knd) hh s.heap.objs.size d (Nat.ne_of_lt hlt) kvs ep
  refine loopJ J W ⟨⟨_, Heap.get?_push_size _ rfl, rfl, rfl⟩, hd.at' fun o e => Heap.get?_push_of_some _ e⟩ ?_ hn ?_ (F.push _) (fun p hp => ⟨Heap.get?_push_of_some _ (N p hp).1, (N p hp).2⟩) hj ?_ ?_
  · intro hm
    rcases List.mem_cons.mp hm with e | hm
    · exact absurd F.ns.lt (e ▸ Nat.lt_irrefl _)
    · exact hL (List.mem_singleton.mp hm).symm
  · intro p hp hI; exact absurd (Heap.lt_size (N p hp).1) (hI ▸ Nat.lt_irrefl _)
  · rintro i v m₁ news₁ own h tk _ ⟨k, y, hP, hk⟩ hJ hown hoff hall ⟨⟨o, ho, _⟩, hl'⟩ F₁ N₁
    exact turn i k y v m₁ news₁ _ own h tk hP hk hJ (fun p hp => by simpa using hown p hp) hoff ⟨o, hall _ (.head _) hn o ho⟩ (Nat.ne_of_lt hlt) F₁ N₁
  · intro m₁ news₁ h tk hJ _ F₁ N₁
    exact done m₁ news₁ h tk hJ F₁ N₁
end

/-! a def within a def: made anew, its code laid in the table at the first time -/
def TabSt (P : Addr) (pos : Pos) (qual : Str) (led : List (Addr × Obj)) : Prop :=
  (P, tabObj #[]) ∈ led ∨ ∃ c' oc vs t, (P, tabObj #[rawInt pos.line, rawInt pos.col, .ref c']) ∈ led ∧ (c', oc) ∈ led ∧ oc.data = .fields vs ∧ vs[1]? = some (.str qual t)
theorem tabSt_mono {P : Addr} {pos : Pos} {qual : Str} {a b : List (Addr × Obj)} (h : TabSt P pos qual a) (k : ∀ p ∈ a, p ∈ b) : TabSt P pos qual b := by
  rcases h with h | ⟨c', oc, vs, t, h1, h2, h3, h4⟩
  · exact .inl (k _ h)
  · exact .inr ⟨c', oc, vs, t, k _ h1, k _ h2, h3, h4⟩
theorem tabSt_move {P : Addr} {pos : Pos} {qual : Str} {a b : List (Addr × Obj)} (h : TabSt P pos qual a) (k : ∀ p ∈ a, (p.1 = P ∨ ∃ vs, p.2.data = .fields vs) → p ∈ b) : TabSt P pos qual b := by
  rcases h with h | ⟨c', oc, vs, t, h1, h2, h3, h4⟩
  · exact .inl (k _ h (.inl rfl))
  · exact .inr ⟨c', oc, vs, t, k _ h1 (.inl rfl), k _ h2 (.inr ⟨vs, h3⟩), h3, h4⟩
section
variable {M : Model} {A : Around} {E : Value → Shared → Prop} {s : Shared} {h₀ : Heap} {L a c P : Addr} {m mg mb : Str → Option Value} {cn : Str} {cs : Scope} {ccd : Value} {cl : List (Str × Addr)} {news : List (Addr × Obj)}
  {p : Program} {loose : List Str} {mean : ExcName → Option Value} {name qual : Str} {params : Arguments} {body : List Stmt} {scope : Scope} {pos : Pos} {firstLine : Nat} {clos : List (Str × Addr)}
theorem make_nest {Q : Value → Shared → Prop} (F : Fr h₀ L s.heap m) (N : News h₀ L s.heap news) (T : Top p loose mean mg mb h₀) (C : CodeHd h₀ c P) (hcd : ccd = .ref c) (S : TabSt P pos qual news)
    (hcl : closureFor scope (envX cn cs L a ccd cl) = pure clos)
    (h : ∀ f c' oc vs t ctv doc h' tk led, Fr h₀ L h' m → News h₀ L h' led → (f, fnMade name qual params body scope clos doc ((mg "__name__").getD .none) c' ctv) ∈ led → (c', oc) ∈ led → oc.data = .fields vs → vs[1]? = some (.str qual t) → TabSt P pos qual led →
      (∀ q ∈ news, q.1 ≠ P → q ∈ led) → (∀ q ∈ news, q.1 < f) → (∀ q ∈ led, q.1 = P ∨ q ∈ news ∨ ∀ r ∈ news, r.1 < q.1) → Q (.ref f) { s with heap := h', toks := tk }) :
    wpAny M A (makeFunction name qual params (.stmts body) scope (envX cn cs L a ccd cl) [] [] [] pos firstLine) Q E s := by
  rcases S with hP | ⟨c₁, oc₁, vs₁, t₁, hP, hc₁, hd₁, hv₁⟩
  · refine nest_K F (news_but N hP) T C hcd (UpdF.head but_off) (by first | trivial | exact .nil | decide) (by rfl) hcl fun f c' oc vs t ctv doc h' tk F' N' hd hv l1 l2 => ?_
    have l3 : ∀ q ∈ news, q.1 < c' := fun q hq => by
      by_cases e : q.1 = P
      · rw [e]; exact l1 _ (.head _)
      · exact l1 q (.tail _ (mem_but.mpr ⟨hq, e⟩))
    refine h f c' oc vs t ctv doc h' tk _ F' N' (.head _) (.tail _ (.head _)) hd hv (.inr ⟨c', oc, vs, t, .tail _ (.tail _ (.head _)), .tail _ (.head _), hd, hv⟩) (fun q hq hn => .tail _ (.tail _ (mem_put hq hn))) (fun q hq => Nat.lt_trans (l3 q hq) l2) (fun q hq => ?_)
    rcases List.mem_cons.mp hq with rfl | hq
    · exact .inr (.inr fun r hr => Nat.lt_trans (l3 r hr) l2)
    rcases List.mem_cons.mp hq with rfl | hq
    · exact .inr (.inr l3)
    rcases List.mem_cons.mp hq with rfl | hq
    · exact .inl rfl
    · exact .inr (.inl (mem_but.mp hq).1)
  · refine nestHit_K F N T C hcd hP (by first | trivial | exact ⟨rfl, rfl⟩ | simp [TriplesOk, rawInt]) (c' := c₁) (by simp [codeAmong, rawInt]) hcl fun f ctv doc h' tk F' N' l1 => ?_
    refine h f c₁ oc₁ vs₁ t₁ ctv doc h' tk _ F' N' (.head _) (.tail _ hc₁) hd₁ hv₁ (.inr ⟨c₁, oc₁, vs₁, t₁, .tail _ hP, .tail _ hc₁, hd₁, hv₁⟩) (fun q hq _ => .tail _ hq) l1 (fun q hq => ?_)
    rcases List.mem_cons.mp hq with rfl | hq
    · exact .inr (.inr l1)
    · exact .inr (.inl hq)
end

section
variable {prog : Program} {w : World} {A : Around} {s : Shared} {base h₀ : Heap} {outer : List Env} {env : Env} {L : Addr} {m : Str → Option Value} {cs : Scope} {news : List (Addr × Obj)} {K : Frag}
    {R : Result → Shared → Prop} {name qual : Str} {params : Arguments} {body : List Stmt} {scope : Scope} {cl : List (Str × Addr)} {doc pm ctv : Value} {c' f : Addr} {args : Args} {binds : List (Str × Value)} {oc : Obj} {vs : Array Value} {t : Tok}
/-- a call of a def made within a def -/
theorem enterN (C : Cx K cs outer base h₀ L s.heap m news) (hA : A.frames = some (env :: outer)) (hf : env.frame = some L) (hke : env.scope.kind = .function)
    (ho : (f, fnMade name qual params body scope cl doc pm c' ctv) ∈ news) (hoc : (c', oc) ∈ news) (hd : oc.data = .fields vs) (hv : vs[1]? = some (.str qual t)) (hroom : A.depth < recursionLimit)
    (hbind : BindsTo s (fnX name qual params body scope cl .none .none doc pm none (.ref c') ctv) args binds) (hloc : ∀ y ∈ binds, scope.names.lookup y.1 = some .local)
    (h : ∀ g L' h₁, Cx K scope (env :: outer) base g L' h₁ (fun y => binds.reverse.lookup y) news → (∀ p ∈ news, p.1 < L') →
      wpAny (model prog w) (A.deeper (envX qual scope L' f (.ref c') cl)) (execs body (envX qual scope L' f (.ref c') cl))
        (fun fl s' => LeaveC K cs env outer base h₀ g L m R (match fl with | .ret v => v | _ => .none) s')
        (fun e s' => wpAny (model prog w) (A.deeper (envX qual scope L' f (.ref c') cl)) (leaving (envX qual scope L' f (.ref c') cl) e) (fun _ s'' => R (.error e) s'') (fun e' s'' => R (.error e') s'') s')
        { s with heap := h₁, toks := s.toks + binds.length })
    (hco : scope.isCoroutine = false) (hgen : scope.isGenerator = false) (hk : scope.kind = .function)
    (hcell : ∀ x ∈ scope.names, x.2 ≠ .cell) : codeAny (model prog w) A (.call (.ref f) args) R s := by
  have C' := C
  obtain ⟨⟨A₀, B⟩, F, XB, N, ⟨p, loose, mean, mg, mb, TB⟩, D, k⟩ := C
  obtain ⟨st, FG, BG, DG⟩ := ground C' hA hf hke
  have hlim : h₀.NoLimit := TB.nolimit.keeps B.stays
  refine codeAny_call_def (fd := fnX name qual params body scope cl .none .none doc pm none (.ref c') ctv) (body := body) (binds := binds) hroom (N _ ho).1 rfl (hlim.keeps F.keep) (codeRec_news N hoc hd hv) rfl hbind hcell hloc (fun h₁ hns hk₁ => ?_) hco hgen hk
  refine wpAny_mono (h _ s.heap.objs.size h₁ ⟨⟨A, BG⟩, ⟨hns, fun b o e => hk₁ b o (of_hideAll _ e), Nat.le_of_eq (hideAll_size _ _)⟩, XB,
    (fun p hp => ⟨hk₁ _ _ (N p hp).1, Nat.ne_of_lt (Heap.lt_size (N p hp).1), hideAll_none _ (List.mem_map_of_mem hp)⟩), ⟨p, loose, mean, mg, mb, TB⟩, DG, hk⟩ (fun p hp => Heap.lt_size (N p hp).1)) (fun fl s' hl => ?_) fun _ _ y => y
  rcases hl with ⟨L', m', news', F', N', kk⟩ | ⟨g', L', m', news', T', F', N', kk⟩
  · exact kk (unground0 C' F' N')
  obtain ⟨h₀', T₁, C₁⟩ := unground C' hf T' F' N'
  exact kk h₀' T₁ C₁
end

theorem callWith_FKW {M : Model} {A : Around} {E : Value → Shared → Prop} {s : Shared} {env : Env} {pos : Pos} {q : Addr} {first : List Value} {Q : Value → Shared → Prop} {e : PySem.Expr} {rest : List PySem.Expr} {kws : List Keyword} (_X : FnAt q s.heap) (hall : (backToKw pos (keywordEach kws env)).all (·.1.isSome) = true)
    (h : wpAny M A (spliced (backTo pos (starEach (e :: rest) env))) (fun vs s₁ => wpAny M A (evalAll ((backToKw pos (keywordEach kws env)).map (·.2)))
      (fun ks s₂ => FnAt q s₂.heap ∧ wpAny M A (call (.ref q) (first ++ vs) (((backToKw pos (keywordEach kws env)).filterMap (·.1)).zip ks)) Q E s₂) E s₁) E s)
    (hplain : ((backTo pos (starEach (e :: rest) env)).any (·.1) || (backToKw pos (keywordEach kws env)).any (·.1.isNone)) = false := by rfl) (he : starEach (e :: rest) env = (false, eval e env) :: starEach rest env := by rfl) :
    wpAny M A (callWith pos (.ref q) first (backTo pos (starEach (e :: rest) env)) (backToKw pos (keywordEach kws env))) Q E s :=
  callWith_of hplain keeps_F (evalArgs_kw2 hall h he)

section
variable {prog : Program} {w : World} {A : Around} {E : Value → Shared → Prop} {s : Shared} {h₀ : Heap} {L d : Addr} {m : Str → Option Value} {news : List (Addr × Obj)} {o : Obj} {K : Type} [DecidableEq K] {knd : KeyKind prog w K} {kvs : List (K × Value)}
theorem values_method {pl : Sem Bool} {Q : Value × List Value → Shared → Prop} (N : News h₀ L s.heap news) (hp : (d, o) ∈ news) (hd : o.IsDictOf knd kvs) (h : Q (.builtin "dict.values", [.ref d]) s) : wpAny (model prog w) A (getMethod (.ref d) "values" pl) Q E s := by
  have hD := kda_dict N hp hd
  exact getMethod_builtin hD.typeIs PySem.F.plainAttrs_dict PySem.F.slot_dict_values PySem.F.type_dict_values hD.mapOf.noDict h
theorem values_call {Q : Value → Shared → Prop} (F : Fr h₀ L s.heap m) (N : News h₀ L s.heap news) (hp : (d, o) ∈ news) (hd : o.IsDictOf knd kvs) (lo : (d == sysModules) = false)
    (h : ∀ v h', Fr h₀ L h' m → News h₀ L h' ((v, { cls := .type "dict_values", data := .fields #[.ref d] }) :: news) → (∀ p ∈ news, p.1 < v) → Q (.ref v) { s with heap := h' }) : wpAny (model prog w) A (call (.builtin "dict.values") [.ref d]) Q E s := by
  have hD := kda_dict N hp hd
  refine call_meetsIn PySem.F.slot_dict_values hD.typeIs PySem.F.entry_dict_values (PySem.F.args_dict_values_1 _) (meets_dict_values knd d lo) ⟨⟨kvs, hD⟩, ?_⟩
  exact h _ _ (F.push _) (News.push F N _) fun p hp => Heap.lt_size (N p hp).1
end
abbrev itObj (l : Addr) : Obj := { cls := .type "list_iterator", data := .fields #[.ref l, .int 0 0] }
section
variable {prog : Program} {w : World} {A : Around} {E : Value → Shared → Prop} {s : Shared} {h₀ : Heap} {L l : Addr} {m : Str → Option Value} {news : List (Addr × Obj)} {vs : List Value} {n : Nat} {Q : Value → Shared → Prop}
theorem iter_L (F : Fr h₀ L s.heap m) (N : News h₀ L s.heap news) (hm : (l, listOf vs.toArray n) ∈ news)
    (h : ∀ I h', Fr h₀ L h' m → News h₀ L h' ((I, itObj l) :: news) → (∀ p ∈ news, p.1 < I) → Q (.ref I) { s with heap := h' }) : wpAny (model prog w) A (call (.builtin "iter") [.ref l]) Q E s := by
  refine call_function_entry (by decide +kernel) (by decide +kernel) kdk_entry_iter (kdk_args_iter _) ?_
  unfold Builtin.«iter»
  refine wpAny_bind (m := someArgs "iter" 1 2 _) (wpAny_of_eq (a := [Value.ref l]) (by first | rfl | kernel_rfl!) ?_)
  show wpAny _ _ (pyIter (.ref l) >>= _) _ _ _
  refine wpAny_bind (wpAny_pyIter_list (PySem.IsL.isList (n := n) (N _ hm).1) ?_)
  exact wpAny_pure ⟨_, rfl, h _ _ (F.push _) (News.push F N _ rfl) (fun q hq => Heap.lt_size (N q hq).1)⟩
end
end Mine
end
section
open Lean Elab Tactic Meta PySem PySem.W PySem.Calls PyProof.Rows PyProof.V PySem.Builtin
namespace Mine
set_option maxRecDepth 100000

/-! pairs: what a walk tells -/
def PairIn (news : List (Addr × Obj)) (v : Value) (xy : Str × Str) : Prop := ∃ a t u, v = .ref a ∧ (a, pairObj xy.1 t xy.2 u) ∈ news
inductive PairsIn (news : List (Addr × Obj)) : List Value → List (Str × Str) → Prop
  | nil : PairsIn news [] []
  | cons {v : Value} {r : Str × Str} {vs : List Value} {rs : List (Str × Str)} : PairIn news v r → PairsIn news vs rs → PairsIn news (v :: vs) (r :: rs)
theorem pairs_mono {a b : List (Addr × Obj)} (k : ∀ p ∈ a, p ∈ b) : ∀ {vs : List Value} {rows : List (Str × Str)}, PairsIn a vs rows → PairsIn b vs rows
  | _, _, .nil => .nil
  | _, _, .cons ⟨x, t, u, e, h⟩ r => .cons ⟨x, t, u, e, k _ h⟩ (pairs_mono k r)
theorem pairs_len {a : List (Addr × Obj)} : ∀ {vs : List Value} {rows : List (Str × Str)}, PairsIn a vs rows → vs.length = rows.length
  | _, _, .nil => rfl
  | _, _, .cons _ r => congrArg (· + 1) (pairs_len r)
theorem pairs_app {a : List (Addr × Obj)} : ∀ {vs us : List Value} {rows rs : List (Str × Str)}, PairsIn a vs rows → PairsIn a us rs → PairsIn a (vs ++ us) (rows ++ rs)
  | _, _, _, _, .nil, h => h
  | _, _, _, _, .cons h r, k => .cons h (pairs_app r k)
theorem pairs_at {a : List (Addr × Obj)} : ∀ {vs : List Value} {rows : List (Str × Str)}, PairsIn a vs rows → ∀ {i : Nat} {r : Str × Str}, rows[i]? = some r → ∃ v, vs[i]? = some v ∧ PairIn a v r
  | _, _, .nil, _, _, h => by simp at h
  | _, _, .cons (v := v) h _, 0, _, e => ⟨v, rfl, by have e' := Option.some.inj e; rw [← e']; exact h⟩
  | _, _, .cons _ h, i + 1, _, e => by simpa using pairs_at h (i := i) (by simpa using e)
theorem pairs_but {h₀ h : Heap} {L I : Addr} {o : Obj} {led all : List (Addr × Obj)} (N : News h₀ L h all) (hs : ∀ p ∈ led, p ∈ all) (hI : (I, o) ∈ all) (hc : o.cls ≠ .type "tuple") : ∀ {vs : List Value} {rows : List (Str × Str)}, PairsIn led vs rows → PairsIn (but I led) vs rows
  | _, _, .nil => .nil
  | _, _, .cons ⟨x, t, u, e, h⟩ r => .cons ⟨x, t, u, e, mem_but.mpr ⟨h, fun (q : x = I) => by
      have h1 := (N _ (hs _ h)).1
      have h2 := (N _ hI).1
      dsimp only at h1 h2
      rw [q, h2] at h1
      cases h1
      exact hc rfl⟩⟩ (pairs_but N hs hI hc r)

/-! the end of the law: generators may be left, but bare ones -/
theorem oldK_ghost {h₁ h' : Heap} {tabs : List (Addr × Addr)} (hT : TabsAt tabs h₁) (k : ∀ b o, (ghostOf h₁ tabs).get? b = some o → h'.get? b = some o) (g : GrownAll tabs h') : OldK h₁ h' := by
  have keep : ∀ b o, b ∉ tabs.map (·.2) → h₁.get? b = some o → h'.get? b = some o := fun b o hb e => k b o (ghost_ne e hb)
  have grown : ∀ b o, b ∈ tabs.map (·.2) → h₁.get? b = some o → isCodeTable h₁ b ∧ o = tabObj #[] ∧ ∃ ps, h'.get? b = some (tabObj ps) := fun b o hb e => by
    obtain ⟨q, hq, rfl⟩ := List.mem_map.mp hb
    have e2 := (hT q hq).2
    rw [e] at e2
    exact ⟨((hT q hq).1.tab (hT q hq).2).isCodeTable, Option.some.inj e2, g.get q hq⟩
  refine ⟨fun b o e => ?_, fun b o e => ?_⟩
  · by_cases hb : b ∈ tabs.map (·.2)
    · obtain ⟨ht, rfl, ps, hP⟩ := grown b o hb e
      exact .inr (.inl ⟨ht, rfl, #[], ps, rfl, by rw [Array.empty_append]; exact hP⟩)
    · exact .inl (keep b o hb e)
  · by_cases hb : b ∈ tabs.map (·.2)
    · obtain ⟨_, _, ps, hP⟩ := grown b o hb e
      exact ⟨_, hP⟩
    · exact ⟨o, keep b o hb e⟩
/-- the law gives True back, all older stands, generators are bare -/
def EndB (s₁ : Shared) (r : Result) (s' : Shared) : Prop :=
  (∃ b, r = .ok (.ret (.bool b)) ∧ b = true) ∧ (∀ b o, s₁.heap.get? b = some o → s'.heap.get? b = some o) ∧ s'.os = s₁.os ∧ AllBare s'.gens
theorem kn_postG {M : Model} {A : Around} {cd : Code} {s s₁ : Shared} {cw : ClaimW} {cl : Str → Option Addr} {mean : ExcName → Option Value} {args : List WData} {tabs : List (Addr × Addr)} (hT : TabsAt tabs s₁.heap) (hr : ∀ a x, cw.raises a x = false) (hp : cw.post args (.bool true) args = true)
    (h : codeAny M A cd (fun r s' => EndB { s₁ with heap := ghostOf s₁.heap tabs } r s' ∧ GrownAll tabs s'.heap) s) : codeAny M A cd (GoodWG cw cl mean args s₁) s :=
  codeAny_mono h fun r s' ⟨⟨⟨b, hb, hbt⟩, hk, hos, hg⟩, hgr⟩ => by
    subst hb hbt
    refine ⟨.inl ⟨.bool true, .bool true, [], rfl, fun cls => hr _ _, .bool _, hp, fun _ => ⟨List.nodup_nil, fun a ha => nomatch ha⟩⟩, oldK_ghost hT hk hgr, hos, hg⟩

/-! a generator over the pairs of a list -/
structure GenStrs (prog : Program) (w : World) (A : Around) (a C it : Addr) (g : Nat) (xs : List Str) (s : Shared) : Prop where
  walks : ∃ n St P, n = xs.length ∧ (∀ j y, P j y → ∃ x t, xs[j]? = some x ∧ y = .str x t) ∧ WalksS prog w A a (a :: C :: List.range C) (C :: [it]) (GenOnlyQ g) n P St ∧ St 0 s ∧ (∀ i s', St i s' → s'.TypeIs (.ref a) "generator")
  lt : C < a
  top : a < s.heap.objs.size
theorem passing_all (n : Nat) : passing (fun _ => true) n 0 = List.range n := by unfold passing; simp
section
variable {prog : Program} {w : World} {A : Around} {E : Value → Shared → Prop} {s : Shared} {h₀ : Heap} {L c P it l : Addr} {m mg mb : Str → Option Value} {led : List (Addr × Obj)} {vs : List Value} {n : Nat} {env : Env}
  {p : Program} {loose : List Str} {mean : ExcName → Option Value} {pos : Pos} {qual : Str} {scope : Scope} {xa xb xe : Str} {pa pb pt pe : Pos} {kt : Nat} {iter : PySem.Expr} {rows : List (Str × Str)} {Q : Value → Shared → Prop}
theorem gen_pairs (A₁ : Around) (hA₁ : A₁.handled = none) (hd₁ : A₁.depth < recursionLimit) (sel : Str × Str → Str) (hsel : (xe = xa ∧ sel = Prod.fst) ∨ (xe = xb ∧ sel = Prod.snd)) (_hA : A.handled = none)
    (F : Fr h₀ L s.heap m) (N : News h₀ L s.heap led) (T : Top p loose mean mg mb h₀) (CH : CodeHd h₀ c P) (hcode : env.code = .ref c) (hgl : env.globals = mainGlobals) (hP : (P, tabObj #[]) ∈ led) (hit : (it, itObj l) ∈ led) (hl : (l, listOf vs.toArray n) ∈ led) (hp : PairsIn led vs rows)
    (hxa : scope.names.lookup xa = some .local) (hxb : scope.names.lookup xb = some .local) (hab : xa ≠ xb) (hde : (xe == ("__debug__" : Str)) = false) (hkind : scope.kind = .function) (hco : scope.isCoroutine = false)
    (hQ : ∀ a C g h' tk gs ps', gs.bare = true → Fr h₀ L h' m → News h₀ L h' ((P, tabObj ps') :: but P led) → L < C → (∀ q ∈ led, q.1 < C) → GenStrs prog w A₁ a C it g (rows.map sel) { s with gens := s.gens.push gs, heap := h', toks := tk } → Q (.ref a) { s with gens := s.gens.push gs, heap := h', toks := tk }) :
    wpAny (model prog w) A (pyIter (.ref it)) (fun it' s₂ => s₂.heap.NoLimit ∧ wpAny (model prog w) A (genexprCode env pos qual scope) (fun code s₃ => wpAny (model prog w) A (builtinsFor env.globals env.builtins) (fun bi s₄ =>
      ∀ h', h'.Ns s₄.heap.objs.size (fun y => if y = ".0" then some it' else none) → Heap.SameBut s₄.heap.objs.size (s₄.heap.push { cls := .type "frame", data := .dict #[] }) h' →
        Q (.ref h'.objs.size) { s₄ with
            gens := s₄.gens.push (.fresh (.compStart (.GeneratorExp (.Name xe pe) [⟨.Tuple [.Name xa pa, .Name xb pb] kt pt, iter, [], 0⟩] scope pos) 0 it' .none (genEnv scope [] s₄.heap.objs.size code bi env))),
            toks := s₄.toks + 1 + 1 + 1,
            heap := h'.push { cls := .type "generator", data := .fields #[.int s₄.gens.size 0, .str "<genexpr>" (s₄.toks + 1), .str (env.qual ++ "<genexpr>") (s₄.toks + 1 + 1)] } }) E s₃) E s₂) E s := by
  have hItS : s.heap.IsListIter it l 0 := ⟨_, (N _ hit).1, rfl, rfl⟩
  have hPs := (N _ hP).1
  have hPn := (N _ hP).2.2
  dsimp only at hPs hPn
  refine wpAny_pyIter_listiter hItS ⟨T.nolimit.keeps F.keep, ?_⟩
  have CHs := CH.keeps F.keep
  refine wpAny_genexprCodeX hcode (CHs.code hPs trivial) (CHs.tab hPs) rfl fun c' h₃ tk₃ hx₃ hge hlt hcode₃ _ htab₃ _ => ?_
  have keep₃ : ∀ b o, h₀.get? b = some o → h₃.get? b = some o := fun b o e => hx₃ b o (fun q => by rw [q, hPn] at e; cases e) (F.keep b o e)
  have hsz : s.heap.objs.size ≤ h₃.objs.size := Nat.le_trans hge (Nat.le_of_lt hlt)
  have F₃ : Fr h₀ L h₃ m := ⟨F.ns.at' fun o e => hx₃ L o (fun q => (N _ hP).2.1 q.symm) e, keep₃, F.above⟩
  have N₃ : News h₀ L h₃ ((P, tabObj (#[] ++ #[rawInt pos.line, rawInt pos.col, .ref c'])) :: but P led) := fun q hq => by
    rcases List.mem_cons.mp hq with rfl | hq
    · exact ⟨htab₃.2, (N _ hP).2⟩
    · obtain ⟨h1, h2⟩ := mem_but.mp hq
      exact ⟨hx₃ _ _ h2 (N _ h1).1, (N _ h1).2⟩
  obtain ⟨bm, ob, M⟩ := bmod_of_top (T.keeps keep₃)
  refine wpAny_builtinsFor (hgl ▸ M.ns) M.name M.ne M.obj M.cls M.dict M.data ?_
  intro h' hn' hs'
  dsimp only at *
  have hsz' : h'.objs.size = h₃.objs.size + 1 := by rw [hs'.1, Heap.size_push]
  have keep' : ∀ b o, h₃.get? b = some o → h'.get? b = some o := fun b o e => hs'.extBut b o (Nat.ne_of_lt (Heap.lt_size e)) (Heap.get?_push_of_some _ e)
  generalize hgo : ({ cls := .type "generator", data := .fields #[.int s.gens.size 0, .str "<genexpr>" (tk₃ + 1), .str (env.qual ++ "<genexpr>") (tk₃ + 1 + 1)] } : Obj) = go
  have keep₅ : ∀ b o, h₃.get? b = some o → (h'.push go).get? b = some o := fun b o e => Heap.get?_push_of_some _ (keep' b o e)
  have F₅ : Fr h₀ L (h'.push go) m := F₃.keeps keep₅
  have N₅ := News.grown N₃ keep₅
  have ltC : ∀ q ∈ led, q.1 < h₃.objs.size := fun q hq => Nat.lt_of_lt_of_le (Heap.lt_size (N q hq).1) hsz
  have hPit : it ≠ P := fun q => by
    have h1 := (N _ hit).1
    dsimp only at h1
    rw [q, hPs] at h1; cases h1
  have hPl : l ≠ P := fun q => by
    have h1 := (N _ hl).1
    dsimp only at h1
    rw [q, hPs] at h1; cases h1
  have hitl : l ≠ it := fun q => by
    have h1 := (N _ hl).1
    have h2 := (N _ hit).1
    dsimp only at h1 h2
    rw [q, h2] at h1
    have := congrArg Obj.cls (Option.some.inj h1)
    injection this with this; exact absurd this (by decide)
  have hpair : ∀ {x : Addr} {o : Obj}, (x, o) ∈ led → o.cls = .type "tuple" → x ≠ P ∧ x ≠ it := fun {x o} hx hc => by
    have h1 := (N _ hx).1
    have h2 := (N _ hit).1
    dsimp only at h1 h2
    refine ⟨fun q => ?_, fun q => ?_⟩
    · rw [q, hPs] at h1; cases h1; cases hc
    · rw [q, h2] at h1; cases h1; injection hc with hc; exact absurd hc (by decide)
  have hlen := pairs_len hp
  have hcs : cStatics < h₃.objs.size := let ⟨_, hns, _⟩ := T.nolimit.keeps keep₃; hns.lt
  have hcit : cStatics ≠ it := fun q => by
    obtain ⟨_, ⟨o, _, _, ho, _⟩, _⟩ := T.nolimit
    rw [q, (N _ hit).2.2] at ho; cases ho
  have hnl : (h'.push go).NoLimit := T.nolimit.keeps F₅.keep
  have tup : ∀ (k : Nat) (r : Str × Str), rows[k]? = some r → ∃ (x : Addr) (t u : Tok), vs[k]? = some (.ref x) ∧ x ≠ P ∧ x ≠ it ∧ x < h₃.objs.size ∧ (h'.push go).get? x = some (pairObj r.1 t r.2 u) := fun k r hr => by
    obtain ⟨v, hv, x, t, u, rfl, hx⟩ := pairs_at hp hr
    obtain ⟨h1, h2⟩ := hpair hx rfl
    exact ⟨x, t, u, hv, h1, h2, ltC _ hx, keep₅ _ _ (hx₃ _ _ h1 (N _ hx).1)⟩
  let Ts : Nat → Addr := fun k => match vs[k]? with | some (.ref x) => x | _ => 0
  let vals : Nat → Array Value := fun k => match (h'.push go).get? (Ts k) with | some ⟨_, _, .seq ws _, _⟩ => ws | _ => #[]
  have hat : ∀ k, k < vs.toArray.size → ∃ (r : Str × Str) (x : Addr) (t u : Tok), rows[k]? = some r ∧ vs[k]? = some (.ref x) ∧ Ts k = x ∧ x ≠ it ∧ x < h₃.objs.size ∧ (h'.push go).get? x = some (pairObj r.1 t r.2 u) ∧ vals k = #[.str r.1 t, .str r.2 u] := fun k hk => by
    have hk' : k < rows.length := by rw [← hlen]; simpa using hk
    obtain ⟨x, t, u, h1, h2, h3, h4, h5⟩ := tup k rows[k] (by simp [hk'])
    have e : Ts k = x := by show (match vs[k]? with | some (.ref x) => x | _ => 0) = x; rw [h1]
    refine ⟨_, x, t, u, by simp [hk'], h1, e, h3, h4, h5, ?_⟩
    show (match (h'.push go).get? (Ts k) with | some ⟨_, _, .seq ws _, _⟩ => ws | _ => #[]) = _
    rw [e, h5]; rfl
  have hIL : (h'.push go).IsListIter it l 0 := ⟨_, keep₅ _ _ (hx₃ _ _ hPit (N _ hit).1), rfl, rfl⟩
  have hLL : (h'.push go).IsList l vs.toArray := PySem.IsL.isList (n := n) (keep₅ _ _ (hx₃ _ _ hPl (N _ hl).1))
  have W₀ : ∀ A' : Around, A'.handled = none → WalksU prog w A' it (List.range h₃.objs.size) [it] vs.toArray.size (fun i v => i < vs.toArray.size ∧ v = vals i)
      (fun j h => h.IsListIter it l j ∧ h.IsList l vs.toArray ∧ ∀ k, k < vs.toArray.size → h.IsTuple (Ts k) (vals k))
      (fun j T h => (j < vs.toArray.size ∧ T = Ts j) ∧ h.IsListIter it l (j + 1) ∧ h.IsList l vs.toArray ∧ ∀ k, k < vs.toArray.size → h.IsTuple (Ts k) (vals k)) := fun A' hA' => by
    refine ((WalksU.listOfTuples hA' it l hitl vs.toArray Ts vals (fun j hj => ?_) (fun j hj => ?_)).bound).mono_fp fun b hb => ?_
    · obtain ⟨r, x, t, u, _, h1, h2, _⟩ := hat j hj
      rw [h2]; simpa using h1
    · obtain ⟨r, x, t, u, _, h1, h2, h3, _⟩ := hat j hj
      rw [h2]; exact h3
    · rw [List.mem_range]
      rcases List.mem_cons.mp hb with rfl | hb
      · exact ltC _ hit
      rcases List.mem_cons.mp hb with rfl | hb
      · exact ltC _ hl
      · obtain ⟨k, hk, rfl⟩ := List.mem_map.mp hb
        obtain ⟨r, x, t, u, _, h1, h2, _, h4, _⟩ := hat k (List.mem_range.mp hk)
        rw [h2]; exact h4
  have hitC : it < h₃.objs.size := ltC _ hit
  have Wk := WalksS.genexpQ (prog := prog) (w := w) (A := A₁) hA₁ h'.objs.size s.gens.size h₃.objs.size (List.range h₃.objs.size) [it] (fun _ => true) vs.toArray.size (fun i y => ∃ x t, (rows.map sel)[i]? = some x ∧ y = .str x t)
    (by rw [hsz']; exact Nat.succ_ne_self _) (fun hm => by have := List.mem_range.mp hm; omega) (fun b hb => by rw [List.mem_singleton.mp hb]; exact List.mem_range.mpr hitC) hd₁ (List.mem_range.mpr hcs) (Nat.ne_of_lt hcs) (fun hm => hcit (List.mem_singleton.mp hm))
  rw [passing_all, List.length_range] at Wk
  refine hQ h'.objs.size h₃.objs.size s.gens.size _ _ _ _ rfl F₅ N₅ (Nat.lt_of_lt_of_le F.ns.lt hsz) ltC ⟨⟨_, _, _, ?_, ?_, Wk, ?_, fun i s' st => st.1.typeIs⟩, by rw [hsz']; exact Nat.lt_succ_self _, by rw [Heap.size_push]; exact Nat.lt_succ_self _⟩
  · rw [List.size_toArray, List.length_map, hlen]
  · rintro j y ⟨i, hi, hF⟩
    have e : i = j := by
      by_cases hj : j < vs.toArray.size
      · rw [List.getElem?_range hj] at hi; exact (Option.some.inj hi).symm
      · rw [List.getElem?_eq_none (by rw [List.length_range]; omega)] at hi; cases hi
    rw [← e]; exact hF
  · refine GenAt.freshT (A := A₁) (cenv := genEnv scope [] h₃.objs.size (.ref c') builtinsNs env) (m := fun y => if y = ".0" then some (.ref it) else none) hA₁ W₀ ?_ hab (fun _ => true) _ hxa hxb (by simp [genEnv, hkind]) hco
      (fun hm => Nat.lt_irrefl _ (List.mem_range.mp hm)) ?_ ⟨_, _, _, Heap.get?_push_size _ (by rw [← hgo]; rfl), by rw [← hgo], by rw [← hgo], by rw [← hgo]⟩ (Array.getElem?_push_size ..) ⟨hIL, hLL, fun k hk => ?_⟩ (hn'.push _) hnl
    · rintro i vals' ⟨hi, rfl⟩
      obtain ⟨r, x, t, u, _, _, _, _, _, _, h6⟩ := hat i hi
      exact ⟨_, _, h6⟩
    · constructor
      · intro A' E' i va vb s₂ m₂ hA' hv hns h1 h2 h3
        exact wpAny_pure ⟨rfl, s₂.heap, s₂.toks, rfl, fun _ _ e => e⟩
      · rintro A' E' i va vb s₂ m₂ hA' ⟨hi, hv⟩ - hns h1 h2 h3
        obtain ⟨r, x, t, u, hr, _, _, _, _, _, h6⟩ := hat i hi
        rw [h6] at hv
        have e1 : va = .str r.1 t := by have := congrArg (·[0]?) hv; simpa using this
        have e2 : vb = .str r.2 u := by have := congrArg (·[1]?) hv; simpa using this
        rcases hsel with ⟨rfl, rfl⟩ | ⟨rfl, rfl⟩
        · refine wpAny_Name (wpAny_loadName_local hkind hxa hns h1 ⟨⟨r.1, t, by rw [List.getElem?_map, hr]; rfl, e1⟩, s₂.heap, s₂.toks, rfl, fun _ _ e => e⟩) hde
        · refine wpAny_Name (wpAny_loadName_local hkind hxb hns h2 ⟨⟨r.2, u, by rw [List.getElem?_map, hr]; rfl, e2⟩, s₂.heap, s₂.toks, rfl, fun _ _ e => e⟩) hde
    · obtain ⟨r, x, t, u, _, _, h2, _, _, h5, h6⟩ := hat k hk
      rw [h2, h6]
      exact ⟨_, h5, rfl, _, rfl⟩
end
def GenPairsPost (prog : Program) (w : World) (A₁ : Around) (h₀ : Heap) (L P : Addr) (m : Str → Option Value) (sel : Str × Str → Str) (Q : Value → Shared → Prop) (xv : Value) (s : Shared) : Prop :=
  ∃ (it l : Addr) (vs : List Value) (n : Nat) (led : List (Addr × Obj)) (rows : List (Str × Str)), xv = .ref it ∧ Fr h₀ L s.heap m ∧ News h₀ L s.heap led ∧ (P, tabObj #[]) ∈ led ∧ (it, itObj l) ∈ led ∧ (l, listOf vs.toArray n) ∈ led ∧ PairsIn led vs rows ∧
    ∀ a C g h' tk gs ps', gs.bare = true → Fr h₀ L h' m → News h₀ L h' ((P, tabObj ps') :: but P led) → L < C → (∀ q ∈ led, q.1 < C) → GenStrs prog w A₁ a C it g (rows.map sel) { s with gens := s.gens.push gs, heap := h', toks := tk } → Q (.ref a) { s with gens := s.gens.push gs, heap := h', toks := tk }
theorem genexp_pairs {prog : Program} {w : World} {A : Around} {E : Value → Shared → Prop} {s : Shared} {h₀ : Heap} {L c P : Addr} {m mg mb : Str → Option Value} {env : Env}
  {p : Program} {loose : List Str} {mean : ExcName → Option Value} {pos : Pos} {scope : Scope} {xa xb xe : Str} {pa pb pt pe : Pos} {kt : Nat} {iter : PySem.Expr} {Q : Value → Shared → Prop}
    (A₁ : Around) (hA₁ : A₁.handled = none) (hd₁ : A₁.depth < recursionLimit) (sel : Str × Str → Str) (hsel : (xe = xa ∧ sel = Prod.fst) ∨ (xe = xb ∧ sel = Prod.snd)) (hA : A.handled = none) (hroom : A.depth < recursionLimit)
    (_F : Fr h₀ L s.heap m) (T : Top p loose mean mg mb h₀) (CH : CodeHd h₀ c P) (hcode : env.code = .ref c) (hgl : env.globals = mainGlobals)
    (hxa : scope.names.lookup xa = some .local) (hxb : scope.names.lookup xb = some .local) (hab : xa ≠ xb) (hde : (xe == ("__debug__" : Str)) = false) (hkind : scope.kind = .function) (hco : scope.isCoroutine = false)
    (hclos : closureFor scope env = pure []) (hcell : ∀ y ∈ scope.names, y.2 ≠ .cell) (h0 : scope.names.lookup (".0" : Str) = some NameKind.local) (hs : ∀ x, genFold iter env x = pure x)
    (h : wpAny (model prog w) A (eval iter env) (GenPairsPost prog w A₁ h₀ L P m sel Q) E s) :
    wpAny (model prog w) A (eval (.GeneratorExp (.Name xe pe) [⟨.Tuple [.Name xa pa, .Name xb pb] kt pt, iter, [], 0⟩] scope pos) env) Q E s := by
  refine wpAny_GeneratorExp_make (cl := []) hco hclos hcell h0 hkind hroom (wpAny_mono h (fun xv s₁ hx => ?_) fun _ _ e => e) hs
  obtain ⟨it, l, vs, n, led, rows, rfl, F, N, hP, hit, hl, hp, hQ⟩ := hx
  exact gen_pairs A₁ hA₁ hd₁ sel hsel hA F N T CH hcode hgl hP hit hl hp hxa hxb hab hde hkind hco hQ
section
variable {prog : Program} {w : World} {A : Around} {E : Value → Shared → Prop} {s : Shared} {h₀ : Heap} {L a C it : Addr} {g : Nat} {m : Str → Option Value} {led : List (Addr × Obj)} {xs : List Str} {Q : Value → Shared → Prop}
/-- list(gen) -/
theorem list_gen (G : GenStrs prog w A.in1.in1 a C it g xs s) (F : Fr h₀ L s.heap m) (N : News h₀ L s.heap led) (hit : it ≠ L ∧ h₀.get? it = none) (hC : L < C ∧ ∀ q ∈ led, q.1 ≠ it → q.1 < C) (hz : xs.length ≤ 100000) (hb : AllBare s.gens)
    (hQ : ∀ l vs n h' tk gs, Fr h₀ L h' m → News h₀ L h' ((l, listOf vs.toArray n) :: but it led) → (∀ q ∈ led, q.1 < l) → StrsAre vs xs → AllBare gs → Q (.ref l) { s with gens := gs, heap := h', toks := tk }) :
    wpAny (model prog w) A (call (.type "list") [.ref a]) Q E s := by
  obtain ⟨⟨n, St, P, hn, hP, W, hst, hT⟩, hlt, htop⟩ := G
  refine call_list_gen W hT hst (fun b hb => ?_) (.head _) (fun s' acc' c' hm hS hI => ?_) (by rw [sizeLine_eq]; omega)
  · rcases List.mem_cons.mp hb with rfl | hb
    · exact htop
    rcases List.mem_cons.mp hb with rfl | hb
    · exact Nat.lt_trans hlt htop
    · exact Nat.lt_trans (Nat.lt_trans (List.mem_range.mp hb) hlt) htop
  obtain ⟨mh, mg, md, mo, mt⟩ := hm
  have hLs : L < s.heap.objs.size := F.ns.lt
  have hCs : C < s.heap.objs.size := Nat.lt_trans hlt htop
  have key : ∀ b o, b ≠ C → b ≠ it → s.heap.get? b = some o → s'.heap.get? b = some o := fun b o h1 h2 e => by
    refine mh b o (fun hb => ?_) (Heap.get?_push_of_some _ e)
    rcases List.mem_cons.mp hb with rfl | hb
    · exact absurd (Heap.lt_size e) (Nat.lt_irrefl _)
    rcases List.mem_cons.mp hb with rfl | hb
    · exact h1 rfl
    · exact h2 (List.mem_singleton.mp hb)
  have hbC : ∀ b o, h₀.get? b = some o → b ≠ C := fun b o e => Nat.ne_of_lt (Nat.lt_trans (Nat.lt_of_lt_of_le (Heap.lt_size e) F.above) hC.1)
  have F' : Fr h₀ L s'.heap m := ⟨F.ns.at' fun o e => key L o (Nat.ne_of_lt hC.1) hit.1.symm e, fun b o e => key b o (hbC b o e) (fun q => by rw [q, hit.2] at e; cases e) (F.keep b o e), F.above⟩
  have hacc : StrsAre acc'.toList xs := by
    obtain ⟨h1, h2⟩ := hI
    have : ∀ (us : List Value) (ys : List Str), us.length = ys.length → (∀ (j : Nat) (v : Value), us[j]? = some v → ∃ x t, ys[j]? = some x ∧ v = Value.str x t) → StrsAre us ys := by
      intro us
      induction us with
      | nil =>
        intro ys hl _
        cases ys with
        | nil => exact .nil
        | cons _ _ => cases hl
      | cons u us ih =>
        intro ys hl hh
        cases ys with
        | nil => cases hl
        | cons y ys =>
          obtain ⟨x, t, hx, rfl⟩ := hh 0 u rfl
          cases hx
          exact .cons _ t (ih ys (by simpa using hl) fun j v hv => by simpa using hh (j + 1) v (by simpa using hv))
    refine this _ _ (by rw [Array.length_toList, h1, hn]) fun j v hv => hP j v (h2 j v (by simpa using hv))
  have e : s' = { s with gens := s'.gens, heap := s'.heap, toks := s'.toks } := by
    cases s'; dsimp only at md mo ⊢; rw [md, mo]
  rw [e]
  refine hQ _ acc'.toList c' _ _ _ F' (fun q hq => ?_) (fun q hq => Heap.lt_size (N q hq).1) hacc (GenOnlyQ.bare mg hb)
  rcases List.mem_cons.mp hq with rfl | hq
  · refine ⟨hS, Nat.ne_of_gt hLs, ?_⟩
    cases z : h₀.get? s.heap.objs.size with
    | none => rfl
    | some o => exact absurd (Nat.lt_of_lt_of_le (Heap.lt_size z) (Nat.le_trans F.above (Nat.le_of_lt hLs))) (Nat.lt_irrefl _)
  · obtain ⟨h1, h2⟩ := mem_but.mp hq
    exact ⟨key _ _ (Nat.ne_of_lt (hC.2 q h1 h2)) h2 (N q h1).1, (N q h1).2⟩
end
end Mine
end
section
open Lean Elab Tactic Meta PySem PySem.W PySem.Calls PyProof.Rows PyProof.V PySem.Builtin PySem.Spec PySem.SeqAt
namespace Mine
set_option maxRecDepth 100000

/-! data as a ledger bears it -/
def Rd (led : List (Addr × Obj)) (v : Value) (d : PyData) : Prop := ∀ h : Heap, (∀ p ∈ led, h.get? p.1 = some p.2) → ∃ as, Reads h v d as
def RdAll (led : List (Addr × Obj)) (vs : List Value) (ds : List PyData) : Prop := ∀ h : Heap, (∀ p ∈ led, h.get? p.1 = some p.2) → ∃ as, ReadsAll h vs ds as
section
variable {led led' : List (Addr × Obj)} {v : Value} {d : PyData} {vs : List Value} {ds : List PyData} {a : Addr} {n : Nat}
theorem Rd.mono (r : Rd led v d) (k : ∀ p ∈ led, p ∈ led') : Rd led' v d := fun h hh => r h fun p hp => hh p (k p hp)
theorem RdAll.mono (r : RdAll led vs ds) (k : ∀ p ∈ led, p ∈ led') : RdAll led' vs ds := fun h hh => r h fun p hp => hh p (k p hp)
theorem rd_str (x : Str) (t : Tok) : Rd led (.str x t) (.str x) := fun _ _ => ⟨_, .str x t⟩
theorem rd_int (x : Int) (t : Tok) : Rd led (.int x t) (.int x) := fun _ _ => ⟨_, .int x t⟩
theorem rdAll_nil : RdAll led [] [] := fun _ _ => ⟨_, .nil⟩
theorem rdAll_cons (r : Rd led v d) (q : RdAll led vs ds) : RdAll led (v :: vs) (d :: ds) := fun h hh => by
  obtain ⟨as, r⟩ := r h hh
  obtain ⟨bs, q⟩ := q h hh
  exact ⟨_, .cons r q⟩
theorem rd_list (hm : (a, listOf vs.toArray n) ∈ led) (q : RdAll led vs ds) : Rd led (.ref a) (.list ds) := fun h hh => by
  obtain ⟨as, q⟩ := q h hh
  exact ⟨_, .list (hh _ hm) rfl rfl q⟩
theorem rd_tup (hm : (a, tupO vs) ∈ led) (q : RdAll led vs ds) : Rd led (.ref a) (.tuple ds) := fun h hh => by
  obtain ⟨as, q⟩ := q h hh
  exact ⟨_, .tuple (hh _ hm) rfl rfl q⟩
theorem rdAll_strs : ∀ {vs : List Value} {ws : List Str}, StrsAre vs ws → RdAll led vs (ws.map PyData.str)
  | _, _, .nil => rdAll_nil
  | _, _, .cons y t r => rdAll_cons (rd_str y t) (rdAll_strs r)
theorem rdAll_pairs : ∀ {vs : List Value} {rows : List (Str × Str)}, PairsIn led vs rows → RdAll led vs (rows.map fun r => .tuple [.str r.1, .str r.2])
  | _, _, .nil => rdAll_nil
  | _, _, .cons ⟨_, t, u, e, h⟩ r => rdAll_cons (e ▸ rd_tup h (rdAll_cons (rd_str _ t) (rdAll_cons (rd_str _ u) rdAll_nil))) (rdAll_pairs r)
end
/-! texts, ints, lists and tuples of such: nothing that mixes kinds -/
mutual
def plainD : PyData → Bool
  | .int _ => true
  | .str x => PyData.strOk x
  | .list xs => plainAll xs
  | .tuple xs => plainAll xs
  | .none => false
  | .bool _ => false
  | .dict _ => false
def plainAll : List PyData → Bool
  | [] => true
  | x :: xs => plainD x && plainAll xs
end
mutual
theorem plain_canLay : ∀ d, plainD d = true → PyData.canLay0 d = true
  | .int _, _ => by rw [PyData.canLay0]
  | .str x, h => by rw [PyData.canLay0]; rw [plainD] at h; exact h
  | .list xs, h => by rw [PyData.canLay0]; rw [plainD] at h; exact plain_canLayAll xs h
  | .tuple xs, h => by rw [PyData.canLay0]; rw [plainD] at h; exact plain_canLayAll xs h
  | .none, h => by rw [plainD] at h; cases h
  | .bool _, h => by rw [plainD] at h; cases h
  | .dict _, h => by rw [plainD] at h; cases h
theorem plain_canLayAll : ∀ ds, plainAll ds = true → PyData.canLayAll0 ds = true
  | [], _ => by rw [PyData.canLayAll0]
  | x :: xs, h => by
    rw [plainAll, Bool.and_eq_true] at h
    rw [PyData.canLayAll0, Bool.and_eq_true]
    exact ⟨plain_canLay x h.1, plain_canLayAll xs h.2⟩
end
mutual
theorem plain_noMix : ∀ d d', plainD d = true → plainD d' = true → noMix d d' = true
  | .int _, d', _, h' => by cases d' <;> first | (simp only [plainD] at h'; cases h'; done) | simp only [noMix]
  | .str _, d', _, h' => by cases d' <;> first | (simp only [plainD] at h'; cases h'; done) | simp only [noMix]
  | .list xs, d', h, h' => by
    cases d' with
    | list ys => rw [noMix]; rw [plainD] at h h'; exact plain_noMixAll xs ys h h'
    | _ => first | (simp only [plainD] at h'; cases h'; done) | simp only [noMix]
  | .tuple xs, d', h, h' => by
    cases d' with
    | tuple ys => rw [noMix]; rw [plainD] at h h'; exact plain_noMixAll xs ys h h'
    | _ => first | (simp only [plainD] at h'; cases h'; done) | simp only [noMix]
  | .none, _, h, _ => by rw [plainD] at h; cases h
  | .bool _, _, h, _ => by rw [plainD] at h; cases h
  | .dict _, _, h, _ => by rw [plainD] at h; cases h
theorem plain_noMixAll : ∀ xs ys, plainAll xs = true → plainAll ys = true → noMixAll xs ys = true
  | [], [], _, _ => by simp only [noMixAll]
  | [], _ :: _, _, _ => by simp only [noMixAll]
  | _ :: _, [], _, _ => by simp only [noMixAll]
  | x :: xs, y :: ys, h, h' => by
    rw [plainAll, Bool.and_eq_true] at h h'
    rw [noMixAll, Bool.and_eq_true]
    exact ⟨plain_noMix x y h.1 h'.1, plain_noMixAll xs ys h.2 h'.2⟩
end
mutual
theorem plain_same : ∀ d d', plainD d = true → plainD d' = true → (Spec.same d d' = true ↔ d = d')
  | .int a, d', _, h' => by cases d' <;> first | (simp only [plainD] at h'; cases h'; done) | simp [Spec.same]
  | .str a, d', _, h' => by cases d' <;> first | (simp only [plainD] at h'; cases h'; done) | simp [Spec.same]
  | .list xs, d', h, h' => by
    cases d' with
    | list ys =>
      rw [plainD] at h h'
      rw [Spec.same, plain_sameAll xs ys h h']; simp
    | _ => first | (simp only [plainD] at h'; cases h'; done) | simp [Spec.same]
  | .tuple xs, d', h, h' => by
    cases d' with
    | tuple ys =>
      rw [plainD] at h h'
      rw [Spec.same, plain_sameAll xs ys h h']; simp
    | _ => first | (simp only [plainD] at h'; cases h'; done) | simp [Spec.same]
  | .none, _, h, _ => by rw [plainD] at h; cases h
  | .bool _, _, h, _ => by rw [plainD] at h; cases h
  | .dict _, _, h, _ => by rw [plainD] at h; cases h
theorem plain_sameAll : ∀ xs ys, plainAll xs = true → plainAll ys = true → (Spec.sameAll xs ys = true ↔ xs = ys)
  | [], [], _, _ => by simp [Spec.sameAll]
  | [], _ :: _, _, _ => by simp [Spec.sameAll]
  | _ :: _, [], _, _ => by simp [Spec.sameAll]
  | x :: xs, y :: ys, h, h' => by
    rw [plainAll, Bool.and_eq_true] at h h'
    rw [Spec.sameAll, Bool.and_eq_true, plain_same x y h.1 h'.1, plain_sameAll xs ys h.2 h'.2]; simp
end
theorem plainAll_of {ds : List PyData} (h : ∀ d ∈ ds, plainD d = true) : plainAll ds = true := by
  induction ds with
  | nil => rw [plainAll]
  | cons x xs ih => rw [plainAll, h x (.head _), ih fun d hd => h d (.tail _ hd)]; rfl
theorem mem_plainAll {ds : List PyData} (h : plainAll ds = true) : ∀ d ∈ ds, plainD d = true := by
  induction ds with
  | nil => intro d hd; cases hd
  | cons x xs ih =>
    rw [plainAll, Bool.and_eq_true] at h
    intro d hd
    rcases List.mem_cons.mp hd with rfl | hd
    · exact h.1
    · exact ih h.2 d hd
theorem plainAll_strs {ws : List Str} (h : StrsOk ws) : plainAll (ws.map PyData.str) = true :=
  plainAll_of fun d hd => by obtain ⟨x, hx, rfl⟩ := List.mem_map.mp hd; rw [plainD]; exact h x hx
theorem depthAll_le {ds : List PyData} {k : Nat} (h : ∀ d ∈ ds, PyData.depth d ≤ k) : PyData.depthAll ds ≤ k := by
  induction ds with
  | nil => rw [PyData.depthAll]; exact Nat.zero_le _
  | cons x xs ih => rw [PyData.depthAll]; exact Nat.max_le.mpr ⟨h x (.head _), ih fun d hd => h d (.tail _ hd)⟩
theorem plain_shaped {d : PyData} (h : plainD d = true) (hd : PyData.depth d ≤ 64) : shaped d = true := by
  unfold shaped; rw [plain_canLay d h, Bool.true_and]; exact decide_eq_true hd
theorem plain_eqv {d d' : PyData} (h : plainD d = true) (h' : plainD d' = true) : PyData.eqv d d' = true ↔ d = d' := by
  rw [← same_eq_eqv d d' (plain_noMix d d' h h')]; exact plain_same d d' h h'
section
variable {prog : Program} {w : World} {A : Around} {E : Value → Shared → Prop} {s : Shared} {h₀ : Heap} {L a b : Addr} {m : Str → Option Value} {led : List (Addr × Obj)} {x y : Value} {d d' : PyData} {ds : List PyData} {vs : List Value} {n : Nat} {Q : Value → Shared → Prop} {c : Bool}
theorem eq_rd (N : News h₀ L s.heap led) (r : Rd led x d) (r' : Rd led y d') (hp : plainD d = true) (hp' : plainD d' = true) (hd : PyData.depth d ≤ 60) (hd' : PyData.depth d' ≤ 60) (hu : A.units + 64 < cLine) (hc : c = true ↔ d = d') (h : Q (.bool c) s) :
    wpAny (model prog w) A (compareOp .Eq x y) Q E s := by
  obtain ⟨as, r⟩ := r s.heap fun p hp => (N p hp).1
  obtain ⟨bs, r'⟩ := r' s.heap fun p hp => (N p hp).1
  refine eq_dataH_same r r' (plain_shaped hp (by omega)) (plain_shaped hp' (by omega)) hu (plain_noMix d d' hp hp') ?_
  have e : Spec.same d d' = c := by rw [Bool.eq_iff_iff, plain_same d d' hp hp', hc]
  rw [e]; exact h
theorem ne_rd (N : News h₀ L s.heap led) (r : Rd led x d) (r' : Rd led y d') (hp : plainD d = true) (hp' : plainD d' = true) (hd : PyData.depth d ≤ 60) (hd' : PyData.depth d' ≤ 60) (hu : A.units + 64 < cLine) (hc : c = true ↔ d = d') (h : Q (.bool (!c)) s) :
    wpAny (model prog w) A (compareOp .NotEq x y) Q E s := by
  obtain ⟨as, r⟩ := r s.heap fun p hp => (N p hp).1
  obtain ⟨bs, r'⟩ := r' s.heap fun p hp => (N p hp).1
  refine ne_dataH_same r r' (plain_shaped hp (by omega)) (plain_shaped hp' (by omega)) hu (plain_noMix d d' hp hp') ?_
  have e : Spec.same d d' = c := by rw [Bool.eq_iff_iff, plain_same d d' hp hp', hc]
  rw [e]; exact h
theorem any_eqv {ds : List PyData} {d : PyData} (hp : plainAll ds = true) (hp' : plainD d = true) (hc : c = true ↔ d ∈ ds) : (ds.any fun y => PyData.eqv y d) = c := by
  rw [Bool.eq_iff_iff, hc, List.any_eq_true]
  constructor
  · rintro ⟨y, hy, he⟩
    rw [plain_eqv (mem_plainAll hp y hy) hp'] at he
    exact he ▸ hy
  · intro hd
    exact ⟨d, hd, (plain_eqv hp' hp').mpr rfl⟩
theorem notin_rd (N : News h₀ L s.heap led) (r : Rd led x d) (r' : Rd led y (.list ds)) (hp : plainD d = true) (hp' : plainAll ds = true) (hd : PyData.depth d ≤ 60) (hu : A.units + 64 < cLine) (hc : c = true ↔ d ∈ ds) (h : Q (.bool (!c)) s) :
    wpAny (model prog w) A (compareOp .NotIn x y) Q E s := by
  obtain ⟨as, r⟩ := r s.heap fun p hp => (N p hp).1
  obtain ⟨bs, r'⟩ := r' s.heap fun p hp => (N p hp).1
  refine notIn_list_reads r' r (plain_canLayAll _ hp') (plain_canLay _ hp) ?_ ?_
  · have := Nat.min_le_right (PyData.depthAll ds) d.depth; omega
  · rw [any_eqv hp' hp hc]; exact h
theorem in_rd (N : News h₀ L s.heap led) (r : Rd led x d) (r' : Rd led y (.list ds)) (hp : plainD d = true) (hp' : plainAll ds = true) (hd : PyData.depth d ≤ 60) (hu : A.units + 64 < cLine) (hc : c = true ↔ d ∈ ds) (h : Q (.bool c) s) :
    wpAny (model prog w) A (compareOp .In x y) Q E s := by
  obtain ⟨as, r⟩ := r s.heap fun p hp => (N p hp).1
  obtain ⟨bs, r'⟩ := r' s.heap fun p hp => (N p hp).1
  refine in_list_reads r' r (plain_canLayAll _ hp') (plain_canLay _ hp) ?_ ?_
  · have := Nat.min_le_right (PyData.depthAll ds) d.depth; omega
  · rw [any_eqv hp' hp hc]; exact h
/-- xs.index(x), x being there -/
theorem index_rd {j : Nat} (N : News h₀ L s.heap led) (hm : (a, listOf vs.toArray n) ∈ led) (ra : RdAll led vs ds) (r : Rd led x d) (hp : plainD d = true) (hp' : plainAll ds = true) (hd : PyData.depth d ≤ 60) (hu : A.units + 64 < cLine) (hj : ds[j]? = some d) (hno : ∀ k < j, ds[k]? ≠ some d) (hz : j < 100000)
    (h : Q (.int j s.toks) { s with toks := s.toks + 1 }) : wpAny (model prog w) A (call (.builtin "list.index") [.ref a, x]) Q E s := by
  have hl : s.heap.IsList a vs.toArray := PySem.IsL.isList (n := n) (N _ hm).1
  obtain ⟨as, r⟩ := r s.heap fun p hp => (N p hp).1
  obtain ⟨bs, ra⟩ := ra s.heap fun p hp => (N p hp).1
  have hlen : vs.length = ds.length := by
    have := congrArg List.length (readsAll_map ds vs bs (plain_canLayAll _ hp') ra)
    simpa using this
  have hread : ∀ k (hk : k < vs.length), ∃ dk, ds[k]? = some dk ∧ readOf s.heap vs[k] = dk ∧ plainD dk = true := fun k hk => by
    have e := readsAll_map ds vs bs (plain_canLayAll _ hp') ra
    have hk' : k < ds.length := hlen ▸ hk
    refine ⟨ds[k], by simp [hk'], ?_, mem_plainAll hp' _ (List.getElem_mem hk')⟩
    have := congrArg (·[k]?) e
    simpa [hk, hk'] using this
  obtain ⟨⟨cls, dd, data, sl⟩, ho, hc, nn, hdd⟩ := id hl
  simp only at hc hdd
  subst hc hdd
  have hjl : j < vs.length := by rw [hlen]; exact (List.getElem?_eq_some_iff.mp hj).1
  refine call_meets PySem.F.slot_list_index hl.typeIs PySem.F.entry_list_index (PySem.F.args_list_index_2 _ _) (list_indexAt a vs.toArray nn dd sl x (fun y => PyData.eqv (readOf s.heap y) d) j (by simpa using hjl) (by omega) ?_ ?_) ⟨ho, ?_, ?_⟩
  · obtain ⟨dk, h1, h2, h3⟩ := hread j hjl
    rw [hj] at h1; cases h1
    have : vs.toArray[j]'(by simpa using hjl) = vs[j] := by simp
    rw [this, h2]; exact (plain_eqv hp hp).mpr rfl
  · intro k hk hkj
    have hk' : k < vs.length := by simpa using hk
    obtain ⟨dk, h1, h2, h3⟩ := hread k hk'
    have : vs.toArray[k] = vs[k] := by simp
    rw [this, h2, Bool.eq_false_iff]
    intro q
    rw [plain_eqv h3 hp] at q
    exact hno k hkj (q ▸ h1)
  · exact items_eqAt (vs := vs.toArray) (by simpa using ra) r (plain_canLayAll _ hp') (plain_canLay _ hp) (by have := Nat.min_le_right (PyData.depthAll ds) d.depth; show A.units + 1 + _ < cLine; omega)
  · exact h
end
end Mine
end
section
open Lean Elab Tactic Meta PySem PySem.W PySem.Calls PyProof.Rows PyProof.V PySem.Builtin
namespace Mine
set_option maxRecDepth 100000
/-! a loop of any target: the assignment is walked with the body -/
def LoopAtA (prog : Program) (w : World) (A : Around) (h₀ : Heap) (L : Addr) (env : Env) (target : PySem.Expr) (body : List Stmt) (Q : Flow → Shared → Prop) (E : Value → Shared → Prop) (it : Value) (s₂ : Shared) : Prop :=
  ∃ (I : Addr) (fp wr : List Addr) (n : Nat) (P : Nat → Value → Prop) (St : Nat → Heap → Prop) (m : Str → Option Value) (news : List (Addr × Obj)) (J : Nat → (Str → Option Value) → List (Addr × Obj) → Prop),
    it = .ref I ∧ Walks prog w A I fp wr n P St ∧ (∀ v, letOwnedTupleGo target it v = pure ()) ∧ L ∉ fp ∧ (∀ b ∈ wr, h₀.get? b = none) ∧ (∀ p ∈ news, p.1 ∉ wr) ∧ St 0 s₂.heap ∧ Fr h₀ L s₂.heap m ∧ News h₀ L s₂.heap news ∧ J 0 m news ∧
    (∀ i v m₁ news₁ s₁ own, (∃ h tk, s₁ = { s₂ with heap := h, toks := tk }) → i < n → P i v → J i m₁ news₁ → (∀ p ∈ news₁, p.1 ∉ wr) → (∀ p ∈ own, p.1 ∈ fp) → (∀ b ∈ fp, h₀.get? b = none → ∀ o, s₁.heap.get? b = some o → (b, o) ∈ own) → St (i + 1) s₁.heap →
      Fr h₀ L s₁.heap m₁ → News h₀ L s₁.heap (own ++ news₁) →
      wpAny (model prog w) A (assign target env v) (fun _ s' => wpAny (model prog w) A (execs body env) (LoopStepV h₀ L wr own (J (i + 1)) s₁ (fun v s' => Q (.ret v) s') fun s' => Q .next s') E s') E s₁) ∧
    ∀ h' tk m' news', Fr h₀ L h' m' → News h₀ L h' news' → (∀ p ∈ news', p.1 ∉ wr) → J n m' news' → Q .next { s₂ with heap := h', toks := tk }
section
variable {prog : Program} {w : World} {A : Around} {E : Value → Shared → Prop} {s : Shared} {env : Env} {h₀ : Heap} {L : Addr} {target iter : PySem.Expr} {body : List Stmt} {pos : Pos} {Q : Flow → Shared → Prop}
theorem For_A (L : Addr) (h₀ : Heap) (h : wpAny (model prog w) A (eval iter env) (fun xv s₁ => wpAny (model prog w) A (pyIter xv) (fun it s₂ => LoopAtA prog w A h₀ L env target body Q E it s₂) E s₁) E s)
    (hs : ∀ x, foldedSetIterable iter env x = pure x := by intro _; rfl)
    (hE : PassesOwn (model prog w) A env E := by passes_own) :
    wpAny (model prog w) A (exec (.For target iter body [] pos) env) Q E s := by
  refine wpAny_For (wpAny_mono h (fun xv s₁ h₁ => wpAny_mono h₁ (fun it s₂ h₂ => ?_) fun _ _ e => e) fun _ _ e => e) hs
  obtain ⟨I, fp, wr, n, P, St, m, news, J, rfl, W, hown, hLf, hwr, hnw, hst, F, N, h0, step, hQ⟩ := h₂
  have hLw : L ∉ wr := fun h => hLf (W.sub _ h)
  have old : ∀ b o, h₀.get? b = some o → b ∉ wr := fun b o e hb => by rw [hwr b hb] at e; cases e
  refine codeAny_forLoop (R := fun r s' => match r with | .ok f => Q f s' | .error e => cameBackBy (model prog w) A env E e s')
    (fun k s' => ∃ h' tk m' news' i, s' = { s₂ with heap := h', toks := tk } ∧ St i h' ∧ Fr h₀ L h' m' ∧ News h₀ L h' news' ∧ (∀ p ∈ news', p.1 ∉ wr) ∧ J i m' news' ∧ i ≤ n ∧ k = n + 1 - i) ?_ (n + 1)
    ⟨s₂.heap, s₂.toks, m, news, 0, rfl, hst, F, N, hnw, h0, Nat.zero_le _, rfl⟩ hown
  rintro k s' ⟨h', tk, m', news', i, rfl, hst', F', N', hnw', hJ, hi, rfl⟩
  have next : ∀ h₁ : Heap, (∀ b o, b ∉ wr → h'.get? b = some o → h₁.get? b = some o) → Fr h₀ L h₁ m' ∧ News h₀ L h₁ news' := fun h₁ hk₁ =>
    ⟨⟨F'.ns.at' fun o e => hk₁ _ o hLw e, fun b o e => hk₁ b o (old b o e) (F'.keep b o e), F'.above⟩, fun p hp => ⟨hk₁ _ _ (hnw' p hp) (N' p hp).1, (N' p hp).2⟩⟩
  by_cases hlt : i < n
  · refine W.item i _ _ _ hlt hst' fun v h₁ tk₁ hP hst₁ hk₁ => ?_
    obtain ⟨F₁, N₁⟩ := next h₁ hk₁
    have Nown : News h₀ L h₁ (ownOf h₀ fp h₁) := news_ownOf hLf
    refine wpAny_mono (step i v m' news' _ (ownOf h₀ fp h₁) ⟨_, _, rfl⟩ hlt hP hJ hnw' ownOf_sub (fun b hb hn o e => mem_ownOf hb hn e) hst₁ F₁ (Nown.append N₁)) (fun _ s₄ h₄ => ?_) hE
    refine wpAny_mono h₄ (fun f s₃ h₃ => ?_) hE
    have fin : LoopStepU h₀ L wr (ownOf h₀ fp h₁) (J (i + 1)) { s₂ with heap := h₁, toks := tk₁ } .next s₃ → ∃ m, m < n + 1 - i ∧ (∃ h' tk m' news' i, s₃ = { s₂ with heap := h', toks := tk } ∧ St i h' ∧ Fr h₀ L h' m' ∧ News h₀ L h' news' ∧ (∀ p ∈ news', p.1 ∉ wr) ∧ J i m' news' ∧ i ≤ n ∧ m = n + 1 - i) := by
      rintro ⟨_, h₃', tk₃, m₂, news₂, rfl, F₃, N₃, ha₃, hJ₃⟩
      refine ⟨n + 1 - (i + 1), by omega, h₃', tk₃, m₂, news₂, i + 1, rfl, ?_, F₃, N₃.right, ha₃, hJ₃, hlt, rfl⟩
      refine W.frame _ _ _ hst₁ fun b hb o e => ?_
      cases hn : h₀.get? b with
      | some o₀ =>
        have : o₀ = o := by have := F₁.keep b o₀ hn; rw [e] at this; exact (Option.some.inj this).symm
        exact this ▸ F₃.keep b o₀ hn
      | none => exact (N₃ _ (List.mem_append_left _ (mem_ownOf hb hn e))).1
    cases f with
    | ret v => exact h₃
    | brk => exact h₃
    | cont => exact fin h₃
    | next => exact fin h₃
  · have hin : i = n := by omega
    subst hin
    refine W.done _ _ _ hst' fun h₁ tk₁ hk₁ => wpAny_execs_nil ?_
    obtain ⟨F₁, N₁⟩ := next h₁ hk₁
    exact hQ h₁ tk₁ m' news' F₁ N₁ hnw' hJ

theorem loopA {I : Addr} {fp : List Addr} {n : Nat} {P : Nat → Value → Prop} {St : Nat → Heap → Prop} {m₀ : Str → Option Value} {news : List (Addr × Obj)} (J : Nat → (Str → Option Value) → List (Addr × Obj) → Prop)
    (W : Walks prog w A I fp [I] n P St) (ho : ∀ v, letOwnedTupleGo target (.ref I) v = pure ()) (hst : St 0 s.heap) (hLf : L ∉ fp) (hI0 : h₀.get? I = none) (hnw : ∀ p ∈ news, p.1 ≠ I)
    (F : Fr h₀ L s.heap m₀) (N : News h₀ L s.heap news) (hj : J 0 m₀ news)
    (turn : ∀ i v m₁ news₁ own h tk, i < n → P i v → J i m₁ news₁ → (∀ p ∈ own, p.1 ∈ fp) → (∀ p ∈ news₁, p.1 ≠ I) → (∀ b ∈ fp, h₀.get? b = none → ∀ o, h.get? b = some o → (b, o) ∈ own) → St (i + 1) h →
      Fr h₀ L h m₁ → News h₀ L h (news₁ ++ own) →
      wpAny (model prog w) A (assign target env v) (fun _ s' => wpAny (model prog w) A (execs body env) (TurnPost h₀ L I own (J (i + 1)) { s with heap := h, toks := tk } Q) E s') E { s with heap := h, toks := tk })
    (done : ∀ m₁ news₁ h tk, J n m₁ news₁ → (∀ p ∈ news₁, p.1 ≠ I) → Fr h₀ L h m₁ → News h₀ L h news₁ → Q .next { s with heap := h, toks := tk }) :
    LoopAtA prog w A h₀ L env target body Q E (.ref I) s := by
  refine ⟨I, fp, [I], n, P, St, m₀, news, J, rfl, W, ho, hLf, ?_, ?_, hst, F, N, hj, ?_, ?_⟩
  · intro b hb; rw [List.mem_singleton.mp hb]; exact hI0
  · intro p hp hI; exact hnw p hp (List.mem_singleton.mp hI)
  · rintro i v m₁ news₁ s₁ own ⟨hh', tk', rfl⟩ hi hP hJ hoff hown hall hst₁ F₁ N₁
    have hoff' : ∀ p ∈ news₁, p.1 ≠ I := fun p hp e => hoff p hp (List.mem_singleton.mpr e)
    have N₂ : News h₀ L hh' (news₁ ++ own) := fun p hp => N₁ p ((List.mem_append.mp hp).elim (fun h => List.mem_append.mpr (.inr h)) fun h => List.mem_append.mpr (.inl h))
    refine wpAny_mono (turn i v m₁ news₁ own hh' tk' hi hP hJ hown hoff' hall hst₁ F₁ N₂) (fun _ s₄ h₄ => wpAny_mono h₄ (fun f s₂ p => ?_) fun _ _ e => e) fun _ _ e => e
    have fin : TurnEnd h₀ L I own (J (i + 1)) { s with heap := hh', toks := tk' } s₂ → LoopStepU h₀ L [I] own (J (i + 1)) { s with heap := hh', toks := tk' } .next s₂ := by
      rintro ⟨h', tk, m', all, nx, e, F', N', ho, hn, hI, hm⟩
      exact ⟨rfl, h', tk, m', nx, e, F', fun p hp => N' p ((List.mem_append.mp hp).elim (ho p) (hn p)), fun p hp hq => hI p hp (List.mem_singleton.mp hq), hm⟩
    cases f with
    | ret v => exact .ret p
    | brk => exact .brk p
    | next => exact .next (fin p)
    | cont => exact .cont (fin p)
  · rintro h' tk m' news' F' N' hoff hJ
    exact done m' news' h' tk hJ (fun p hp e => hoff p hp (List.mem_singleton.mpr e)) F' N'

theorem iter_listA {l : Addr} {vs : List Value} {m₀ : Str → Option Value} {news : List (Addr × Obj)} (J : Nat → (Str → Option Value) → List (Addr × Obj) → Prop)
    (hh : A.handled = none) (ho : ∀ I v, letOwnedTupleGo target (.ref I) v = pure ()) (hl : s.heap.IsList l vs.toArray) (hL : l ≠ L) (F : Fr h₀ L s.heap m₀) (N : News h₀ L s.heap news) (hj : J 0 m₀ news)
    (turn : ∀ i v m₁ news₁ I own h tk, vs[i]? = some v → J i m₁ news₁ → (∀ p ∈ own, p.1 = I ∨ p.1 = l) → (∀ p ∈ news₁, p.1 ≠ I) → (∃ o, (I, o) ∈ own ∧ o.cls = .type "list_iterator") → l ≠ I →
      Fr h₀ L h m₁ → News h₀ L h (news₁ ++ own) →
      wpAny (model prog w) A (assign target env v) (fun _ s' => wpAny (model prog w) A (execs body env) (TurnPost h₀ L I own (J (i + 1)) { s with heap := h, toks := tk } Q) E s') E { s with heap := h, toks := tk })
    (done : ∀ m₁ news₁ h tk, J vs.length m₁ news₁ → Fr h₀ L h m₁ → News h₀ L h news₁ → Q .next { s with heap := h, toks := tk }) :
    wpAny (model prog w) A (pyIter (.ref l)) (fun it s₂ => LoopAtA prog w A h₀ L env target body Q E it s₂) E s := by
  obtain ⟨ol, hol, _⟩ := id hl
  have hlt : l < s.heap.objs.size := Heap.lt_size hol
  refine wpAny_pyIter_list hl ?_
  have hn := next_is_new F
  have W := Walks.list (prog := prog) (w := w) hh s.heap.objs.size l (Nat.ne_of_lt hlt) vs.toArray
  have hlen : vs.toArray.size = vs.length := by simp
  rw [hlen] at W
  refine loopA J W (ho _) ⟨⟨_, Heap.get?_push_size _ rfl, rfl, rfl⟩, hl.at fun o e => Heap.get?_push_of_some _ e⟩ ?_ hn ?_ (F.push _) (fun p hp => ⟨Heap.get?_push_of_some _ (N p hp).1, (N p hp).2⟩) hj ?_ ?_
  · intro hm
    rcases List.mem_cons.mp hm with e | hm
    · exact absurd F.ns.lt (e ▸ Nat.lt_irrefl _)
    · exact hL (List.mem_singleton.mp hm).symm
  · intro p hp hI; exact absurd (Heap.lt_size (N p hp).1) (hI ▸ Nat.lt_irrefl _)
  · rintro i v m₁ news₁ own h tk _ hP hJ hown hoff hall ⟨⟨o, ho, hoc, _⟩, hl'⟩ F₁ N₁
    exact turn i v m₁ news₁ _ own h tk (by simpa using hP) hJ (fun p hp => by simpa using hown p hp) hoff ⟨o, hall _ (.head _) hn o ho, hoc⟩ (Nat.ne_of_lt hlt) F₁ N₁
  · intro m₁ news₁ h tk hJ _ F₁ N₁
    exact done m₁ news₁ h tk hJ F₁ N₁

theorem iter_rangeA {r : Addr} {a₀ b₀ : Int} {t₀ u₀ v₀ : Tok} {n : Nat} {m₀ : Str → Option Value} {news : List (Addr × Obj)} (J : Nat → (Str → Option Value) → List (Addr × Obj) → Prop)
    (hh : A.handled = none) (ho : ∀ I v, letOwnedTupleGo target (.ref I) v = pure ()) (hr : IsRange s.heap r a₀ b₀ 1 t₀ u₀ v₀) (hsmall : Builtin.Range.small a₀ b₀ 1 = true) (hn : Builtin.Range.rangeSize a₀ b₀ 1 = (n : Int)) (F : Fr h₀ L s.heap m₀) (N : News h₀ L s.heap news) (hj : J 0 m₀ news)
    (turn : ∀ i u m₁ news₁ I own h tk, i < n → J i m₁ news₁ → (∀ p ∈ own, p.1 = I) → (∀ p ∈ news₁, p.1 ≠ I) → (∃ o, (I, o) ∈ own) →
      Fr h₀ L h m₁ → News h₀ L h (news₁ ++ own) →
      wpAny (model prog w) A (assign target env (.int (a₀ + (i : Int)) u)) (fun _ s' => wpAny (model prog w) A (execs body env) (TurnPost h₀ L I own (J (i + 1)) { s with heap := h, toks := tk } Q) E s') E { s with heap := h, toks := tk })
    (done : ∀ m₁ news₁ h tk, J n m₁ news₁ → Fr h₀ L h m₁ → News h₀ L h news₁ → Q .next { s with heap := h, toks := tk }) :
    wpAny (model prog w) A (pyIter (.ref r)) (fun it s₂ => LoopAtA prog w A h₀ L env target body Q E it s₂) E s := by
  refine wpAny_pyIter_range hr hsmall ?_
  have hnew := next_is_new F
  have W : Walks prog w A s.heap.objs.size [s.heap.objs.size] [s.heap.objs.size] n (fun i v => i < n ∧ ∃ t, v = .int (a₀ + i * 1) t)
      (fun i h => IsRangeIter h s.heap.objs.size (a₀ + (i : Nat) * 1) ((n : Int) - (i : Nat)) 1) := (Walks.range hh _ a₀ 1 n).bound
  refine loopA J W (ho _) (by show IsRangeIter _ _ _ _ _; rw [hn]; simpa using Heap.get?_push_size _ rfl) ?_ hnew ?_ (F.push _) (fun p hp => ⟨Heap.get?_push_of_some _ (N p hp).1, (N p hp).2⟩) hj ?_ ?_
  · intro hm; exact absurd F.ns.lt ((List.mem_singleton.mp hm) ▸ Nat.lt_irrefl _)
  · intro p hp hI; exact absurd (Heap.lt_size (N p hp).1) (hI ▸ Nat.lt_irrefl _)
  · rintro i v m₁ news₁ own h tk hi ⟨_, u, rfl⟩ hJ hown hoff hall hst F₁ N₁
    have e1 : a₀ + (i : Int) * 1 = a₀ + (i : Int) := by rw [Int.mul_one]
    rw [e1]
    exact turn i u m₁ news₁ _ own h tk hi hJ (fun p hp => List.mem_singleton.mp (hown p hp)) hoff ⟨_, hall _ (.head _) hnew _ hst⟩ F₁ N₁
  · intro m₁ news₁ h tk hJ _ F₁ N₁
    exact done m₁ news₁ h tk hJ F₁ N₁
end
/-! list(a list's iterator) -/
section
variable {prog : Program} {w : World} {A : Around} {E : Value → Shared → Prop} {s : Shared} {R : Result → Shared → Prop} {I : Addr} {fp wr : List Addr} {G : Array GenState → Array GenState → Prop} {n : Nat} {P : Nat → Value → Prop} {St : Nat → Shared → Prop}
theorem extend_listiter (W : WalksS prog w A.in1 I fp wr G n P St) (hT : ∀ i s, St i s → s.TypeIs (.ref I) "list_iterator") (S : Addr) (res : Value) (c₀ : Nat) (hst : St 0 s) (hSf : S ∉ fp) (hI : I ∈ fp)
    (hS : s.heap.get? S = some { cls := .type "list", data := .seq #[] c₀ })
    (hR : ∀ s' acc' c', Moved (S :: wr) G s s' → s'.heap.get? S = some { cls := .type "list", dict := none, data := .seq acc' c', slots := #[] } → ItemsOf P acc' n → R (.ok (.ret res)) s') (hn : n ≤ sizeLine := by size_fits) :
    wpAny (model prog w) A.in1 (Builtin.List.listExtendWith (.ref S) (.ref I) res)
      (fun fin s' => match fin with | .done f => R (.ok f) s' | .again c' => c'.quiet = true ∧ codeAny (model prog w) A c' R s') (fun e s' => R (.error e) s') s := by
  have hSI : S ≠ I := fun e => hSf (e ▸ hI)
  unfold Builtin.List.listExtendWith
  refine wpAny_bind (wpAny_typeOf (hT 0 _ hst) ?_)
  have h1 : Builtin.List.listSameRef (.ref S) (.ref I) = false := by simp [Builtin.List.listSameRef, hSI]
  rw [if_neg (by rw [h1]; decide)]
  refine wpAny_bind (W.self 0 _ _ _ hst ?_)
  refine wpAny_bind (wpAny_holding ?_)
  unfold Builtin.List.listLengthHint
  refine wpAny_bind (wpAny_specialOf (hT 0 _ hst) PySem.F.nolen_li ?_)
  show wpAny _ A.in1 (specialOf (Value.ref I) (Str.ofString "__length_hint__") >>= _) _ _ _
  refine wpAny_bind (wpAny_specialOf (hT 0 _ hst) PySem.F.hint_li ?_)
  (generalize hid : ("list_iterator.__length_hint__" : String) = id0; (fail_if_success (clear hid id0)); wp_delta; rw [show splitId id0 = some ("list_iterator", "__length_hint__") from by subst hid; decide +kernel]; subst hid)
  refine wpAny_bind (wpAny_isInstance (b := true) (hT 0 _ hst) (by rw [isSubtype_type]; kernel_rfl) ?_)
  refine wpAny_pure ?_
  rw [if_neg (by decide)]
  refine wpAny_pure ⟨plainId_quiet PySem.F.plain_extend_loop _, codeAny_extend_loopS W hn _ hSf _ n 0 _ _ _ rfl (Nat.zero_le _) hst hS (ItemsOf.nil P) fun s' acc' c' hm hS' hacc => ?_⟩
  exact hR s' acc' c' hm hS' hacc
theorem list_init_listiter (W : WalksS prog w A.in1 I fp wr G n P St) (hT : ∀ i s, St i s → s.TypeIs (.ref I) "list_iterator") (S : Addr) (hst : St 0 s) (hSf : S ∉ fp) (hI : I ∈ fp)
    (hS : s.heap.get? S = some { cls := .type "list", data := .seq #[] })
    (hR : ∀ s' acc' c', Moved (S :: wr) G s s' → s'.heap.get? S = some { cls := .type "list", dict := none, data := .seq acc' c', slots := #[] } → ItemsOf P acc' n → R (.ok (.ret .none)) s') (hn : n ≤ sizeLine := by size_fits) :
    wpAny (model prog w) A.in1 (Builtin.«list.__init__» ⟨[.ref S, .ref I], []⟩)
      (fun fin s' => match fin with | .done f => R (.ok f) s' | .again c' => c'.quiet = true ∧ codeAny (model prog w) A c' R s') (fun e s' => R (.error e) s') s := by
  show wpAny _ A.in1 (do let old ← Builtin.List.listItems (.ref S); Builtin.List.listUpdate (.ref S) (fun _ => #[]); letGo old.toList.reverse; Builtin.List.listExtendWith (.ref S) (.ref I) .none) _ _ s
  refine wpAny_bind ?_
  unfold Builtin.List.listItems
  refine wpAny_bind (wpAny_seqItems hS rfl (wpAny_pure ?_))
  show wpAny _ A.in1 (updateSeq S (fun _ => #[]) >>= fun _ => letGo (#[] : Array Value).toList.reverse >>= fun _ => Builtin.List.listExtendWith (.ref S) (.ref I) .none) _ _ s
  refine wpAny_bind (wpAny_updateSeq hS rfl ?_)
  have hS₂ := Heap.get?_update_self (Obj.mapSeq (fun _ => (#[] : Array Value))) hS rfl
  have oth : ∀ b o, b ≠ S → s.heap.get? b = some o → (s.heap.update S (Obj.mapSeq (fun _ => (#[] : Array Value)))).get? b = some o :=
    fun b o hb e => (Heap.get?_update_other _ _ (Ne.symm hb)).trans e
  refine wpAny_bind (wpAny_letGo ?_)
  refine extend_listiter (hn := hn) W hT S .none _ (W.frame 0 s _ s.toks hst (Nat.le_refl _) fun b hb o e => oth b o (fun h => hSf (h ▸ hb)) e) hSf hI hS₂ fun s' acc' c' hm hS' hacc => ?_
  exact hR s' acc' c' (Moved.trans W.gtrans ((Moved.refl W.grefl).then_heap (Nat.le_refl _) fun b o hb e => oth b o (fun h => hb (h ▸ List.mem_cons_self)) e) hm) hS' hacc
end
section
variable {prog : Program} {w : World} {A : Around} {E : Value → Shared → Prop} {s : Shared} {h₀ : Heap} {L l it : Addr} {m : Str → Option Value} {led : List (Addr × Obj)} {vs : List Value} {n : Nat} {Q : Value → Shared → Prop}
theorem list_of_iter (hh : A.handled = none) (F : Fr h₀ L s.heap m) (N : News h₀ L s.heap led) (hit : (it, itObj l) ∈ led) (hl : (l, listOf vs.toArray n) ∈ led) (hz : vs.length ≤ 100000)
    (hQ : ∀ D c h' tk, Fr h₀ L h' m → News h₀ L h' ((D, listOf vs.toArray c) :: but it led) → (∀ q ∈ led, q.1 < D) → Q (.ref D) { s with heap := h', toks := tk }) :
    wpAny (model prog w) A (call (.type "list") [.ref it]) Q E s := by
  have hitI := (N _ hit).1
  have hlI := (N _ hl).1
  dsimp only at hitI hlI
  have hne : l ≠ it := fun q => by
    rw [q, hitI] at hlI
    have := congrArg Obj.cls (Option.some.inj hlI)
    injection this with this; exact absurd this (by decide)
  have W := (Walks.list (prog := prog) (w := w) (A := A.in1.in1) hh it l hne vs.toArray).toS
  have hlen : vs.toArray.size = vs.length := by simp
  have hS : (s.heap.push { cls := .type "list", data := .seq #[] }).get? s.heap.objs.size = some { cls := .type "list", data := .seq #[] } := Heap.get?_push_size _ rfl
  have hnf : s.heap.objs.size ∉ [it, l] := fun hm => by
    rcases List.mem_cons.mp hm with e | hm
    · exact absurd (Heap.lt_size hitI) (e ▸ Nat.lt_irrefl _)
    · exact absurd (Heap.lt_size hlI) ((List.mem_singleton.mp hm) ▸ Nat.lt_irrefl _)
  refine callType_codes (Q₁ := fun obj s₁ => obj = .ref s.heap.objs.size ∧ s₁ = { s with heap := s.heap.push { cls := .type "list", data := .seq #[] } }) PySem.F.called_list (PySem.F.typeCall_list_1 _) PySem.F.entry_list_init
    (code_list_new _ ⟨rfl, rfl⟩) fun obj s₁ h₁ => ?_
  obtain ⟨rfl, rfl⟩ := h₁
  refine ⟨⟨_, hS, rfl⟩, PySem.F.args_list_init_2 _ _, list_init_listiter (A := A.in1) W (fun _ _ st => st.1.typeIs) _ ⟨⟨_, Heap.get?_push_of_some _ hitI, rfl, rfl⟩, (PySem.IsL.isList (n := n) hlI).push _⟩ hnf (.head _) hS (fun s' acc' c' hm hS' hacc => ?_) (by rw [sizeLine_eq]; omega)⟩
  obtain ⟨mh, mg, md, mo, mt⟩ := hm
  have hacc2 : acc' = vs.toArray := by
    obtain ⟨h1, h2⟩ := hacc
    apply Array.ext_getElem?
    intro i
    by_cases hi : i < acc'.size
    · have := h2 i acc'[i] (by simp [hi])
      rw [this]; simp [hi]
    · rw [Array.getElem?_eq_none (by omega), Array.getElem?_eq_none (by omega)]
  subst hacc2
  have key : ∀ b o, b ≠ it → s.heap.get? b = some o → s'.heap.get? b = some o := fun b o h2 e => by
    refine mh b o (fun hb => ?_) (Heap.get?_push_of_some _ e)
    rcases List.mem_cons.mp hb with rfl | hb
    · exact absurd (Heap.lt_size e) (Nat.lt_irrefl _)
    · exact h2 (List.mem_singleton.mp hb)
  have hLs : L < s.heap.objs.size := F.ns.lt
  have F' : Fr h₀ L s'.heap m := ⟨F.ns.at' fun o e => key L o (N _ hit).2.1.symm e, fun b o e => key b o (fun q => by rw [q, (N _ hit).2.2] at e; cases e) (F.keep b o e), F.above⟩
  have e : s' = { s with heap := s'.heap, toks := s'.toks } := by
    cases s'; dsimp only at md mo mg ⊢; rw [md, mo, mg]
  rw [e]
  refine ⟨rfl, hQ _ c' _ _ F' (fun q hq => ?_) (fun q hq => Heap.lt_size (N q hq).1)⟩
  rcases List.mem_cons.mp hq with rfl | hq
  · refine ⟨hS', Nat.ne_of_gt hLs, ?_⟩
    cases z : h₀.get? s.heap.objs.size with
    | none => rfl
    | some o => exact absurd (Nat.lt_of_lt_of_le (Heap.lt_size z) (Nat.le_trans F.above (Nat.le_of_lt hLs))) (Nat.lt_irrefl _)
  · obtain ⟨h1, h2⟩ := mem_but.mp hq
    exact ⟨key _ _ h2 (N q h1).1, (N q h1).2⟩
end
end Mine
end
section
open Lean Elab Tactic Meta PySem PySem.W PySem.Calls PyProof.Rows PyProof.V PySem.Builtin PySem.SeqAt
open AutoSeq1 (wpAny_loadPart')
open MeetsSeq MeetsSeq2 MeetsSeq3 SeqRoads2
namespace Mine
set_option maxRecDepth 100000
/-! lists of ints by their places -/
def lexLt : List Int → List Int → Bool
  | [], [] => false
  | [], _ :: _ => true
  | _ :: _, [] => false
  | x :: xs, y :: ys => if x = y then lexLt xs ys else decide (x < y)
theorem ints_len : ∀ {vs : List Value} {xs : List Int}, IntsAre vs xs → vs.length = xs.length
  | _, _, .nil => rfl
  | _, _, .cons _ _ h => congrArg (· + 1) (ints_len h)
theorem ints_drop : ∀ {vs : List Value} {xs : List Int}, IntsAre vs xs → ∀ {i : Nat}, i < vs.length → ∃ x t, vs[i]? = some (.int x t) ∧ xs.drop i = x :: xs.drop (i + 1)
  | _, _, .nil, _, h => absurd h (Nat.not_lt_zero _)
  | _, _, .cons x t _, 0, _ => ⟨x, t, rfl, rfl⟩
  | _, _, .cons _ _ r, i + 1, h => by
    obtain ⟨x, t, h1, h2⟩ := ints_drop r (i := i) (by simpa using h)
    exact ⟨x, t, by simpa using h1, by simpa using h2⟩
theorem lex_cons (x y : Int) (xs ys : List Int) : lexLt (x :: xs) (y :: ys) = if x = y then lexLt xs ys else decide (x < y) := rfl
theorem lex_cons_nil (x : Int) (xs : List Int) : lexLt (x :: xs) [] = false := rfl
theorem lex_nil_right (xs : List Int) : lexLt xs [] = false := by cases xs <;> rfl
theorem lt_loopAt (l b : Addr) {vs us : List Value} {xs ys : List Int} (hv : IntsAre vs xs) (hu : IntsAre us ys) (n n2 : Nat) (dd dd2 : Option Addr) (sl sl2 : Array (Option Value)) (k : Nat) :
    ∀ i : Nat, vs.length - i = k → i ≤ vs.length → i ≤ us.length → Meets (Builtin.«list.__eq__.loop» ⟨[.ref l, .ref b, rawInt i, rawInt 0], []⟩)
      (fun _ R s => s.heap.get? l = some { cls := .type "list", dict := dd, data := .seq vs.toArray n, slots := sl } ∧ s.heap.get? b = some { cls := .type "list", dict := dd2, data := .seq us.toArray n2, slots := sl2 } ∧
        R (.ok (.ret (.bool (lexLt (xs.drop i) (ys.drop i))))) s) := by
  have hvl := ints_len hv
  have hul := ints_len hu
  induction k with
  | zero =>
    intro i hk hi1' hi2' prog w A R s h
    obtain ⟨hp, g, d, tk, os⟩ := s; obtain ⟨hl, hb, h⟩ := h
    wp_walk using wpAny_loadPart' hl, wpAny_loadPart' hb
    have hi1 : vs.toArray[((i : Nat) : Int).toNat]? = none := by simp; omega
    have hd : xs.drop i = [] := by simp; omega
    rw [hd] at h
    rw [hi1]
    wp_walk using wpAny_loadPart' hl, wpAny_loadPart' hb
    show R (.ok (.ret (.bool (decide (vs.toArray.size < us.toArray.size))))) _
    have e : lexLt [] (ys.drop i) = decide (vs.toArray.size < us.toArray.size) := by
      simp only [List.size_toArray]
      cases hy : ys.drop i with
      | nil =>
        have : ys.length ≤ i := by simpa using hy
        rw [lexLt, eq_comm, decide_eq_false_iff_not]; omega
      | cons y r =>
        have : i < ys.length := by
          rcases Nat.lt_or_ge i ys.length with h | h
          · exact h
          · rw [List.drop_eq_nil_of_le h] at hy; cases hy
        rw [lexLt, eq_comm, decide_eq_true_iff]; omega
    rw [← e]; exact h
  | succ k ih =>
    intro i hk hi1' hi2' prog w A R s h
    obtain ⟨hp, g, d, tk, os⟩ := s; obtain ⟨hl, hb, h⟩ := h
    wp_walk using wpAny_loadPart' hl, wpAny_loadPart' hb
    have hlt : i < vs.length := by omega
    obtain ⟨x, t, hx, hxd⟩ := ints_drop hv hlt
    have hi1 : vs.toArray[((i : Nat) : Int).toNat]? = some (.int x t) := by simpa using hx
    rw [hxd] at h
    rw [hi1]
    by_cases hlt2 : i < us.length
    · obtain ⟨y, u, hy, hyd⟩ := ints_drop hu hlt2
      have hi2 : us.toArray[((i : Nat) : Int).toNat]? = some (.int y u) := by simpa using hy
      rw [hyd] at h
      rw [hi2]
      have hc : ((i : Int) + 1) = ((i + 1 : Nat) : Int) := by push_cast; rfl
      refine wpAny_bind (EqAt.int_int x t y u prog w _ _ ?_)
      rw [lex_cons] at h
      by_cases hxy : x = y
      · rw [if_pos hxy] at h
        have e : (x == y) = true := by simp [hxy]
        rw [e]
        wp_walk
        rw [hc]
        exact ⟨plainId_quiet plain_eq_loop _, codeAny_builtin entry_eq_loop (by
          rw [Around.under_plainId plain_eq_loop _]
          exact ih (i + 1) (by omega) hlt hlt2 prog w A R _ ⟨hl, hb, h⟩)⟩
      · rw [if_neg hxy] at h
        have e : (x == y) = false := by simp [hxy]
        rw [e]
        wp_walk using wpAny_loadPart' hl, wpAny_loadPart' hb
        rw [hi1, hi2]
        refine wpAny_bind (wpAny_lt_int (a := x) (b := y) ?_)
        exact wpAny_pure h
    · have hi2 : us.toArray[((i : Nat) : Int).toNat]? = none := by simp; omega
      have hd : ys.drop i = [] := by simp; omega
      rw [hd, lex_cons_nil] at h
      rw [hi2]
      wp_walk using wpAny_loadPart' hl, wpAny_loadPart' hb
      show R (.ok (.ret (.bool (decide (vs.toArray.size < us.toArray.size))))) _
      have e : decide (vs.toArray.size < us.toArray.size) = false := by
        rw [decide_eq_false_iff_not]; simp only [List.size_toArray]; omega
      rw [e]; exact h
theorem list_ltAt (l b : Addr) {vs us : List Value} {xs ys : List Int} (hv : IntsAre vs xs) (hu : IntsAre us ys) (n n2 : Nat) (dd dd2 : Option Addr) (sl sl2 : Array (Option Value)) :
    Meets (Builtin.«list.__lt__» ⟨[.ref l, .ref b], []⟩)
      (fun _ R s => s.heap.get? l = some { cls := .type "list", dict := dd, data := .seq vs.toArray n, slots := sl } ∧ s.heap.get? b = some { cls := .type "list", dict := dd2, data := .seq us.toArray n2, slots := sl2 } ∧
        R (.ok (.ret (.bool (lexLt xs ys)))) s) := by
  intro prog w A R s h
  obtain ⟨hp, g, d, tk, os⟩ := s; obtain ⟨hl, hb, h⟩ := h
  have f3 := AutoSeq1.sub_list_list
  wp_walk using wpAny_loadPart' hl, wpAny_loadPart' hb
  exact ⟨plainId_quiet plain_eq_loop _, codeAny_builtin entry_eq_loop (by
    rw [Around.under_plainId plain_eq_loop _]
    exact lt_loopAt l b hv hu n n2 dd dd2 sl sl2 _ 0 rfl (Nat.zero_le _) (Nat.zero_le _) prog w A R _ ⟨hl, hb, by simpa using h⟩)⟩
section
variable {prog : Program} {w : World} {A : Around} {E : Value → Shared → Prop} {s : Shared} {l b : Addr} {vs us : List Value} {xs ys : List Int} {n n2 : Nat} {Q : Bool → Shared → Prop}
theorem oneLt_list (hl : s.heap.get? l = some (listOf vs.toArray n)) (hb : s.heap.get? b = some (listOf us.toArray n2)) (hv : IntsAre vs xs) (hu : IntsAre us ys) (hz : A.units < cLine) (h : Q (lexLt xs ys) s) :
    wpAny (model prog w) A (oneLt' true (.ref l) (.ref b)) Q E s := by
  rw [oneLt'_eq]
  simp only [if_true]
  refine wpAny_bind (wpAny_cRoomFor hz ?_)
  refine wpAny_bind (wpAny_callSpecialIfBound?_slot (⟨_, hl, rfl⟩ : s.TypeIs (.ref l) "list") PySem.F.slot_list_lt (call_meets PySem.F.slot_list_lt ⟨_, hl, rfl⟩ PySem.F.entry_list_lt (PySem.F.args_list_lt_2 _ _) (list_ltAt l b hv hu n n2 none none #[] #[]) ⟨hl, hb, ?_⟩))
  exact wpAny_truthy_bool h
end
end Mine
end
section
open Lean Elab Tactic Meta PySem PySem.W PySem.Calls PyProof.Rows PyProof.V PySem.Builtin
namespace Mine
set_option maxRecDepth 100000
/-! the sort's questions, answered by an order -/
def evT {α : Type} (lt : Nat → Nat → Bool) : KasT α → α
  | .ret a => a
  | .ask i j k => evT lt (k (lt i j))
def okT {α : Type} (n : Nat) (lt : Nat → Nat → Bool) : KasT α → Bool
  | .ret _ => true
  | .ask i j k => decide (i < n) && decide (j < n) && okT n lt (k (lt i j))
theorem kasWp_ev {α : Type} {n : Nat} {lt : Nat → Nat → Bool} {cmp : Nat → Nat → (Bool → Shared → Prop) → Shared → Prop} {s : Shared} (hc : ∀ i j C, i < n → j < n → C (lt i j) s → cmp i j C s) :
    ∀ (t : KasT α) (Q : α → Shared → Prop), okT n lt t = true → Q (evT lt t) s → t.kasWp cmp Q s
  | .ret _, _, _, h => h
  | .ask i j k, Q, ho, h => by
    have ho' : (decide (i < n) && decide (j < n) && okT n lt (k (lt i j))) = true := ho
    simp only [Bool.and_eq_true, decide_eq_true_eq] at ho'
    exact hc i j _ ho'.1.1 ho'.1.2 (kasWp_ev hc (k (lt i j)) Q ho'.2 h)
theorem okT_congr {α : Type} {n : Nat} {lt lt' : Nat → Nat → Bool} (h : ∀ i j, i < n → j < n → lt i j = lt' i j) : ∀ t : KasT α, okT n lt t = true → okT n lt' t = true ∧ evT lt' t = evT lt t
  | .ret _, _ => ⟨rfl, rfl⟩
  | .ask i j k, ho => by
    have ho' : (decide (i < n) && decide (j < n) && okT n lt (k (lt i j))) = true := ho
    simp only [Bool.and_eq_true, decide_eq_true_eq] at ho'
    obtain ⟨h1, h2⟩ := okT_congr h (k (lt i j)) ho'.2
    refine ⟨?_, ?_⟩
    · show (decide (i < n) && decide (j < n) && okT n lt' (k (lt' i j))) = true
      rw [← h i j ho'.1.1 ho'.1.2, h1]; simp [ho'.1.1, ho'.1.2]
    · show evT lt' (k (lt' i j)) = evT lt (k (lt i j))
      rw [← h i j ho'.1.1 ho'.1.2, h2]
def allL (n : Nat) : Nat → List (List Nat)
  | 0 => [[]]
  | k + 1 => (allL n k).flatMap fun l => (List.range n).map fun x => x :: l
theorem mem_allL {n : Nat} : ∀ {k : Nat} {l : List Nat}, l.length = k → (∀ x ∈ l, x < n) → l ∈ allL n k
  | 0, [], _, _ => .head _
  | k + 1, x :: l, h, hx => by
    rw [allL, List.mem_flatMap]
    exact ⟨l, mem_allL (by simpa using h) (fun y hy => hx y (.tail _ hy)), List.mem_map.mpr ⟨x, List.mem_range.mpr (hx x (.head _)), rfl⟩⟩
def ltS (σ : List Nat) (i j : Nat) : Bool := decide (σ.getD i 0 < σ.getD j 0)
def nodupB : List Nat → Bool
  | [] => true
  | x :: l => !(l.any (· == x)) && nodupB l
def goodS (n : Nat) (σ : List Nat) : Bool := !(nodupB σ) || (okT n (ltS σ) (kas_sort n) && ((evT (ltS σ) (kas_sort n)).toList.map (σ.getD · 0) == List.range n) && (evT (ltS σ) (kas_sort n)).toList.all (decide <| · < n))
theorem sort2 : (allL 2 2).all (goodS 2) = true := by decide +kernel
theorem sort3 : (allL 3 3).all (goodS 3) = true := by decide +kernel
theorem sort4 : (allL 4 4).all (goodS 4) = true := by decide +kernel
theorem sort5 : (allL 5 5).all (goodS 5) = true := by decide +kernel
theorem lex_irrefl : ∀ xs : List Int, lexLt xs xs = false
  | [] => rfl
  | x :: xs => by rw [lex_cons, if_pos rfl]; exact lex_irrefl xs
theorem lex_trans : ∀ {xs ys zs : List Int}, lexLt xs ys = true → lexLt ys zs = true → lexLt xs zs = true
  | [], [], _, h, _ => by cases h
  | [], _ :: _, [], _, h => by rw [lex_nil_right] at h; cases h
  | [], _ :: _, _ :: _, _, _ => rfl
  | _ :: _, [], _, h, _ => by rw [lex_nil_right] at h; cases h
  | _ :: _, _ :: _, [], _, h => by rw [lex_nil_right] at h; cases h
  | x :: xs, y :: ys, z :: zs, h1, h2 => by
    rw [lex_cons] at *
    by_cases e1 : x = y
    · by_cases e2 : y = z
      · rw [if_pos e1] at h1; rw [if_pos e2] at h2
        rw [if_pos (e1.trans e2)]; exact lex_trans h1 h2
      · rw [if_neg e2] at h2
        rw [if_neg (fun q => e2 (e1 ▸ q)), e1]; exact h2
    · rw [if_neg e1] at h1
      have h1 := of_decide_eq_true h1
      by_cases e2 : y = z
      · rw [if_neg (fun q => e1 (q.trans e2.symm)), ← e2]; exact decide_eq_true h1
      · rw [if_neg e2] at h2
        have h2 := of_decide_eq_true h2
        rw [if_neg (by omega)]; exact decide_eq_true (by omega)
theorem lex_tri : ∀ {xs ys : List Int}, xs ≠ ys → lexLt xs ys = true ∨ lexLt ys xs = true
  | [], [], h => absurd rfl h
  | [], _ :: _, _ => .inl rfl
  | _ :: _, [], _ => .inr rfl
  | x :: xs, y :: ys, h => by
    rw [lex_cons, lex_cons]
    by_cases e : x = y
    · rw [if_pos e, if_pos e.symm]
      exact lex_tri fun q => h (by rw [e, q])
    · rw [if_neg e, if_neg (fun q => e q.symm)]
      rcases Int.lt_or_gt_of_ne e with h | h
      · exact .inl (decide_eq_true h)
      · exact .inr (decide_eq_true h)
theorem countP_le {α : Type} {p q : α → Bool} : ∀ {l : List α}, (∀ x ∈ l, p x = true → q x = true) → l.countP p ≤ l.countP q
  | [], _ => Nat.le_refl _
  | x :: l, h => by
    have ih := countP_le (l := l) fun y hy => h y (.tail _ hy)
    rw [List.countP_cons, List.countP_cons]
    have := h x (.head _)
    cases hp : p x with
    | false => simp; omega
    | true => rw [this hp]; simp; exact ih
theorem countP_lt {α : Type} {p q : α → Bool} : ∀ {l : List α} {a : α}, (∀ x ∈ l, p x = true → q x = true) → a ∈ l → p a = false → q a = true → l.countP p < l.countP q
  | x :: l, a, h, ha, hp, hq => by
    rw [List.countP_cons, List.countP_cons]
    rcases List.mem_cons.mp ha with rfl | ha
    · have := countP_le (l := l) fun y hy => h y (.tail _ hy)
      rw [hp, hq]; simp; omega
    · have ih := countP_lt (l := l) (fun y hy => h y (.tail _ hy)) ha hp hq
      have := h x (.head _)
      cases hpx : p x with
      | false => simp; omega
      | true => rw [this hpx]; simp; exact ih
def rankOf (keys : List (List Int)) (k : List Int) : Nat := keys.countP fun x => lexLt x k
theorem rank_lt {keys : List (List Int)} {a b : List Int} (ha : a ∈ keys) (h : lexLt a b = true) : rankOf keys a < rankOf keys b :=
  countP_lt (fun _ _ hx => lex_trans hx h) ha (lex_irrefl a) h
theorem rank_iff {keys : List (List Int)} {a b : List Int} (ha : a ∈ keys) (hb : b ∈ keys) : rankOf keys a < rankOf keys b ↔ lexLt a b = true := by
  refine ⟨fun h => ?_, rank_lt ha⟩
  by_cases e : a = b
  · rw [e] at h; exact absurd h (Nat.lt_irrefl _)
  · rcases lex_tri e with h' | h'
    · exact h'
    · have := rank_lt hb h'; omega
theorem rank_bound {keys : List (List Int)} {a : List Int} (ha : a ∈ keys) : rankOf keys a < keys.length := by
  have : keys.countP (fun x => lexLt x a) < keys.countP (fun _ => true) := countP_lt (fun _ _ _ => rfl) ha (lex_irrefl a) rfl
  simpa [rankOf] using this
theorem nodupB_of : ∀ {l : List Nat}, l.Nodup → nodupB l = true
  | [], _ => rfl
  | x :: l, h => by
    obtain ⟨h1, h2⟩ := List.nodup_cons.mp h
    show (!(l.any (· == x)) && nodupB l) = true
    rw [nodupB_of h2, Bool.and_true, Bool.not_eq_true', List.any_eq_false]
    intro y hy q
    rw [beq_iff_eq] at q
    exact h1 (q ▸ hy)
theorem good_small {n : Nat} (h2 : 2 ≤ n) (h5 : n ≤ 5) {σ : List Nat} (hl : σ.length = n) (hx : ∀ x ∈ σ, x < n) : goodS n σ = true := by
  have hm := mem_allL hl hx
  have : n = 2 ∨ n = 3 ∨ n = 4 ∨ n = 5 := by omega
  rcases this with rfl | rfl | rfl | rfl
  · exact List.all_eq_true.mp sort2 _ hm
  · exact List.all_eq_true.mp sort3 _ hm
  · exact List.all_eq_true.mp sort4 _ hm
  · exact List.all_eq_true.mp sort5 _ hm
theorem sort_perm {keys : List (List Int)} (hn : keys.Nodup) (h2 : 2 ≤ keys.length) (h5 : keys.length ≤ 5) :
    okT keys.length (fun i j => lexLt (keys.getD i []) (keys.getD j [])) (kas_sort keys.length) = true ∧
    (∀ i ∈ (evT (fun i j => lexLt (keys.getD i []) (keys.getD j [])) (kas_sort keys.length)).toList, i < keys.length) ∧
    (∀ i < keys.length, i ∈ (evT (fun i j => lexLt (keys.getD i []) (keys.getD j [])) (kas_sort keys.length)).toList) ∧
    (evT (fun i j => lexLt (keys.getD i []) (keys.getD j [])) (kas_sort keys.length)).toList.Pairwise fun i j => lexLt (keys.getD i []) (keys.getD j []) = true := by
  have hget : ∀ i, i < keys.length → keys.getD i [] ∈ keys := fun i hi => by
    rw [List.getD_eq_getElem?_getD, List.getElem?_eq_getElem hi]; exact List.getElem_mem hi
  have hinj : ∀ i j, i < keys.length → j < keys.length → keys.getD i [] = keys.getD j [] → i = j := fun i j hi hj e => by
    rw [List.getD_eq_getElem?_getD, List.getD_eq_getElem?_getD, List.getElem?_eq_getElem hi, List.getElem?_eq_getElem hj] at e
    exact (List.getElem?_inj hi hn).mp (by rw [List.getElem?_eq_getElem hi, List.getElem?_eq_getElem hj]; exact congrArg some e)
  let σ : List Nat := (List.range keys.length).map fun i => rankOf keys (keys.getD i [])
  have hσ : ∀ i, i < keys.length → σ.getD i 0 = rankOf keys (keys.getD i []) := fun i hi => by
    rw [List.getD_eq_getElem?_getD, List.getElem?_map, List.getElem?_range hi]; rfl
  have hlt : ∀ i j, i < keys.length → j < keys.length → ltS σ i j = lexLt (keys.getD i []) (keys.getD j []) := fun i j hi hj => by
    unfold ltS
    rw [hσ i hi, hσ j hj, Bool.eq_iff_iff, decide_eq_true_iff]
    exact rank_iff (hget i hi) (hget j hj)
  have hnd : σ.Nodup := by
    rw [List.nodup_iff_pairwise_ne, List.pairwise_map]
    refine List.Pairwise.imp_of_mem ?_ List.nodup_range
    intro i j hi hj hne e
    rw [List.mem_range] at hi hj
    have hk : keys.getD i [] ≠ keys.getD j [] := fun q => hne (hinj i j hi hj q)
    rcases lex_tri hk with h | h
    · have := rank_lt (hget i hi) h; omega
    · have := rank_lt (hget j hj) h; omega
  have hg := good_small h2 h5 (σ := σ) (by simp [σ]) (fun x hx => by
    obtain ⟨i, hi, rfl⟩ := List.mem_map.mp hx
    exact rank_bound (hget i (List.mem_range.mp hi)))
  unfold goodS at hg
  rw [nodupB_of hnd] at hg
  simp only [Bool.not_true, Bool.false_or, Bool.and_eq_true, beq_iff_eq, List.all_eq_true, decide_eq_true_eq] at hg
  obtain ⟨⟨g1, g2⟩, g3⟩ := hg
  obtain ⟨k1, k2⟩ := okT_congr hlt _ g1
  rw [k2]
  refine ⟨k1, g3, fun i hi => ?_, ?_⟩
  · have hr : rankOf keys (keys.getD i []) < keys.length := rank_bound (hget i hi)
    have : rankOf keys (keys.getD i []) ∈ List.range keys.length := List.mem_range.mpr hr
    rw [← g2] at this
    obtain ⟨j, hj, e⟩ := List.mem_map.mp this
    have hjn := g3 j hj
    rw [hσ j hjn] at e
    have : i = j := by
      refine hinj i j hi hjn ?_
      by_cases q : keys.getD i [] = keys.getD j []
      · exact q
      · rcases lex_tri q with h | h
        · have := rank_lt (hget i hi) h; omega
        · have := rank_lt (hget j hjn) h; omega
    rw [this]; exact hj
  · have hp : ((evT (ltS σ) (kas_sort keys.length)).toList.map (σ.getD · 0)).Pairwise (· < ·) := by rw [g2]; exact List.pairwise_lt_range
    rw [List.pairwise_map] at hp
    refine List.Pairwise.imp_of_mem ?_ hp
    intro i j hi hj h
    have := hlt i j (g3 i hi) (g3 j hj)
    rw [← this]; exact decide_eq_true h
end Mine
end
section
open Lean Elab Tactic Meta PySem PySem.W PySem.Calls PyProof.Rows PyProof.V PySem.Builtin PySem.SeqAt
open MeetsSeq MeetsSeq2 MeetsSeq3 SeqRoads2
namespace Mine
set_option maxRecDepth 100000
/-! sorted rows: a row is a tuple of a list of ints and two texts -/
abbrev WRow := List Int × Str × Str
def WRowIn (led : List (Addr × Obj)) (v : Value) (r : WRow) : Prop := ∃ ra ka kv kn t u, v = .ref ra ∧ (ra, tupO [.ref ka, .str r.2.1 t, .str r.2.2 u]) ∈ led ∧ (ka, listOf kv.toArray kn) ∈ led ∧ IntsAre kv r.1
inductive WRowsIn (led : List (Addr × Obj)) : List Value → List WRow → Prop
  | nil : WRowsIn led [] []
  | cons {v : Value} {r : WRow} {vs : List Value} {rs : List WRow} : WRowIn led v r → WRowsIn led vs rs → WRowsIn led (v :: vs) (r :: rs)
theorem WRowIn.mono {a b : List (Addr × Obj)} {v : Value} {r : WRow} (h : WRowIn a v r) (k : ∀ p ∈ a, p ∈ b) : WRowIn b v r := by
  obtain ⟨ra, ka, kv, kn, t, u, e, h1, h2, h3⟩ := h
  exact ⟨ra, ka, kv, kn, t, u, e, k _ h1, k _ h2, h3⟩
theorem wrows_mono {a b : List (Addr × Obj)} (k : ∀ p ∈ a, p ∈ b) : ∀ {vs : List Value} {rows : List WRow}, WRowsIn a vs rows → WRowsIn b vs rows
  | _, _, .nil => .nil
  | _, _, .cons h r => .cons (h.mono k) (wrows_mono k r)
theorem wrows_len {a : List (Addr × Obj)} : ∀ {vs : List Value} {rows : List WRow}, WRowsIn a vs rows → vs.length = rows.length
  | _, _, .nil => rfl
  | _, _, .cons _ r => congrArg (· + 1) (wrows_len r)
theorem wrows_at {a : List (Addr × Obj)} : ∀ {vs : List Value} {rows : List WRow}, WRowsIn a vs rows → ∀ {i : Nat} {r : WRow}, rows[i]? = some r → ∃ v, vs[i]? = some v ∧ WRowIn a v r
  | _, _, .nil, _, _, h => by simp at h
  | _, _, .cons (v := v) h _, 0, _, e => ⟨v, rfl, by have e' := Option.some.inj e; rw [← e']; exact h⟩
  | _, _, .cons _ h, i + 1, _, e => by simpa using wrows_at h (i := i) (by simpa using e)
theorem wrows_app {a : List (Addr × Obj)} : ∀ {vs us : List Value} {rows rs : List WRow}, WRowsIn a vs rows → WRowsIn a us rs → WRowsIn a (vs ++ us) (rows ++ rs)
  | _, _, _, _, .nil, h => h
  | _, _, _, _, .cons h r, k => .cons h (wrows_app r k)
theorem rdAll_ints : ∀ {led : List (Addr × Obj)} {vs : List Value} {ws : List Int}, IntsAre vs ws → RdAll led vs (ws.map PyData.int)
  | _, _, _, .nil => rdAll_nil
  | _, _, _, .cons y t r => rdAll_cons (rd_int y t) (rdAll_ints r)
theorem plain_ints (ws : List Int) : plainD (.list (ws.map PyData.int)) = true := by
  rw [plainD]; exact plainAll_of fun d hd => by obtain ⟨x, hx, rfl⟩ := List.mem_map.mp hd; rw [plainD]
theorem depth_ints (ws : List Int) : PyData.depth (.list (ws.map PyData.int)) ≤ 1 := by
  rw [PyData.depth]
  have := depthAll_le (ds := ws.map PyData.int) (k := 0) fun d hd => by obtain ⟨x, hx, rfl⟩ := List.mem_map.mp hd; rw [PyData.depth]; exact Nat.le_refl _
  omega
section
variable {prog : Program} {w : World} {A : Around} {E : Value → Shared → Prop} {s : Shared} {h₀ : Heap} {L l : Addr} {m : Str → Option Value} {led : List (Addr × Obj)} {vs : List Value} {n : Nat} {rows : List WRow}
theorem wrow_lt {C : Bool → Shared → Prop} {i j : Nat} {ri rj : WRow} {vi vj : Value} (N : News h₀ L s.heap led) (hi : WRowIn led vi ri) (hj : WRowIn led vj rj) (hv : vs.getD i Value.none = vi) (hv' : vs.getD j Value.none = vj) (he : ri.1 = rj.1 → ri = rj) (hu : A.units + 64 < cLine) (h : C (lexLt ri.1 rj.1) s) :
    kas_ask prog w A (tuples' true) vs i j C s := by
  unfold kas_ask
  rw [hv, hv']
  obtain ⟨ra, ka, kv, kn, t, u, rfl, h1, h2, h3⟩ := hi
  obtain ⟨rb, kb, kw, km, t', u', rfl, h1', h2', h3'⟩ := hj
  have hu0 : A.units < cLine := by omega
  refine kat_lt (N _ h1).1 rfl (N _ h1').1 rfl ?_
  obtain ⟨as, r⟩ := rd_list h2 (rdAll_ints h3) s.heap fun p hp => (N p hp).1
  obtain ⟨bs, r'⟩ := rd_list h2' (rdAll_ints h3') s.heap fun p hp => (N p hp).1
  have heq := eqAt_reads _ _ A s _ _ _ _ r r' (plain_canLay _ (plain_ints _)) (plain_canLay _ (plain_ints _)) (by
    have := Nat.min_le_left (PyData.depth (.list (ri.1.map PyData.int))) (PyData.depth (.list (rj.1.map PyData.int)))
    have := depth_ints ri.1; omega)
  refine kat_cons (heq prog w _ _ ?_)
  by_cases e : ri.1 = rj.1
  · have hrr := he e
    subst hrr
    rw [(plain_eqv (plain_ints _) (plain_ints _)).mpr rfl]
    rw [lex_irrefl] at h
    refine kat_yes (kat_cons ((EqGives.str _ _ _ _).at A s prog w _ _ ?_))
    rw [beq_self_eq_true]
    refine kat_yes (kat_cons ((EqGives.str _ _ _ _).at A s prog w _ _ ?_))
    rw [beq_self_eq_true]
    exact kat_yes (kat_nil h)
  · have hf : PyData.eqv (.list (ri.1.map PyData.int)) (.list (rj.1.map PyData.int)) = false := by
      rw [Bool.eq_false_iff]
      intro q
      rw [plain_eqv (plain_ints _) (plain_ints _)] at q
      have q := PyData.list.inj q
      exact e ((List.map_inj_right (fun a b hab => by injection hab)).mp q)
    rw [hf]
    exact kat_no (oneLt_list (N _ h2).1 (N _ h2').1 h3 h3' hu0 h)
def Sorted (keys : List (List Int)) (p : List Nat) : Prop := (∀ i ∈ p, i < keys.length) ∧ (∀ i < keys.length, i ∈ p) ∧ p.Pairwise fun i j => lexLt (keys.getD i []) (keys.getD j []) = true
theorem wrows_tups {led : List (Addr × Obj)} {h : Heap} (hh : ∀ p ∈ led, h.get? p.1 = some p.2) : ∀ {vs : List Value} {rows : List WRow}, WRowsIn led vs rows → ∃ fs, KatTups h vs fs ∧ fs.length = vs.length ∧ ∀ f ∈ fs, ∃ a kv kn, f = .ref a ∧ h.get? a = some (listOf kv kn)
  | _, _, .nil => ⟨[], KatTups.nil, rfl, fun f hf => nomatch hf⟩
  | _, _, .cons ⟨ra, ka, kv, kn, t, u, e, h1, h2, h3⟩ r => by
    obtain ⟨fs, k1, k2, k3⟩ := wrows_tups hh r
    subst e
    refine ⟨.ref ka :: fs, KatTups.cons (hh _ h1) rfl rfl rfl k1, by simp [k2], fun f hf => ?_⟩
    rcases List.mem_cons.mp hf with rfl | hf
    · exact ⟨ka, _, kn, rfl, hh _ h2⟩
    · exact k3 f hf
theorem sorted_many {Q : Value → Shared → Prop} (F : Fr h₀ L s.heap m) (N : News h₀ L s.heap led) (hl : (l, listOf vs.toArray n) ∈ led) (hr : WRowsIn led vs rows) (hn : (rows.map (·.1)).Nodup) (h2 : 2 ≤ rows.length) (h5 : rows.length ≤ 5) (hu : A.units + 100 < cLine)
    (hQ : ∀ D c h' p, Fr h₀ L h' m → News h₀ L h' ((D, listOf (p.map fun i => vs.getD i Value.none).toArray c) :: led) → (∀ q ∈ led, q.1 < D) → Sorted (rows.map (·.1)) p → Q (.ref D) { s with heap := h' }) :
    wpAny (model prog w) A (call (.builtin "sorted") [.ref l]) Q E s := by
  have hlen := wrows_len hr
  refine kat_sorted F N (PySem.IsL.isList (n := n) (N _ hl).1) (by omega) (by omega) fun D e1 h' F' N' hD => ?_
  obtain ⟨fs, k1, k2, k3⟩ := wrows_tups (fun p hp => (N' p (.tail _ hp)).1) hr
  refine kat_kind (T := .type "list") k1 (by omega) (fun v hv => ?_) (by decide) ?_
  · obtain ⟨a, kv, kn, rfl, ha⟩ := k3 v hv
    exact (show Looks (model prog w) h' (typeOf (.ref a)) (listOf kv kn).cls from (Looks.ld ha).andThen .now)
  obtain ⟨g1, g2, g3, g4⟩ := sort_perm hn (by simpa using h2) (by simpa using h5)
  have hkl : (rows.map (·.1)).length = vs.length := by simp [hlen]
  rw [hkl] at g1 g2 g3 g4
  have hat : ∀ i, i < vs.length → ∃ r, rows[i]? = some r ∧ (rows.map (·.1)).getD i [] = r.1 ∧ WRowIn led (vs.getD i Value.none) r := fun i hi => by
    have hi' : i < rows.length := by omega
    obtain ⟨v, hv, hw⟩ := wrows_at hr (i := i) (r := rows[i]) (by simp [hi'])
    refine ⟨rows[i], by simp [hi'], by simp [hi'], ?_⟩
    rw [List.getD_eq_getElem?_getD, hv]; exact hw
  refine kasWp_ev (n := vs.length) (lt := fun i j => lexLt ((rows.map (·.1)).getD i []) ((rows.map (·.1)).getD j [])) (fun i j C hi hj hC => ?_) _ _ g1 ?_
  · obtain ⟨ri, e1, e2, e3⟩ := hat i hi
    obtain ⟨rj, e1', e2', e3'⟩ := hat j hj
    rw [e2, e2'] at hC
    refine wrow_lt (led := led) (fun p hp => N' p (.tail _ hp)) e3 e3' rfl rfl (fun q => ?_) (by show A.units + 1 + 1 + 64 < cLine; omega) hC
    have : i = j := by
      have hi2 : i < (rows.map (·.1)).length := by rw [hkl]; exact hi
      refine (List.getElem?_inj hi2 hn).mp ?_
      rw [List.getElem?_map, List.getElem?_map, e1, e1']
      exact congrArg some q
    subst this
    rw [e1] at e1'; exact Option.some.inj e1'
  · refine KasFin.intro F' N' (UpdF.head fun p hp => Nat.ne_of_lt (hD p hp)) fun h'' c F'' N'' => ?_
    exact hQ D c h'' _ F'' N'' hD ⟨fun i hi => by rw [hkl]; exact g2 i hi, fun i hi => g3 i (by rw [hkl] at hi; exact hi), g4⟩
theorem sorted_one {v : Value} {Q : Value → Shared → Prop} (F : Fr h₀ L s.heap m) (N : News h₀ L s.heap led) (hl : (l, listOf [v].toArray n) ∈ led)
    (hQ : ∀ D c h', Fr h₀ L h' m → News h₀ L h' ((D, listOf [v].toArray c) :: led) → (∀ q ∈ led, q.1 < D) → Q (.ref D) { s with heap := h' }) :
    wpAny (model prog w) A (call (.builtin "sorted") [.ref l]) Q E s := by
  have hl' : s.heap.IsList l [v].toArray := PySem.IsL.isList (n := n) (N _ hl).1
  refine Calls.call_function_entry kind_sorted plain_sorted entry_sorted (args_sorted1 _) ?_
  unfold Builtin.«sorted»
  refine wpAny_bind (m := checkCount "sorted" 1 1 _) (wpAny_pure ?_)
  refine wpAny_bind (collect_list hl' ?_ (by rw [sizeLine_eq]; simp))
  refine wpAny_bind (wpAny_newList ?_ (by rw [sizeLine_eq]; simp))
  have hsz : ((s.heap.push (seqObj "list" #[] 0)).update s.heap.objs.size (Obj.mapSeq (· ++ [v].toArray))).objs.size = s.heap.objs.size + 1 := by
    rw [Heap.size_update, size_push']
  have hoL : (((s.heap.push (seqObj "list" #[] 0)).update s.heap.objs.size (Obj.mapSeq (· ++ [v].toArray))).push (seqObj "list" [v].toArray 0)).get? (s.heap.objs.size + 1) = some (seqObj "list" [v].toArray 0) := by
    rw [← hsz]; exact Heap.get?_push_size _ rfl
  have keep : ∀ b o, s.heap.get? b = some o → (((s.heap.push (seqObj "list" #[] 0)).update s.heap.objs.size (Obj.mapSeq (· ++ [v].toArray))).push (seqObj "list" [v].toArray 0)).get? b = some o := fun b o q => by
    have hlt : b < s.heap.objs.size := Heap.lt_size q
    rw [Heap.get?_push_ne _ _ _ (by rw [hsz]; exact Nat.ne_of_lt (Nat.lt_succ_of_lt hlt)), Heap.get?_update_ne _ _ _ _ (Nat.ne_of_lt hlt), Heap.get?_push_ne _ _ _ (Nat.ne_of_lt hlt)]
    exact q
  have hL : L < s.heap.objs.size := F.ns.lt
  show wpAny _ _ _ _ _ { s with heap := ((s.heap.push (seqObj "list" #[] 0)).update s.heap.objs.size (Obj.mapSeq (· ++ [v].toArray))).push (seqObj "list" [v].toArray 0) }
  rw [hsz]
  refine wpAny_bind (wpAny_holding (wpAny_call_entry slot_list_sort ⟨_, hoL, rfl⟩ entry_list_sort ?body (args_list_sort _)))
  case body =>
    generalize hH : ((s.heap.push (seqObj "list" #[] 0)).update s.heap.objs.size (Obj.mapSeq (· ++ [v].toArray))).push (seqObj "list" [v].toArray 0) = H at *
    have FH : Fr h₀ L H m := F.kept keep
    have NH : News h₀ L H led := N.grown keep
    have hnew : h₀.get? (s.heap.objs.size + 1) = none := Heap.get?_none_of_le (Nat.le_trans F.above (Nat.le_succ_of_le (Nat.le_of_lt hL)))
    have hLne : s.heap.objs.size + 1 ≠ L := Nat.ne_of_gt (Nat.lt_succ_of_lt hL)
    have hoff : ∀ q ∈ led, q.1 < s.heap.objs.size + 1 := fun q hq => Nat.lt_succ_of_lt (Heap.lt_size (N q hq).1)
    have hHlt : s.heap.objs.size + 1 < H.objs.size := Heap.lt_size hoL
    rw [list_sort_plain]
    refine wpAny_bind (listItems_at hoL rfl ?_)
    refine wpAny_bind (listUpdate_at hoL rfl ?_ (by rw [sizeLine_eq]; simp) (Nat.zero_le _))
    obtain ⟨e1, ho1⟩ : ∃ e1, (H.update (s.heap.objs.size + 1) (Obj.mapSeq fun _ => (#[] : Array Value))).get? (s.heap.objs.size + 1) = some (seqObj "list" #[] e1) := ⟨_, get?_update_seq hoL fun _ => #[]⟩
    refine wpAny_bind (seqEpoch_at ho1 rfl ?_)
    refine wpAny_bind (wpAny_newTuple ?_ (by rw [sizeLine_eq]; simp))
    refine wpAny_bind (wpAny_newList ?_ (Nat.zero_le _))
    refine wpAny_holding ?_
    have s1 := Heap.SameBut.update H (s.heap.objs.size + 1) (Obj.mapSeq fun _ => (#[] : Array Value))
    have F1 := kas_fr FH s1 hLne hnew
    have N1 := kas_news NH s1 fun p hp => Nat.ne_of_lt (hoff p hp)
    show wpAny (model prog w) _ _ _ E { s with heap := ((H.update (s.heap.objs.size + 1) (Obj.mapSeq fun _ => (#[] : Array Value))).push (seqObj "tuple" [v].toArray 0)).push (seqObj "list" #[] 0) }
    dsimp only
    have F2 := (F1.push (seqObj "tuple" [v].toArray 0)).push (seqObj "list" #[] 0)
    have N2 : News h₀ L (((H.update (s.heap.objs.size + 1) (Obj.mapSeq fun _ => (#[] : Array Value))).push (seqObj "tuple" [v].toArray 0)).push (seqObj "list" #[] 0)) led := N1.grown fun b x e => Heap.get?_push_of_some _ (Heap.get?_push_of_some _ e)
    have ho2 : (((H.update (s.heap.objs.size + 1) (Obj.mapSeq fun _ => (#[] : Array Value))).push (seqObj "tuple" [v].toArray 0)).push (seqObj "list" #[] 0)).get? (s.heap.objs.size + 1) = some (seqObj "list" #[] e1) := Heap.get?_push_of_some _ (Heap.get?_push_of_some _ ho1)
    generalize hH2 : ((H.update (s.heap.objs.size + 1) (Obj.mapSeq fun _ => (#[] : Array Value))).push (seqObj "tuple" [v].toArray 0)).push (seqObj "list" #[] 0) = H2 at *
    have h12 : [v].toArray.size < 2 := by simp
    rw [if_pos h12, if_pos h12]
    refine wpAny_bind (wpAny_pure ?_)
    rw [StateT.run_pure]
    refine wpAny_bind (wpAny_pure ?_)
    dsimp only
    refine wpAny_bind (seqEpoch_at ho2 rfl ?_)
    have hout : (arrOf (SortSt.mk' general' ([v].toArray.zip [v].toArray) #[] 7 none)).map (·.2) = [v].toArray := by
      show ([v].toArray.zip [v].toArray).map (·.2) = [v].toArray
      simp
    rw [hout]
    refine wpAny_bind (listUpdate_at ho2 rfl ?_ (Nat.zero_le _) (by rw [sizeLine_eq]; simp))
    have s2 := Heap.SameBut.update H2 (s.heap.objs.size + 1) (Obj.mapSeq fun _ => [v].toArray)
    obtain ⟨c2, hc2⟩ : ∃ c2, (H2.update (s.heap.objs.size + 1) (Obj.mapSeq fun _ => [v].toArray)).get? (s.heap.objs.size + 1) = some (seqObj "list" [v].toArray c2) := ⟨_, get?_update_seq ho2 fun _ => [v].toArray⟩
    simp only [bne_self_eq_false, Bool.false_eq_true, if_false]
    refine wpAny_pure ⟨_, rfl, wpAny_pure ⟨_, rfl, hQ _ c2 _ (kas_fr F2 s2 hLne hnew) (fun q hq => ?_) hoff⟩⟩
    rcases List.mem_cons.mp hq with rfl | hq
    · exact ⟨hc2, hLne, hnew⟩
    · exact kas_news N2 s2 (fun p hp => Nat.ne_of_lt (hoff p hp)) q hq
end
end Mine
end
section
theorem Mine.switch_S1 : True := by
  w_top off
  trivial
open Lean Elab Tactic Meta PySem PySem.W PySem.Calls PyProof.Rows
set_option pp.deepTerms false
set_option pp.maxSteps 800
set_option pp.deepTerms.threshold 5
namespace Mine
theorem fill_split : Mine.hd.heap_39 = Mine.hd.heap_39 ∧ PySem.Challenge.rw_ew0015_01 = PySem.Challenge.rw_ew0015_01 := by k_fill; exact ⟨rfl, rfl⟩
local macro_rules | `(tactic| walk_at "exec For Name Name cons nil") => `(tactic| (refine Mine.Stop.on ?_))
local macro_rules | `(tactic| walk_at "exec For Name Call cons nil") => `(tactic| (refine Mine.Stop.on ?_))
local macro_rules | `(tactic| walk_at "exec Assign cons ListComp") => `(tactic| (refine Mine.Stop.on ?_))
local macro_rules | `(tactic| walk_at "LeaveC") => `(tactic| fail "here")
local macro_rules | `(tactic| k_room) => `(tactic| first | ktr_room | ((simp only [Mine.mark_depth, depth_under_make, depth_under_kw, depth_in1, depth_deeper, depth_caller]); (try dsimp only [ktrTop]); (try simp only [recursionLimit] at *); omega))
local macro_rules | `(tactic| k_all) => `(tactic| first | assumption | exact Mine.offLt (by assumption) | exact Mine.offLt2 (by assumption) (by assumption) | (refine List.forall_mem_append.mpr ⟨?a, ?b⟩; (case a => k_all); (case b => k_all)))
local macro_rules | `(tactic| walk_at "setItem ref str") => `(tactic| (k_here; k_dflt (refine' kda_setB (knd := PySem.strKind _ _) ?F ?N ?hm ?d (strKind_is _ _ _ _) ?z ?_; (case F => k_asm); (case N => k_asm); (case hm => k_mem); (case d => k_asm); (case z => k_asm)); intro h' o' F' N' hd'))
local macro_rules | `(tactic| walk_at "compareOp Is str ref") => `(tactic| (k_here; refine wpAny_is_other (by rfl) (by intro x; cases x) ?_))
local macro_rules | `(tactic| k_mem) => `(tactic| assumption)
local macro_rules | `(tactic| walk_at "eval Name") => `(tactic| (k_here; (with_reducible show wpAny _ _ (eval (Expr.Name _ _) (envOf _ _ _ _ _)) _ _ _); k_dflt (refine' ld ?k1 ?k2 ?_; (case k1 => k_asm); (case k2 => first | exact rfl | assumption); k_whole)))
local macro_rules | `(tactic| walk_at "eval Name") => `(tactic| (k_here; (with_reducible show wpAny _ _ (eval (Expr.Name _ _) (envOfC _ _ _ _ _)) _ _ _); k_dflt (refine' nameX_L ?F ?v ?_ ?a ?b; (case F => k_asm); (case a => rfl); (case b => rfl); (case v => first | rfl | assumption); k_whole)))
local macro_rules | `(tactic| walk_at "subscriptTail") => `(tactic| (k_here; (with_reducible show wpAny _ _ (subscriptTail _ _ (Value.ref _) (Value.int (-1) _)) _ _ _); k_dflt (refine' neg1_get ?k1 ?k2 ?k3 ?_ ?k4; (case k1 => k_asm); (case k2 => k_mem); (case k3 => k_asm); (case k4 => with_unfolding_all rfl); k_whole)))
local macro_rules | `(tactic| walk_at "setItem ref int") => `(tactic| (k_here; (with_reducible show wpAny _ _ (setItem (Value.ref _) (Value.int (-1) _) _) _ _ _); k_dflt (refine' neg1_set ?k1 ?k2 ?k3 ?k4 ?_; (case k1 => k_asm); (case k2 => k_asm); (case k3 => k_upd); (case k4 => k_asm); k_whole); intro h' F' N'; (try k_sweep)))
def isSp (c : Nat) : Bool := Txt.isspace ⟨#[c]⟩
def kindOf (c : Nat) : Str := if c = 40 ∨ c = 41 then "parens" else if isSp c = true then "space" else "text"
def splitStep (st : List Str × Str) (c : Nat) : List Str × Str :=
  if kindOf c = st.2 ∧ kindOf c ≠ "parens" then (st.1.dropLast ++ [st.1.getLastD "" ++ ⟨#[c]⟩], kindOf c) else (st.1 ++ [⟨#[c]⟩], kindOf c)
def splitAt (x : Str) (i : Nat) : List Str × Str := (x.cps.toList.take i).foldl splitStep ([], "")
def splitTok (x : Str) : List Str := (splitAt x x.cps.size).1
theorem splitAt_succ {x : Str} {i c : Nat} (h : x.cps[i]? = some c) : splitAt x (i + 1) = splitStep (splitAt x i) c := by
  unfold splitAt
  have : x.cps.toList[i]? = some c := by simpa using h
  rw [List.take_add_one, this, List.foldl_append]; rfl

def tot (l : List Str) : Nat := (l.map Str.length).sum
theorem str_app_len (a b : Str) : (a ++ b).length = a.length + b.length := by
  show (a.cps ++ b.cps).size = _
  simp [Str.length]
theorem tot_step (st : List Str × Str) (c : Nat) : tot (splitStep st c).1 = tot st.1 + 1 := by
  have e1 : Str.length ⟨#[c]⟩ = 1 := rfl
  unfold splitStep
  split
  · rcases List.eq_nil_or_concat st.1 with h | ⟨us, u, h⟩
    · rw [h]; rfl
    · rw [h]
      simp [tot, str_app_len, e1]; omega
  · simp [tot, e1]
theorem len_step (st : List Str × Str) (c : Nat) : (splitStep st c).1.length ≤ st.1.length + 1 := by
  unfold splitStep
  split <;> simp
theorem fold_tot (cs : List Nat) : ∀ st : List Str × Str, tot (cs.foldl splitStep st).1 = tot st.1 + cs.length := by
  induction cs with
  | nil => intro st; rfl
  | cons c r ih => intro st; rw [List.foldl_cons, ih, tot_step, List.length_cons]; omega
theorem fold_len (cs : List Nat) : ∀ st : List Str × Str, (cs.foldl splitStep st).1.length ≤ st.1.length + cs.length := by
  induction cs with
  | nil => intro st; exact Nat.le_refl _
  | cons c r ih => intro st; rw [List.foldl_cons]; have := ih (splitStep st c); have := len_step st c; rw [List.length_cons]; omega
theorem splitAt_tot (x : Str) (i : Nat) : tot (splitAt x i).1 ≤ x.length := by
  unfold splitAt; rw [fold_tot]; simp [tot, Str.length]; omega
theorem splitAt_len (x : Str) (i : Nat) : (splitAt x i).1.length ≤ x.length := by
  unfold splitAt
  have h := fold_len (x.cps.toList.take i) ([], "")
  have h2 : (x.cps.toList.take i).length ≤ x.length := by simp [Str.length]; omega
  simp only [List.length_nil] at h; omega
theorem last_le_tot {l : List Str} (h : l ≠ []) (d : Str) : (l.getLastD d).length ≤ tot l := by
  rcases List.eq_nil_or_concat l with e | ⟨us, u, e⟩
  · exact absurd e h
  · rw [e]; simp [tot]
theorem mem_le_tot {l : List Str} {y : Str} (h : y ∈ l) : y.length ≤ tot l := by
  induction l with
  | nil => cases h
  | cons z l ih =>
    have e : tot (z :: l) = z.length + tot l := by simp [tot]
    rcases List.mem_cons.mp h with rfl | h
    · omega
    · have := ih h; omega
theorem fold_ne (cs : List Nat) : ∀ st : List Str × Str, (st.1 = [] → st.2 = "") → (cs.foldl splitStep st).1 = [] → (cs.foldl splitStep st).2 = "" := by
  induction cs with
  | nil => intro st h; exact h
  | cons c r ih =>
    intro st h
    rw [List.foldl_cons]
    refine ih _ (fun e => ?_)
    unfold splitStep at e
    split at e <;> simp at e
theorem splitAt_ne (x : Str) (i : Nat) : (splitAt x i).1 = [] → (splitAt x i).2 = "" := fold_ne _ _ (fun _ => rfl)

theorem occ_par : ∀ c, c < 128 → (Builtin.Str.occurrences (Str.ofString "()") ⟨#[c]⟩ 0 (Str.ofString "()").length 1).isEmpty = !(decide (c = 40) || decide (c = 41)) := by decide +kernel
theorem kind_par {c : Nat} (h : c < 128) (e : (Builtin.Str.occurrences (Str.ofString "()") ⟨#[c]⟩ 0 (Str.ofString "()").length 1).isEmpty = false) : kindOf c = "parens" := by
  rw [occ_par c h] at e
  unfold kindOf
  rw [if_pos (by simp only [Bool.not_eq_false', Bool.or_eq_true, decide_eq_true_eq] at e; exact e)]
theorem kind_sp {c : Nat} (h : c < 128) (e : (Builtin.Str.occurrences (Str.ofString "()") ⟨#[c]⟩ 0 (Str.ofString "()").length 1).isEmpty = true) (e2 : Txt.isspace ⟨#[c]⟩ = true) : kindOf c = "space" := by
  rw [occ_par c h] at e
  unfold kindOf isSp
  rw [if_neg (by simpa using e), if_pos e2]
theorem kind_tx {c : Nat} (h : c < 128) (e : (Builtin.Str.occurrences (Str.ofString "()") ⟨#[c]⟩ 0 (Str.ofString "()").length 1).isEmpty = true) (e2 : Txt.isspace ⟨#[c]⟩ = false) : kindOf c = "text" := by
  rw [occ_par c h] at e
  unfold kindOf isSp
  rw [if_neg (by simpa using e), if_neg (by rw [e2]; decide)]
theorem par_sp : (Str.ofString "space" = Str.ofString "parens") = False := by simp; decide
theorem par_tx : (Str.ofString "text" = Str.ofString "parens") = False := by simp; decide
theorem step_same {st : List Str × Str} {c : Nat} {k : Str} (hk : kindOf c = k) (h : (k == st.2) = true) (hp : (k == Str.ofString "parens") = false) : splitStep st c = (st.1.dropLast ++ [st.1.getLastD ⟨#[]⟩ ++ ⟨#[c]⟩], k) := by
  unfold splitStep
  rw [hk, if_pos ⟨by simpa using h, by simpa using hp⟩]; rfl
theorem step_new {st : List Str × Str} {c : Nat} {k : Str} (hk : kindOf c = k) (h : (k == st.2) = false) : splitStep st c = (st.1 ++ [⟨#[c]⟩], k) := by
  unfold splitStep
  rw [hk, if_neg (fun q => by simp [q.1] at h)]
theorem step_par {st : List Str × Str} {c : Nat} (hk : kindOf c = "parens") : splitStep st c = (st.1 ++ [⟨#[c]⟩], Str.ofString "parens") := by
  unfold splitStep
  rw [hk, if_neg (fun q => q.2 rfl)]

section
variable {prog : Program} {w : World} {dp un : Nat} {gd : Option (List Code)} {cn : Str} {cs : Scope} {a : Addr} {ccd : Value} {cl : List (Str × Addr)} {outer : List Env} {base h₀ : Heap} {L : Addr} {m : Str → Option Value} {news : List (Addr × Obj)} {s : Shared} {Q E : Value → Shared → Prop}
set_option maxRecDepth 100000
set_option maxHeartbeats 8000000
theorem split_spec {x : Str} {t : Tok} (C : Cx (Mine.hd.heap_39 w.params) cs outer base h₀ L s.heap m news) (hd : dp + 10 < recursionLimit) (hu : un + 100 < cLine) (hx : x.length ≤ 1000) (ha : x.cps.all (· < 128) = true)
   (hQ : ∀ h' tk' l vs n, Cx (Mine.hd.heap_39 w.params) cs outer base h₀ L h' m ((l, listOf vs.toArray n) :: news) → (∀ p ∈ news, p.1 < l) → StrsAre vs (splitTok x) → Q (.ref l) { s with heap := h', toks := tk' }) :
   wpAny (model prog w) (ktrTop dp un gd cn cs L a ccd cl outer) (call (.ref 279) [.str x t]) Q E s := by
  obtain ⟨⟨A0, B0⟩, F0, XB0, N0, ⟨p0, loose0, mean0, mg0, mb0, TB0⟩, D0, hk0⟩ := id C
  have X0 := XB0.keeps B0.stays
  have T0 := TB0.keeps B0.stays
  refine wpAny_call ?_
  k_dflt (refine' enterC C ?kA ?kF ?kK ?k6 ?k7 ?k8 ?k9 ?kB ?_ ?c2 ?c3 ?c4 ?c5; (case kA => exact rfl); (case kF => exact rfl); (case kK => exact hk0); (case k6 => k_is); (case k7 => k_is); (case k8 => (show dp < _; omega)); (case k9 => first | exact BindsTo.of_eq rfl | exact binds_K (by k_in) rfl (by k_is) rfl rfl rfl); (case kB => exact locs rfl); (case c2 => exact rfl); (case c3 => exact rfl); (case c4 => exact rfl); (case c5 => decide); k_whole)
  intro g L1 hh1 C1 hlt1
  clear B0 F0 N0 X0 T0 D0
  obtain ⟨⟨A1, B1⟩, F1, XB1, N1, ⟨p1, loose1, mean1, mg1, mb1, TB1⟩, D1, hk1⟩ := id C1
  have X1 := XB1.keeps B1.stays
  have T1 := TB1.keeps B1.stays
  dsimp only
  try k_fold
  k_steps
  refine Mine.Stop.off ?_
  (rename Fr _ _ _ _ => lF); (with_unfolding_all refine' For_invVF lF ?k1 ?k2 ?_; (case k1 => exact rfl); (case k2 => exact rfl); k_whole)
  k_steps
  rename_i l h2 hlt h4 h0 lN
  refine iter_strJ (fun i m' nx => m' "found" = some (.ref l) ∧ (∃ t, m' "last" = some (.str (splitAt x i).2 t)) ∧ ∃ vs n, nx = (l, listOf vs.toArray n) :: news ∧ StrsAre vs (splitAt x i).1) (by rfl) ha lF lN ⟨rfl, ⟨_, rfl⟩, [], 0, rfl, .nil⟩ ?_ ?_
  · rintro i c u m₁ news₁ I own h tk hc ⟨hm1, ⟨tl, hm2⟩, vs, n, rfl, hvs⟩ hown hoff ⟨oI, hoI⟩ F₁ N₁
    clear lF lN
    replace N₁ : News _ _ _ ((l, listOf vs.toArray n) :: (news ++ own)) := N₁
    have hlI : l ≠ I := hoff _ (.head _)
    have hownl : ∀ p ∈ own, p.1 ≠ l := fun p hp e => hlI (e ▸ (hown p hp))
    have hxl := splitAt_len x i
    have hc128 : c < 128 := by
      have := Array.all_eq_true_iff_forall_mem.mp ha c (Array.mem_of_getElem? hc)
      simpa using this
    have hsz : vs.length ≤ 1000 := by rw [strs_len hvs]; omega
    have hxt := splitAt_tot x i
    have hxe := splitAt_ne x i
    by_cases hne : (splitAt x i).1 = []
    · have hl2 := hxe hne
      rw [hl2] at hm2
      try k_fold
      k_steps
      all_goals (
        show TurnEnd _ _ _ _ _ _ _
        have hstep := splitAt_succ hc
        first
          | rw [step_par (kind_par hc128 (by assumption))] at hstep
          | rw [step_new (kind_sp hc128 (by assumption) (by assumption)) (by rw [hl2]; decide)] at hstep
          | rw [step_new (kind_tx hc128 (by assumption) (by assumption)) (by rw [hl2]; decide)] at hstep
        rename News _ _ _ _ => nE
        rename Fr _ _ _ _ => fE
        rw [List.push_toArray] at nE
        refine TurnEnd.app (nx := (_, _) :: news) fE nE (offSame (by rfl) hoff) ⟨hm1, ⟨_, by rw [hstep]; rfl⟩, _, _, rfl, ?_⟩
        rw [hstep]
        first | exact strs_snoc hvs _ _ | exact strs_snoc (strs_dropLast hvs) _ _)
    · obtain ⟨tlast, hlast⟩ := strs_last hvs hne
      have hpos : 0 < vs.length := by rw [strs_len hvs]; exact List.length_pos_iff.mpr hne
      have hll := last_le_tot hne ⟨#[]⟩
      have hll2 : ((splitAt x i).1.getLastD ⟨#[]⟩).length ≤ 1000 := by omega
      have hcl : Str.length ⟨#[c]⟩ = 1 := rfl
      try k_fold
      k_steps
      all_goals (
        show TurnEnd _ _ _ _ _ _ _
        have hstep := splitAt_succ hc
        first
          | rw [step_par (kind_par hc128 (by assumption))] at hstep
          | rw [step_new (kind_sp hc128 (by assumption) (by assumption)) (by assumption)] at hstep
          | rw [step_new (kind_tx hc128 (by assumption) (by assumption)) (by assumption)] at hstep
          | rw [step_same (kind_sp hc128 (by assumption) (by assumption)) (by assumption) (by decide)] at hstep
          | rw [step_same (kind_tx hc128 (by assumption) (by assumption)) (by assumption) (by decide)] at hstep
        rename News _ _ _ _ => nE
        rename Fr _ _ _ _ => fE
        (try rw [List.push_toArray] at nE)
        refine TurnEnd.app (nx := (_, _) :: news) fE nE (offSame (by rfl) hoff) ⟨hm1, ⟨_, by rw [hstep]; rfl⟩, _, _, rfl, ?_⟩
        rw [hstep]
        first | exact strs_snoc hvs _ _ | exact strs_snoc (strs_dropLast hvs) _ _)
  · rintro m₁ nx h tk ⟨hm1, -, vs, n, rfl, hvs⟩ F₁ N₁
    clear lF lN
    dsimp only
    try k_fold
    k_steps
    refine leaveC0 (by assumption) (by assumption) fun C => hQ _ _ l vs n C hlt hvs
end
end Mine
end
section
theorem Mine.switch_S2 : True := by
  w_top off
  trivial
open Lean Elab Tactic Meta PySem PySem.W PySem.Calls PyProof.Rows
set_option pp.deepTerms false
set_option pp.maxSteps 800
set_option pp.deepTerms.threshold 5
namespace Mine
local macro_rules | `(tactic| walk_at "exec For Name Name cons nil") => `(tactic| (refine Mine.Stop.on ?_))
local macro_rules | `(tactic| walk_at "exec For Name Call cons nil") => `(tactic| (refine Mine.Stop.on ?_))
local macro_rules | `(tactic| walk_at "exec Assign cons ListComp") => `(tactic| (refine Mine.Stop.on ?_))
local macro_rules | `(tactic| walk_at "LeaveC") => `(tactic| fail "here")
local macro_rules | `(tactic| k_room) => `(tactic| first | ktr_room | ((simp only [Mine.mark_depth, depth_under_make, depth_under_kw, depth_in1, depth_deeper, depth_caller]); (try dsimp only [ktrTop]); (try simp only [recursionLimit] at *); omega))
local macro_rules | `(tactic| k_all) => `(tactic| first | assumption | exact Mine.offLt (by assumption) | exact Mine.offLt2 (by assumption) (by assumption) | (refine List.forall_mem_append.mpr ⟨?a, ?b⟩; (case a => k_all); (case b => k_all)))
local macro_rules | `(tactic| walk_at "setItem ref str") => `(tactic| (k_here; k_dflt (refine' kda_setB (knd := PySem.strKind _ _) ?F ?N ?hm ?d (strKind_is _ _ _ _) ?z ?_; (case F => k_asm); (case N => k_asm); (case hm => k_mem); (case d => k_asm); (case z => k_asm)); intro h' o' F' N' hd'))
local macro_rules | `(tactic| walk_at "compareOp Is str ref") => `(tactic| (k_here; refine wpAny_is_other (by rfl) (by intro x; cases x) ?_))
local macro_rules | `(tactic| k_mem) => `(tactic| assumption)
local macro_rules | `(tactic| walk_at "eval Name") => `(tactic| (k_here; (with_reducible show wpAny _ _ (eval (Expr.Name _ _) (envOf _ _ _ _ _)) _ _ _); k_dflt (refine' ld ?k1 ?k2 ?_; (case k1 => k_asm); (case k2 => first | exact rfl | assumption); k_whole)))
local macro_rules | `(tactic| walk_at "eval Name") => `(tactic| (k_here; (with_reducible show wpAny _ _ (eval (Expr.Name _ _) (envOfC _ _ _ _ _)) _ _ _); k_dflt (refine' nameX_L ?F ?v ?_ ?a ?b; (case F => k_asm); (case a => rfl); (case b => rfl); (case v => first | rfl | assumption); k_whole)))
local macro_rules | `(tactic| walk_at "call ref") => `(tactic| ((with_reducible show wpAny _ _ (call (Value.ref 279) _) _ _ _); refine Mine.Stop.on ?_))
theorem lo1_lt (c : Nat) (h : c < 128) : lo1 c < 128 := by revert c; decide +kernel
theorem lower_len {x : Str} (ha : x.cps.all (· < 128) = true) : (Txt.lower x).length = x.length ∧ (Txt.lower x).cps.all (· < 128) = true := by
  have h : ∀ c ∈ x.cps.toList, c < 128 := fun c hc => by
    have := Array.all_eq_true_iff_forall_mem.mp ha c (Array.mem_toList_iff.mp hc)
    simpa using this
  rw [lower_ascii h]
  refine ⟨by simp [Str.length], ?_⟩
  rw [Array.all_eq_true_iff_forall_mem]
  intro c hc
  obtain ⟨d, hd, rfl⟩ := Array.mem_map.mp hc
  exact decide_eq_true (lo1_lt d (h d (Array.mem_toList_iff.mpr hd)))
section
variable {prog : Program} {w : World} {dp un : Nat} {gd : Option (List Code)} {cn : Str} {cs : Scope} {a : Addr} {ccd : Value} {cl : List (Str × Addr)} {outer : List Env} {base h₀ : Heap} {L : Addr} {m : Str → Option Value} {news : List (Addr × Obj)} {s : Shared} {Q E : Value → Shared → Prop}
set_option maxRecDepth 100000
set_option maxHeartbeats 8000000
theorem get_spec {x : Str} {t : Tok} (C : Cx (Mine.hd.heap_39 w.params) cs outer base h₀ L s.heap m news) (hd : dp + 20 < recursionLimit) (hu : un + 200 < cLine) (hx : x.length ≤ 1000) (ha : x.cps.all (· < 128) = true)
   (hQ : ∀ h' tk' l vs n, Cx (Mine.hd.heap_39 w.params) cs outer base h₀ L h' m ((l, listOf vs.toArray n) :: news) → (∀ p ∈ news, p.1 < l) → StrsAre vs (splitTok (Txt.lower x)) → Q (.ref l) { s with heap := h', toks := tk' }) :
   wpAny (model prog w) (ktrTop dp un gd cn cs L a ccd cl outer) (call (.ref 286) [.str x t]) Q E s := by
  obtain ⟨⟨A0, B0⟩, F0, XB0, N0, ⟨p0, loose0, mean0, mg0, mb0, TB0⟩, D0, hk0⟩ := id C
  have X0 := XB0.keeps B0.stays
  have T0 := TB0.keeps B0.stays
  refine wpAny_call ?_
  k_dflt (refine' enterC C ?kA ?kF ?kK ?k6 ?k7 ?k8 ?k9 ?kB ?_ ?c2 ?c3 ?c4 ?c5; (case kA => exact rfl); (case kF => exact rfl); (case kK => exact hk0); (case k6 => k_is); (case k7 => k_is); (case k8 => (show dp < _; omega)); (case k9 => first | exact BindsTo.of_eq rfl | exact binds_K (by k_in) rfl (by k_is) rfl rfl rfl); (case kB => exact locs rfl); (case c2 => exact rfl); (case c3 => exact rfl); (case c4 => exact rfl); (case c5 => decide); k_whole)
  intro g L1 hh1 C1 hlt1
  clear B0 F0 N0 X0 T0 D0
  obtain ⟨⟨A1, B1⟩, F1, XB1, N1, ⟨p1, loose1, mean1, mg1, mb1, TB1⟩, D1, hk1⟩ := id C1
  have X1 := XB1.keeps B1.stays
  have T1 := TB1.keeps B1.stays
  dsimp only
  try k_fold
  obtain ⟨hl1, hl2⟩ := lower_len ha
  k_steps
  refine Stop.off ?_
  k_dflt (refine split_spec ⟨⟨_, B1⟩, by assumption, XB1, by assumption, ⟨_, _, _, _, _, TB1⟩, D1, hk1⟩ ?_ ?_ (by rw [hl1]; exact hx) hl2 ?_)
  · show dp + 1 + 10 < recursionLimit; omega
  · show un + 3 + 100 < cLine; omega
  intro h2 tk2 l vs n C2 hlt hvs
  have F2 := C2.F
  have N2 := C2.N
  k_steps
  refine leaveC0 C2.F C2.N fun C => hQ _ _ l vs n C hlt hvs
end
end Mine
end
section
local macro_rules | `(tactic| walk_at "none such") => `(tactic| fail "none such")
theorem Mine.switch_S3 : True := by
  w_top off
  trivial
open Lean Elab Tactic Meta PySem PySem.W PySem.Calls PyProof.Rows
set_option pp.deepTerms false
set_option pp.maxSteps 800
set_option pp.deepTerms.threshold 5
namespace Mine
local macro_rules | `(tactic| walk_at "exec For Name Name cons nil") => `(tactic| (refine Mine.Stop.on ?_))
local macro_rules | `(tactic| walk_at "exec For Name Call cons nil") => `(tactic| (refine Mine.Stop.on ?_))
local macro_rules | `(tactic| walk_at "exec Assign cons ListComp") => `(tactic| (refine Mine.Stop.on ?_))
local macro_rules | `(tactic| walk_at "LeaveC") => `(tactic| fail "here")
local macro_rules | `(tactic| k_room) => `(tactic| first | ktr_room | ((simp only [Mine.mark_depth, depth_under_make, depth_under_kw, depth_in1, depth_deeper, depth_caller]); (try dsimp only [ktrTop]); (try simp only [recursionLimit] at *); omega))
local macro_rules | `(tactic| k_all) => `(tactic| first | assumption | exact Mine.offLt (by assumption) | exact Mine.offLt2 (by assumption) (by assumption) | (refine List.forall_mem_append.mpr ⟨?a, ?b⟩; (case a => k_all); (case b => k_all)))
local macro_rules | `(tactic| walk_at "setItem ref str") => `(tactic| (k_here; k_dflt (refine' kda_setB (knd := PySem.strKind _ _) ?F ?N ?hm ?d (strKind_is _ _ _ _) ?z ?_; (case F => k_asm); (case N => k_asm); (case hm => k_mem); (case d => k_asm); (case z => k_asm)); intro h' o' F' N' hd'))
local macro_rules | `(tactic| walk_at "compareOp Is str ref") => `(tactic| (k_here; refine wpAny_is_other (by rfl) (by intro x; cases x) ?_))
local macro_rules | `(tactic| k_mem) => `(tactic| assumption)
local macro_rules | `(tactic| walk_at "eval Name") => `(tactic| (k_here; (with_reducible show wpAny _ _ (eval (Expr.Name _ _) (envOf _ _ _ _ _)) _ _ _); k_dflt (refine' ld ?k1 ?k2 ?_; (case k1 => k_asm); (case k2 => first | exact rfl | assumption); k_whole)))
local macro_rules | `(tactic| walk_at "eval Name") => `(tactic| (k_here; (with_reducible show wpAny _ _ (eval (Expr.Name _ _) (envOfC _ _ _ _ _)) _ _ _); k_dflt (refine' nameX_L ?F ?v ?_ ?a ?b; (case F => k_asm); (case a => rfl); (case b => rfl); (case v => first | rfl | assumption); k_whole)))
local macro_rules | `(tactic| walk_at "call ref") => `(tactic| ((with_reducible show wpAny _ _ (call (Value.ref 286) _) _ _ _); refine Mine.Stop.on ?_))
def nonblank (x : Str) : Bool := decide ((Txt.strip x).length ≠ 0)
theorem new_turn {prog : Program} {w : World} {cN nilA : Addr} {outer : List Env} {g2 g3 h6 : Heap} {L I : Addr} {own rest2 led4 : List (Addr × Obj)} {tk : Nat} {s₁ : Shared} {nd nd' : List Nd} {st : List (List Str) × List Str} {j : Nat} {n : Nd} (nn : Nd) {y : Str} {ty : Tok} {o6 : Obj} {Jn : (Str → Option Value) → List (Addr × Obj) → Prop} {m6 : Str → Option Value}
    (T : KtsTurn (frs outer) g2 g3) (F : Fr g3 L h6 m6) (N : News g3 L h6 ((n.c, o6) :: but n.c ((nn.c, nn.oc) :: (nn.a, nodeObj cN nn) :: (nn.dx, dictOf [] 0) :: led4)))
    (hled : objsOf cN nd' ++ rest2 ++ own = led4) (hap : Apart (objsOf cN nd' ++ rest2)) (hn' : NodesOk prog w nd' st.1) (hj : st.1[j]? = some st.2) (hnj : nd'[j]? = some n) (hext : Ext nilA nd nd') (hin : st.2 ++ [y] ∉ st.1)
    (hoff : ∀ p ∈ objsOf cN nd' ++ rest2, p.1 ≠ I) (hIo : ∃ o, (I, o) ∈ own) (hownc : ∀ p ∈ own, p.1 ≠ n.c)
    (h1 : ∀ p ∈ led4, p.1 < nn.dx) (h2 : nn.dx < nn.a) (h3 : nn.a < nn.c ∧ nn.dx < nn.c ∧ AllLt nn.c led4) (hlo : (nn.c == sysModules) = false)
    (hs : nn.oc.IsDictOf (strKind prog w) []) (ht : nn.tok = .str y ty) (ho : nn.out = .ref nilA) (hf : nn.fail = .ref nilA)
    (hd6 : o6.IsDictOf (strKind prog w) (stored (kvsOf nd' st.1 st.2) y (.ref nn.a)))
    (hJ : ∀ nd'' j', adOf nd'' j' = nn.a → NodesOk prog w nd'' (addStep st y).1 → (addStep st y).1[j']? = some (addStep st y).2 → Apart (objsOf cN nd'' ++ rest2) → Ext nilA nd nd'' → Jn m6 (objsOf cN nd'' ++ rest2)) :
    TurnEndC outer g2 L I own Jn s₁ { s₁ with heap := h6, toks := tk } := by
  have hstep : addStep st y = (st.1 ++ [st.2 ++ [y]], st.2 ++ [y]) := by unfold addStep; rw [if_neg hin]
  have hsame : Same nd' (nd'.set j { n with oc := o6 }) := same_set hnj _ rfl
  have hL := same_len hsame
  have hin4 : ∀ p ∈ objsOf cN nd' ++ rest2, p ∈ led4 := fun p hp => hled ▸ List.mem_append_left _ hp
  have hnc : (n.c, n.oc) ∈ led4 := hin4 _ (List.mem_append_left _ (mem_objs.mpr ⟨j, n, hnj, .tail _ (.tail _ (.head _))⟩))
  have hncl : n.c < nn.dx := h1 _ hnc
  have hI : I < nn.dx := by
    obtain ⟨o, ho⟩ := hIo
    exact h1 _ (hled ▸ List.mem_append_right _ ho)
  have h31 : nn.a < nn.c := h3.1
  have hbig : ∀ p ∈ nn.objs cN, nn.dx ≤ p.1 := fun p hp => by
    unfold Nd.objs at hp
    simp only [List.mem_cons, List.not_mem_nil, or_false] at hp
    rcases hp with rfl | rfl | rfl
    · exact Nat.le_of_lt h2
    · exact Nat.le_refl _
    · exact Nat.le_of_lt (Nat.lt_trans h2 h31)
  have hset : ∀ p ∈ objsOf cN (nd'.set j { n with oc := o6 }) ++ rest2, p.1 < nn.dx := fun p hp => by
    obtain ⟨q, hq, e⟩ := same_addr hsame hp
    rw [← e]; exact h1 _ (hin4 q hq)
  have hapn : Apart (objsOf cN (nd'.set j { n with oc := o6 } ++ [nn]) ++ rest2) := by
    refine apart_snoc (apart_same hsame hap) (fun p hp => ?_) (fun p hp => ?_) (fun p hp => ?_) (Nat.ne_of_gt h2) (Nat.ne_of_lt h31) (Nat.ne_of_lt (Nat.lt_trans h2 h31))
    · exact Nat.ne_of_lt (Nat.lt_trans (hset p hp) h2)
    · exact Nat.ne_of_lt (hset p hp)
    · exact Nat.ne_of_lt (Nat.lt_trans (hset p hp) (Nat.lt_trans h2 h31))
  refine TurnEndC.mk (objsOf cN (nd'.set j { n with oc := o6 } ++ [nn]) ++ rest2) T F N (fun p hp => ?_) (objs_put hap hnj (fun p hp => .tail _ (.tail _ (.tail _ (hin4 p hp)))) (fun p hp => ?_) (fun p hp => ?_)) (fun p hp => ?_) (hJ _ st.1.length ?_ ?_ ?_ hapn (hext.add hnj ho hf))
  · exact mem_put (.tail _ (.tail _ (.tail _ (hled ▸ List.mem_append_right _ hp)))) (hownc p hp)
  · unfold Nd.objs at hp
    simp only [List.mem_cons, List.not_mem_nil, or_false] at hp
    rcases hp with rfl | rfl | rfl
    · exact .tail _ (.head _)
    · exact .tail _ (.tail _ (.head _))
    · exact .head _
  · exact Nat.ne_of_gt (Nat.lt_of_lt_of_le hncl (hbig p hp))
  · rw [objs_snoc, List.append_assoc] at hp
    rcases List.mem_append.mp hp with hp | hp
    · obtain ⟨q, hq, e⟩ := same_addr (r := []) hsame (List.mem_append_left _ hp)
      rw [← e]; exact hoff q (List.mem_append_left _ (by simpa using hq))
    · rcases List.mem_append.mp hp with hp | hp
      · exact Nat.ne_of_gt (Nat.lt_of_lt_of_le hI (hbig p hp))
      · exact hoff p (List.mem_append_right _ hp)
  · have := adOf_last (nd := nd'.set j { n with oc := o6 }) (n := nn)
    rwa [hL, hn'.len] at this
  · rw [hstep]; exact nodes_add hn' hj hnj hin hs hlo ht hd6
  · rw [hstep]; simp
theorem add_done {prog : Program} {w : World} {nilA cT cN : Addr} {H : TrieHd} {nd nd' : List Nd} {P' : List (List Str)} {O : List (Option (Str × Str))} {ks : List Str} {rest led4 : List (Addr × Obj)} {okd' oD : Obj} {D ta : Addr} {j : Nat} {n : Nd} {x y : Str} {t u : Tok}
    (hap : Apart (objsOf cN nd' ++ ((H.tr, { cls := .ref cT, dict := some H.dx, data := .plain }) :: (H.dx, dictOf (hdEnts w.params false H (adOf nd 0)) 3) :: (H.kd, okd') :: (D, oD) :: rest)))
    (hled : objsOf cN nd' ++ ((H.tr, { cls := .ref cT, dict := some H.dx, data := .plain }) :: (H.dx, dictOf (hdEnts w.params false H (adOf nd 0)) 3) :: (H.kd, okd') :: (D, oD) :: rest) = led4)
    (hl : ∀ p ∈ led4, p.1 < ta) (hn' : NodesOk prog w nd' P') (hnj : nd'[j]? = some n) (hext : Ext nilA nd nd') (houts : Outs nilA nd O rest) (hfails : ∀ (i : Nat) (n : Nd), nd[i]? = some n → n.fail = .ref nilA)
    (hok : okd'.IsDictOf (strKind prog w) (kvKnown ks)) (h0 : 0 < nd.length) :
    (∀ p ∈ hdObjs w.params cT false { H with okd := okd' } (adOf (nd'.set j { n with out := .ref ta }) 0) ++ (objsOf cN (nd'.set j { n with out := .ref ta }) ++ ((ta, pairObj x t y u) :: rest)), p ∈ (n.a, nodeObj cN { n with out := .ref ta }) :: but n.a ((ta, pairObj x t y u) :: led4)) ∧
    TrieS prog w nilA cT cN { H with okd := okd' } (nd'.set j { n with out := .ref ta }) P' (addOut O ((nd'.set j { n with out := .ref ta }).length - nd.length) j (x, y)) ks ((ta, pairObj x t y u) :: rest) ∧ adOf (nd'.set j { n with out := .ref ta }) 0 = adOf nd 0 := by
  have hS : Same nd' (nd'.set j { n with out := .ref ta }) := same_set hnj _ rfl
  have hroot : adOf (nd'.set j { n with out := .ref ta }) 0 = adOf nd 0 := by rw [same_ad hS, hext.ad h0]
  obtain ⟨a1, a2, a3⟩ := apart_app.mp hap
  have hin : ∀ p ∈ objsOf cN nd' ++ ((H.tr, { cls := .ref cT, dict := some H.dx, data := .plain }) :: (H.dx, dictOf (hdEnts w.params false H (adOf nd 0)) 3) :: (H.kd, okd') :: (D, oD) :: rest), p ∈ led4 := fun p hp => hled ▸ hp
  have hna : (n.a, nodeObj cN n) ∈ objsOf cN nd' := mem_objs.mpr ⟨j, n, hnj, .head _⟩
  have hta : n.a < ta := hl _ (hin _ (List.mem_append_left _ hna))
  refine ⟨fun p hp => ?_, ⟨nodes_out hn' hnj _ _, hok, ?_, fun i m hm => ?_, ?_⟩, hroot⟩
  · rw [hroot] at hp
    have key : ∀ q ∈ (H.tr, ({ cls := .ref cT, dict := some H.dx, data := .plain } : Obj)) :: (H.dx, dictOf (hdEnts w.params false H (adOf nd 0)) 3) :: (H.kd, okd') :: (D, oD) :: rest, q ∈ (n.a, nodeObj cN { n with out := .ref ta }) :: but n.a ((ta, pairObj x t y u) :: led4) := fun q hq =>
      mem_put (.tail _ (hin q (List.mem_append_right _ hq))) (a3 _ hna q hq).symm
    rcases List.mem_append.mp hp with hp | hp
    · unfold hdObjs at hp
      simp only [List.mem_cons, List.not_mem_nil, or_false] at hp
      rcases hp with rfl | rfl | rfl
      · exact key _ (.head _)
      · exact key _ (.tail _ (.head _))
      · exact key _ (.tail _ (.tail _ (.head _)))
    · rcases List.mem_append.mp hp with hp | hp
      · exact objs_turn (n' := { n with out := .ref ta }) hap hnj (fun p hp => .tail _ (hin p hp)) rfl p (List.mem_append_left _ hp)
      · rcases List.mem_cons.mp hp with rfl | hp
        · exact mem_put (.head _) (Nat.ne_of_gt hta)
        · exact key p (.tail _ (.tail _ (.tail _ (.tail _ hp))))
  · rw [List.length_set]; exact houts.add hext hnj
  · have hf : ∀ (i : Nat) (m : Nd), nd'[i]? = some m → m.fail = .ref nilA := fun i m hm => by
      by_cases hlt : i < nd.length
      · obtain ⟨m', hm', -, -, -, e⟩ := hext.old i nd[i] (by simp [hlt])
        rw [hm] at hm'; cases hm'
        rw [e]; exact hfails i _ (by simp [hlt])
      · exact (hext.new i m hm (by omega)).2
    by_cases hij : j = i
    · subst hij
      rw [List.getElem?_set_self (List.getElem?_eq_some_iff.mp hnj).1] at hm
      cases hm
      exact hf j n hnj
    · rw [List.getElem?_set_ne hij] at hm
      exact hf i m hm
  · obtain ⟨b1, b2⟩ := apart_cons.mp a2
    obtain ⟨b3, b4⟩ := apart_cons.mp b2
    obtain ⟨b5, b6⟩ := apart_cons.mp b4
    obtain ⟨b7, b8⟩ := apart_cons.mp b6
    have hold : ∀ q ∈ objsOf cN (nd'.set j { n with out := .ref ta }), ∃ q' ∈ objsOf cN nd', q'.1 = q.1 := fun q hq => by
      obtain ⟨q', h1, h2⟩ := same_addr (r := []) hS (List.mem_append_left _ hq)
      exact ⟨q', by simpa using h1, h2⟩
    have hlt : ∀ q ∈ (H.tr, ({ cls := .ref cT, dict := some H.dx, data := .plain } : Obj)) :: (H.dx, dictOf (hdEnts w.params false H (adOf nd 0)) 3) :: (H.kd, okd') :: (D, oD) :: rest, q.1 < ta := fun q hq => hl _ (hin q (List.mem_append_right _ hq))
    have off : ∀ (q : Addr × Obj), q ∈ (H.tr, ({ cls := .ref cT, dict := some H.dx, data := .plain } : Obj)) :: (H.dx, dictOf (hdEnts w.params false H (adOf nd 0)) 3) :: (H.kd, okd') :: (D, oD) :: rest → (∀ p ∈ rest, p.1 ≠ q.1) → ∀ p ∈ objsOf cN (nd'.set j { n with out := .ref ta }) ++ ((ta, pairObj x t y u) :: rest), p.1 ≠ q.1 := fun q hq hr p hp => by
      rcases List.mem_append.mp hp with hp | hp
      · obtain ⟨p', h1, h2⟩ := hold p hp
        rw [← h2]; exact a3 p' h1 q hq
      · rcases List.mem_cons.mp hp with rfl | hp
        · exact Nat.ne_of_gt (hlt q hq)
        · exact hr p hp
    unfold hdObjs
    simp only [List.cons_append, List.nil_append]
    rw [apart_cons, apart_cons, apart_cons]
    refine ⟨?_, ?_, ?_, ?_⟩
    · intro p hp
      rcases List.mem_cons.mp hp with rfl | hp
      · exact b1 (H.dx, dictOf (hdEnts w.params false H (adOf nd 0)) 3) (.head _)
      rcases List.mem_cons.mp hp with rfl | hp
      · exact b1 (H.kd, okd') (.tail _ (.head _))
      · exact off _ (.head _) (fun p hp => b1 p (.tail _ (.tail _ (.tail _ hp)))) p hp
    · intro p hp
      rcases List.mem_cons.mp hp with rfl | hp
      · exact b3 (H.kd, okd') (.head _)
      · exact off (H.dx, dictOf (hdEnts w.params false H (adOf nd 0)) 3) (.tail _ (.head _)) (fun p hp => b3 p (.tail _ (.tail _ hp))) p hp
    · exact off (H.kd, okd') (.tail _ (.tail _ (.head _))) (fun p hp => b5 p (.tail _ hp))
    · rw [apart_app, apart_cons]
      refine ⟨((apart_app.mp (apart_same (r := []) hS (by simpa using a1))).1), ⟨fun p hp => Nat.ne_of_lt (hlt p (.tail _ (.tail _ (.tail _ (.tail _ hp))))), b8⟩, fun p hp q hq => ?_⟩
      obtain ⟨p', h1, h2⟩ := hold p hp
      rw [← h2]
      rcases List.mem_cons.mp hq with rfl | hq
      · exact Nat.ne_of_lt (hl _ (hin _ (List.mem_append_left _ h1)))
      · exact a3 p' h1 q (.tail _ (.tail _ (.tail _ (.tail _ hq))))
section
variable {prog : Program} {w : World} {dp un : Nat} {gd : Option (List Code)} {cn : Str} {cs : Scope} {a : Addr} {ccd : Value} {cl : List (Str × Addr)} {outer : List Env} {base h₀ : Heap} {L : Addr} {m : Str → Option Value} {news : List (Addr × Obj)} {s : Shared} {Q E : Value → Shared → Prop}
set_option maxRecDepth 100000
set_option maxHeartbeats 8000000
theorem add_spec {x y : Str} {t : Tok} {val : Value} {H : TrieHd} {nd : List Nd} {P : List (List Str)} {O : List (Option (Str × Str))} {ks : List Str} {rest : List (Addr × Obj)}
   (C : Cx (Mine.hd.heap_39 w.params) cs outer base h₀ L s.heap m (hdObjs w.params 171 false H (adOf nd 0) ++ (objsOf 71 nd ++ rest))) (hd : dp + 40 < recursionLimit) (hu : un + 300 < cLine) (hx : x.length ≤ 1000) (hx0 : x.length ≠ 0) (ha : x.cps.all (· < 128) = true)
   (hval : (val = .none ∧ y = x) ∨ (∃ u, val = .str y u ∧ y.length ≠ 0 ∧ y.length ≤ 1000)) (hT : TrieS prog w 44 171 71 H nd P O ks rest) (hksl : ks.length ≤ 1000) (hPl : P.length ≤ 1000)
   (hQ : ∀ h₀' h' tk' nd' okd' j ta tt u, KtsTurn (frs outer) h₀ h₀' → (addAll P ((splitTok (Txt.lower x)).filter nonblank))[j]? = some ((splitTok (Txt.lower x)).filter nonblank) → adOf nd' 0 = adOf nd 0 →
     Cx (Mine.hd.heap_39 w.params) cs outer base h₀' L h' m (hdObjs w.params 171 false { H with okd := okd' } (adOf nd' 0) ++ (objsOf 71 nd' ++ ((ta, pairObj x tt y u) :: rest))) →
     TrieS prog w 44 171 71 { H with okd := okd' } nd' (addAll P ((splitTok (Txt.lower x)).filter nonblank)) (addOut O (nd'.length - nd.length) j (x, y)) (((splitTok (Txt.lower x)).filter nonblank).foldl addKnown ks) ((ta, pairObj x tt y u) :: rest) → Q .none { s with heap := h', toks := tk' }) :
   wpAny (model prog w) (ktrTop dp un gd cn cs L a ccd cl outer) (call (.ref 97) [.ref H.tr, .str x t, val]) Q E s := by
  obtain ⟨⟨A0, B0⟩, F0, XB0, N0, ⟨p0, loose0, mean0, mg0, mb0, TB0⟩, D0, hk0⟩ := id C
  have X0 := XB0.keeps B0.stays
  have T0 := TB0.keeps B0.stays
  refine wpAny_call ?_
  k_dflt (refine' enterC C ?kA ?kF ?kK ?k6 ?k7 ?k8 ?k9 ?kB ?_ ?c2 ?c3 ?c4 ?c5; (case kA => exact rfl); (case kF => exact rfl); (case kK => exact hk0); (case k6 => k_is); (case k7 => k_is); (case k8 => (show dp < _; omega)); (case k9 => first | exact BindsTo.of_eq rfl | exact binds_K (by k_in) rfl (by k_is) rfl rfl rfl); (case kB => exact locs rfl); (case c2 => exact rfl); (case c3 => exact rfl); (case c4 => exact rfl); (case c5 => decide); k_whole)
  intro g L1 hh1 C1 hlt1
  clear B0 F0 N0 X0 T0 D0
  obtain ⟨⟨A1, B1⟩, F1, XB1, N1, ⟨p1, loose1, mean1, mg1, mb1, TB1⟩, D1, hk1⟩ := id C1
  have X1 := XB1.keeps B1.stays
  have T1 := TB1.keeps B1.stays
  dsimp only
  try k_fold
  obtain ⟨hn, hks, houts, hfails, hap⟩ := hT
  have htr : (H.tr, ({ cls := .ref 171, dict := some H.dx, data := .plain } : Obj)) ∈ hdObjs w.params 171 false H (adOf nd 0) ++ (objsOf 71 nd ++ rest) := .head _
  have hdx : (H.dx, dictOf (hdEnts w.params false H (adOf nd 0)) 3) ∈ hdObjs w.params 171 false H (adOf nd 0) ++ (objsOf 71 nd ++ rest) := .tail _ (.head _)
  have hkd : (H.kd, H.okd) ∈ hdObjs w.params 171 false H (adOf nd 0) ++ (objsOf 71 nd ++ rest) := .tail _ (.tail _ (.head _))
  obtain ⟨hne1, hne2, hne3, hne4, hap2⟩ := hd_ne hap
  generalize hled : hdObjs w.params 171 false H (adOf nd 0) ++ (objsOf 71 nd ++ rest) = led at *
  unfold hdEnts at hdx
  k_steps
  rotate_left
  · exfalso; omega
  refine Stop.off ?_
  k_dflt (refine LCt.Assign_ListComp_T (F₀ := by k_asm) (by rfl) (by with_unfolding_all rfl) (by with_unfolding_all rfl) (by decide) (by rfl) (by decide) (by rfl) (by rfl) (by rfl) ?_)
  k_steps
  refine Stop.off ?_
  k_dflt (refine get_spec ⟨⟨_, B1⟩, by assumption, XB1, by assumption, ⟨_, _, _, _, _, TB1⟩, D1, hk1⟩ ?_ ?_ hx ha ?_)
  · show dp + 1 + 20 < recursionLimit; omega
  · show un + 3 + 200 < cLine; omega
  intro h1 tk1 l1 vs1 n1 CC1 hltl hvs1
  have FF1 := CC1.F
  have NN1 := CC1.N
  have hvl : vs1.length ≤ 1000 := by rw [strs_len hvs1]; have := splitAt_len (Txt.lower x) (Txt.lower x).cps.size; have := (lower_len ha).1; unfold splitTok; omega
  k_dflt (refine LCt.CompSrcT.ledger (by rfl) FF1 NN1 (.head _) (by rw [sizeLine_eq, List.size_toArray]; omega) (fun _ => restT_ind (fun i ys nx => nx = (l1, listOf vs1.toArray n1) :: led ∧ StrsAre ys (((splitTok (Txt.lower x)).take i).filter nonblank)) ?_ ?_ _ 0 _ _ (Nat.zero_add _) ⟨rfl, .nil⟩))
  rotate_left
  · rintro i ys nx v I oI C oC D m₂ h tk E' hi ⟨rfl, hys⟩ hv hC hxv F N off ne
    obtain ⟨y, ty, hy, rfl⟩ := strs_at hvs1 (by simpa using hv)
    have hyl : y.length ≤ 1000 := by have := mem_le_tot (List.mem_of_getElem? hy); have := splitAt_tot (Txt.lower x) (Txt.lower x).cps.size; have := (lower_len ha).1; unfold splitTok at *; omega
    have hnext : (splitTok (Txt.lower x)).take (i + 1) = (splitTok (Txt.lower x)).take i ++ [y] := by rw [List.take_add_one, hy]; rfl
    k_steps
    · refine LCg.CompEnd.intro (by assumption) (by assumption) ((l1, listOf vs1.toArray n1) :: led) (fun p hp => hp) off (.inr ⟨_, .head _, rfl, _, rfl⟩) ⟨rfl, ?_⟩
      rw [hnext, List.filter_append, List.filter_cons, if_pos (by unfold nonblank; simp only [decide_eq_true_eq]; omega)]
      exact strs_snoc hys _ _
    · refine LCg.CompEnd.intro (by assumption) (by assumption) ((l1, listOf vs1.toArray n1) :: led) (fun p hp => hp) off (.inr ⟨_, .head _, rfl, _, rfl⟩) ⟨rfl, ?_⟩
      rw [hnext, List.filter_append, List.filter_cons, if_neg (by unfold nonblank; simp only [decide_eq_true_eq]; omega)]
      simpa using hys
  · rintro ys nx ⟨rfl, hys⟩ D h2 tk2 F2 N2 off2
    rw [List.size_toArray, List.take_of_length_le (Nat.le_of_eq (strs_len hvs1).symm)] at hys
    dsimp only
    try k_fold
    k_steps
    refine Stop.off ?_
    (rename Fr _ _ _ _ => lF; (with_unfolding_all refine' For_invVF lF ?k1 ?k2 ?_; (case k1 => exact rfl); (case k2 => exact rfl); k_whole))
    k_steps
    have hDl : ∀ p ∈ led, p.1 ≠ D := fun p hp => off1_mem off2 p (.tail _ hp)
    have hDk : H.kd ≠ D := hDl _ hkd
    have hysl : ys.length ≤ 1000 := by rw [strs_len hys]; exact Nat.le_trans (List.length_filter_le _ _) (by rw [← strs_len hvs1]; exact hvl)
    refine iter_listJ (l := D) (vs := ys) (news := (H.kd, H.okd) :: (D, LCg.lst ys) :: but H.kd led) (fun i m' nx => (m' "self" = some (.ref H.tr) ∧ m' "tokens_string" = some (.str x t) ∧ m' "value" = some val ∧ m' "tokens" = some (.ref D)) ∧
        ∃ okd', nx = (H.kd, okd') :: (D, LCg.lst ys) :: but H.kd led ∧ okd'.IsDictOf (strKind prog w) (kvKnown ((((splitTok (Txt.lower x)).filter nonblank).take i).foldl addKnown ks))) (by rfl) (PySem.IsL.isList (n := ys.length) (N2 _ (.head _)).1) ?_ lF ?_ ⟨⟨rfl, rfl, rfl, rfl⟩, _, rfl, hks⟩ ?_ ?_
    · exact (N2 _ (.head _)).2.1
    · exact News.sub N2 fun p hp => by
        rcases List.mem_cons.mp hp with rfl | hp
        · exact .tail _ (.tail _ hkd)
        rcases List.mem_cons.mp hp with rfl | hp
        · exact .head _
        · exact .tail _ (.tail _ (mem_but.mp hp).1)
    · rintro i v m₁ nx I own h tk hv ⟨⟨hm1, hm2, hm3, hm4⟩, okd', rfl, hok⟩ hown hoff ⟨oI, hoI⟩ hlst hlI F₁ N₁
      obtain ⟨y, ty, hy, rfl⟩ := strs_at hys hv
      have hA : (H.tr, ({ cls := .ref 171, dict := some H.dx, data := .plain } : Obj)) ∈ (H.kd, okd') :: (D, LCg.lst ys) :: but H.kd led ++ own := .tail _ (.tail _ (List.mem_append_left _ (mem_but.mpr ⟨htr, hne2⟩)))
      have hB : (H.dx, dictOf (hdEnts w.params false H (adOf nd 0)) 3) ∈ (H.kd, okd') :: (D, LCg.lst ys) :: but H.kd led ++ own := .tail _ (.tail _ (List.mem_append_left _ (mem_but.mpr ⟨hdx, hne3⟩)))
      unfold hdEnts at hB
      have hC : (H.kd, okd') ∈ (H.kd, okd') :: (D, LCg.lst ys) :: but H.kd led ++ own := .head _
      have hz : (kvKnown ((((splitTok (Txt.lower x)).filter nonblank).take i).foldl addKnown ks)).length ≤ sizeLine := by
        rw [sizeLine_eq, kvKnown_len]
        have := known_fold_len (((splitTok (Txt.lower x)).filter nonblank).take i) ks
        have : (((splitTok (Txt.lower x)).filter nonblank).take i).length ≤ ((splitTok (Txt.lower x)).filter nonblank).length := by rw [List.length_take]; exact Nat.min_le_right _ _
        have := strs_len hys
        omega
      clear lF N2 F1 N1
      generalize hled3 : (H.kd, okd') :: (D, LCg.lst ys) :: but H.kd led ++ own = led3 at *
      try k_fold
      k_steps
      show TurnEnd _ _ _ _ _ _ _
      rename News _ _ _ _ => nE
      rename Fr _ _ _ _ => fE
      rename_i hh o2 hd2
      rw [stored_known] at hd2
      refine TurnEnd.mk ((H.kd, o2) :: (D, LCg.lst ys) :: but H.kd led) fE nE (fun p hp => mem_put (hled3 ▸ List.mem_append_right _ hp) ?_) (fun p hp => ?_) ?_ ⟨⟨hm1, hm2, hm3, hm4⟩, _, rfl, ?_⟩
      · rcases hown p hp with e | e
        · rw [e]; exact fun q => hoff _ (.head _) q.symm
        · rw [e]; exact hDk.symm
      · rcases List.mem_cons.mp hp with rfl | hp
        · exact .head _
        · refine mem_put (hled3 ▸ List.mem_append_left _ (.tail _ hp)) ?_
          rcases List.mem_cons.mp hp with rfl | hp
          · exact hDk.symm
          · exact but_off p hp
      · exact offSame (by rfl) hoff
      · rw [List.take_add_one, hy, List.foldl_append]
        exact hd2
    · rintro m₁ nx h tk ⟨⟨hm1, hm2, hm3, hm4⟩, okd', rfl, hok⟩ F3 N3
      rw [List.take_of_length_le (Nat.le_of_eq (strs_len hys).symm)] at hok
      clear lF N2 F1 N1
      have hA : (H.tr, ({ cls := .ref 171, dict := some H.dx, data := .plain } : Obj)) ∈ (H.kd, okd') :: (D, LCg.lst ys) :: but H.kd led := .tail _ (.tail _ (mem_but.mpr ⟨htr, hne2⟩))
      have hB : (H.dx, dictOf (hdEnts w.params false H (adOf nd 0)) 3) ∈ (H.kd, okd') :: (D, LCg.lst ys) :: but H.kd led := .tail _ (.tail _ (mem_but.mpr ⟨hdx, hne3⟩))
      have hB' := hB
      unfold hdEnts at hB
      dsimp only
      try k_fold
      k_steps
      refine Stop.off ?_
      (rename Fr _ _ _ _ => lF; (with_unfolding_all refine' For_invVF (turn_hide (outer := envX cn cs L a ccd cl :: outer) .refl lF (by assumption)).1 ?k1 ?k2 ?_; (case k1 => exact rfl); (case k2 => exact rfl); k_whole))
      k_steps
      rename News _ _ _ _ => N4
      let rest2 : List (Addr × Obj) := (H.tr, { cls := .ref 171, dict := some H.dx, data := .plain }) :: (H.dx, dictOf (hdEnts w.params false H (adOf nd 0)) 3) :: (H.kd, okd') :: (D, LCg.lst ys) :: rest
      have hDr : ∀ p ∈ objsOf 71 nd ++ rest, p.1 ≠ D := fun p hp => hDl p (hled ▸ List.mem_append_right _ hp)
      have hDt : H.tr ≠ D := hDl _ htr
      have hDd : H.dx ≠ D := hDl _ hdx
      have hap3 : Apart (objsOf 71 nd ++ rest2) := by
        refine apart_perm (a := (H.tr, { cls := .ref 171, dict := some H.dx, data := .plain }) :: (H.dx, dictOf (hdEnts w.params false H (adOf nd 0)) 3) :: (H.kd, okd') :: (D, LCg.lst ys) :: (objsOf 71 nd ++ rest)) ?_ ?_
        · exact (List.perm_append_comm_assoc (objsOf 71 nd) [_, _, _, _] rest).symm
        · rw [apart_cons, apart_cons, apart_cons, apart_cons]
          simp only [List.mem_cons]
          refine ⟨?_, ?_, ?_, hDr, hap2⟩
          · rintro p (rfl | rfl | rfl | hp)
            · exact hne1.symm
            · exact hne2.symm
            · exact hDt.symm
            · exact (hne4 p hp).1
          · rintro p (rfl | rfl | hp)
            · exact hne3.symm
            · exact hDd.symm
            · exact (hne4 p hp).2.1
          · rintro p (rfl | hp)
            · exact hDk.symm
            · exact (hne4 p hp).2.2
      have N5 := News.sub (l' := objsOf 71 nd ++ rest2) N4 (fun p hp => by
        rcases List.mem_append.mp hp with hp | hp
        · refine .tail _ (.tail _ (mem_but.mpr ⟨hled ▸ List.mem_append_right _ (List.mem_append_left _ hp), (hne4 p (List.mem_append_left _ hp)).2.2⟩))
        rcases List.mem_cons.mp hp with rfl | hp
        · exact hA
        rcases List.mem_cons.mp hp with rfl | hp
        · exact hB'
        rcases List.mem_cons.mp hp with rfl | hp
        · exact .head _
        rcases List.mem_cons.mp hp with rfl | hp
        · exact .tail _ (.head _)
        · exact .tail _ (.tail _ (mem_but.mpr ⟨hled ▸ List.mem_append_right _ (List.mem_append_right _ hp), (hne4 p (List.mem_append_right _ hp)).2.2⟩)))
      have hD2 : (D, LCg.lst ys) ∈ rest2 := .tail _ (.tail _ (.tail _ (.head _)))
      have C4 : Cx (Mine.hd.heap_39 w.params) _ (envX cn cs L a ccd cl :: outer) base g L1 _ _ (objsOf 71 nd ++ rest2) := ⟨⟨_, B1⟩, lF, XB1, N5, ⟨_, _, _, _, _, TB1⟩, D1, hk1⟩
      refine iter_listC (l := D) (vs := ys) (n := ys.length) (by rfl) C4 (fun i m' nx => (m' "tokens_string" = some (.str x t) ∧ m' "value" = some val) ∧
        ∃ nd' j st, st = (((splitTok (Txt.lower x)).filter nonblank).take i).foldl addStep (P, []) ∧ m' "node" = some (.ref (adOf nd' j)) ∧ nx = objsOf 71 nd' ++ rest2 ∧ NodesOk prog w nd' st.1 ∧ st.1[j]? = some st.2 ∧ Apart (objsOf 71 nd' ++ rest2) ∧ Ext 44 nd nd') (by rfl) (List.mem_append_right _ hD2) ⟨⟨hm2, hm3⟩, nd, 0, _, rfl, rfl, rfl, hn, hn.root, hap3, Ext.refl _ _⟩ ?_ ?_
      · clear lF N4 N5 F3 N3 C4
        rintro i v m₂ nx I own h tk g2 TT2 hv ⟨⟨hm2, hm3⟩, nd', j, st, hst, hm5, rfl, hn', hj, hap4, hext⟩ hown hoff ⟨oI, hoI⟩ hlst hlI C2
        clear B1 X1 T1 D1
        obtain ⟨y, ty, hy, rfl⟩ := strs_at hys hv
        have hjl : j < nd'.length := by rw [hn'.len]; exact (List.getElem?_eq_some_iff.mp hj).1
        obtain ⟨n, hnj, had⟩ := adOf_lt hjl
        rw [had] at hm5
        have hA1 : (n.a, ({ cls := .ref 71, dict := some n.dx, data := .plain, slots := #[some (.ref n.c), some n.fail, some n.out, some n.tok] } : Obj)) ∈ objsOf 71 nd' ++ rest2 ++ own := List.mem_append_left _ (List.mem_append_left _ (mem_objs.mpr ⟨j, n, hnj, .head _⟩))
        have hA2 : (n.dx, dictOf [] 0) ∈ objsOf 71 nd' ++ rest2 ++ own := List.mem_append_left _ (List.mem_append_left _ (mem_objs.mpr ⟨j, n, hnj, .tail _ (.head _)⟩))
        have hA3 : (n.c, n.oc) ∈ objsOf 71 nd' ++ rest2 ++ own := List.mem_append_left _ (List.mem_append_left _ (mem_objs.mpr ⟨j, n, hnj, .tail _ (.tail _ (.head _))⟩))
        have hD3 := hn'.dict j n st.2 hnj hj
        have hlo := hn'.lo n (List.mem_of_getElem? hnj)
        have hPl2 : st.1.length ≤ 2000 := by
          rw [hst]
          have h1 := addFold_len (((splitTok (Txt.lower x)).filter nonblank).take i) (P, [])
          have h2 : (((splitTok (Txt.lower x)).filter nonblank).take i).length ≤ ((splitTok (Txt.lower x)).filter nonblank).length := by rw [List.length_take]; exact Nat.min_le_right _ _
          have h3 := strs_len hys
          simp only at h1
          omega
        have hst2 : st.2 = ((splitTok (Txt.lower x)).filter nonblank).take i := by rw [hst, addFold_snd]; rfl
        have hstn : (((splitTok (Txt.lower x)).filter nonblank).take (i + 1)).foldl addStep (P, []) = addStep st y := by rw [List.take_add_one, hy, List.foldl_append, ← hst]; rfl
        generalize hled4 : objsOf 71 nd' ++ rest2 ++ own = led4 at *
        obtain ⟨⟨A2, B2⟩, F2, XB2, N2, ⟨p2, loose2, mean2, mg2, mb2, TB2⟩, D2, hk2⟩ := id C2
        have X2 := XB2.keeps B2.stays
        have T2 := TB2.keeps B2.stays
        try k_fold
        k_steps
        k_dflt (refine kda_item2 (knd := PySem.strKind _ _) N2 hA3 hD3 hlo (by rfl) (strKind_is _ _ _ _) ?_ ?_)
        · intro v hv
          have hin : st.2 ++ [y] ∈ st.1 := by
            by_cases h : st.2 ++ [y] ∈ st.1
            · exact h
            · rw [value_none h] at hv; cases hv
          obtain ⟨j', hj'⟩ := List.mem_iff_getElem?.mp hin
          rw [value_some hn'.nodup hj'] at hv
          cases hv
          have hstep : addStep st y = (st.1, st.2 ++ [y]) := by unfold addStep; rw [if_pos hin]
          k_steps
          show TurnEndC _ _ _ _ _ _ _ _
          rename News _ _ _ _ => nE
          rename Fr _ _ _ _ => fE
          rw [← hled4] at nE
          refine TurnEndC.app (nx := objsOf 71 nd' ++ rest2) .refl fE nE hoff ⟨⟨hm2, hm3⟩, nd', j', _, hstn.symm, rfl, rfl, ?_, ?_, hap4, hext⟩
          · rw [hstep]; exact hn'
          · rw [hstep]; exact hj'
        · intro hv h' e hexc
          have hin : st.2 ++ [y] ∉ st.1 := fun h => by
            obtain ⟨j', hj'⟩ := List.mem_iff_getElem?.mp h
            rw [value_some hn'.nodup hj'] at hv
            cases hv
          have hstep : addStep st y = (st.1 ++ [st.2 ++ [y]], st.2 ++ [y]) := by unfold addStep; rw [if_neg hin]
          k_steps
          dsimp only at hexc
          k_dflt (refine caught_own C2 (by rfl) hexc (by k_is) PyProof.Rows.Boot.«KeyError» (by decide) kr_isExc_KeyError kr_notTuple_KeyError (by rw [isSubtype_type]; kernel_rfl) ?_)
          intro h3 g3 TT3 C3
          clear F2 N2 X2 T2 D2 B2
          obtain ⟨⟨A3, B3⟩, F3, XB3, N3, ⟨p3, loose3, mean3, mg3, mb3, TB3⟩, D3, hk3⟩ := id C3
          have X3 := XB3.keeps B3.stays
          have T3 := TB3.keeps B3.stays
          k_steps
          rename News _ _ _ _ => N5
          rename Fr _ _ _ _ => F5
          rename Obj.IsDictOf (PySem.strKind _ _) _ [] => hs5
          rename _ ∧ _ ∧ AllLt _ _ => hl5
          rename (_ == sysModules) = false => hlo5
          rename (∀ p : Addr × Obj, p ∈ led4 → p.1 < _) => hl6
          rename _ < _ => hl7
          refine kda_setB (knd := PySem.strKind _ _) F5 N5 (.tail _ (.tail _ (.tail _ hA3))) hD3 (strKind_is _ _ _ _) (by rw [sizeLine_eq]; have := kvsOf_len nd' st.1 st.2; omega) ?_
          intro h6 o6 F6 N6 hd6
          clear F5 N5
          k_steps
          show TurnEndC _ _ _ _ _ _ _ _
          rename News _ _ _ _ => nE
          rename Fr _ _ _ _ => fE
          refine new_turn ⟨_, _, _, _, _, _, _⟩ TT3 fE nE hled4 hap4 hn' hj hnj hext hin hoff ⟨oI, hoI⟩ (fun p hp => ?_) hl6 hl7 hl5 hlo5 hs5 rfl rfl rfl hd6 (fun nd'' j' e1 e2 e3 e4 e5 => ⟨⟨hm2, hm3⟩, nd'', j', _, hstn.symm, by rw [e1]; rfl, rfl, e2, e3, e4, e5⟩)
          have hnc : (n.c, n.oc) ∈ objsOf 71 nd' := mem_objs.mpr ⟨j, n, hnj, .tail _ (.tail _ (.head _))⟩
          rcases hown p hp with e | e
          · rw [e]; exact (hoff _ (List.mem_append_left _ hnc)).symm
          · rw [e]; exact ((apart_app.mp hap4).2.2 _ hnc _ hD2).symm
      · clear lF N4 N5 F3 N3 C4 B1 X1 T1 D1
        rintro m₂ nx h tk g2 TT2 ⟨⟨hm2, hm3⟩, nd', j, st, hst, hm5, rfl, hn', hj, hap4, hext⟩ C2
        rw [List.take_of_length_le (Nat.le_of_eq (strs_len hys).symm)] at hst
        have hst2 : st.2 = (splitTok (Txt.lower x)).filter nonblank := by rw [hst, addFold_snd]; rfl
        have hjl : j < nd'.length := by rw [hn'.len]; exact (List.getElem?_eq_some_iff.mp hj).1
        obtain ⟨n, hnj, had⟩ := adOf_lt hjl
        rw [had] at hm5
        have hA1 : (n.a, ({ cls := .ref 71, dict := some n.dx, data := .plain, slots := #[some (.ref n.c), some n.fail, some n.out, some n.tok] } : Obj)) ∈ objsOf 71 nd' ++ rest2 := (List.mem_append_left _ (mem_objs.mpr ⟨j, n, hnj, .head _⟩))
        have hA2 : (n.dx, dictOf [] 0) ∈ objsOf 71 nd' ++ rest2 := (List.mem_append_left _ (mem_objs.mpr ⟨j, n, hnj, .tail _ (.head _)⟩))
        generalize hled4 : objsOf 71 nd' ++ rest2 = led4 at *
        obtain ⟨⟨A2, B2⟩, F2, XB2, N2, ⟨p2, loose2, mean2, mg2, mb2, TB2⟩, D2, hk2⟩ := id C2
        have X2 := XB2.keeps B2.stays
        have T2 := TB2.keeps B2.stays
        dsimp only
        try k_fold
        rcases hval with ⟨rfl, he⟩ | ⟨u, rfl, hy0, hy1⟩
        · replace he := he.symm
          subst he
          k_steps
          (k_dflt (refine' set_slotB ?k1 ?k2 ?k3 ?k4 ?k5 ?k6 ?k7 ?k8 ?k9 ?k10 ?k11 ?k12 ?k13 ?_; (case k1 => k_asm); (case k2 => k_asm); (case k3 => k_asm); (case k4 => k_inst); (case k5 => k_is); (case k6 => k_is); (case k7 => k_is); (case k8 => k_is); (case k9 => k_is); (case k10 => decide); (case k11 => k_slotset); (case k12 => exact rfl); (case k13 => exact .tail _ hA1); k_whole); intro h9 F9 N9)
          rename (∀ p : Addr × Obj, p ∈ led4 → p.1 < _) => hl6
          k_steps
          have hap5 : Apart (objsOf 71 nd' ++ rest2) := by rw [hled4]; exact hap4
          have e : st.1 = addAll P ((splitTok (Txt.lower x)).filter nonblank) := by rw [hst]; rfl
          obtain ⟨hin9, hT9, hr9⟩ := add_done hap5 hled4 hl6 hn' hnj hext houts hfails hok (by rw [hn.len]; exact (List.getElem?_eq_some_iff.mp hn.root).1)
          refine leaveC TT2 F9 (News.sub N9 hin9) (fun h₀' T C => hQ h₀' _ _ _ _ j _ _ _ T ?_ ?_ C ?_)
          · rw [← e, hj, hst2]
          · exact hr9
          · rw [← e]; exact hT9
        · k_steps
          rotate_left
          · exfalso; omega
          (k_dflt (refine' set_slotB ?k1 ?k2 ?k3 ?k4 ?k5 ?k6 ?k7 ?k8 ?k9 ?k10 ?k11 ?k12 ?k13 ?_; (case k1 => k_asm); (case k2 => k_asm); (case k3 => k_asm); (case k4 => k_inst); (case k5 => k_is); (case k6 => k_is); (case k7 => k_is); (case k8 => k_is); (case k9 => k_is); (case k10 => decide); (case k11 => k_slotset); (case k12 => exact rfl); (case k13 => exact .tail _ hA1); k_whole); intro h9 F9 N9)
          rename (∀ p : Addr × Obj, p ∈ led4 → p.1 < _) => hl6
          k_steps
          have hap5 : Apart (objsOf 71 nd' ++ rest2) := by rw [hled4]; exact hap4
          have e : st.1 = addAll P ((splitTok (Txt.lower x)).filter nonblank) := by rw [hst]; rfl
          obtain ⟨hin9, hT9, hr9⟩ := add_done hap5 hled4 hl6 hn' hnj hext houts hfails hok (by rw [hn.len]; exact (List.getElem?_eq_some_iff.mp hn.root).1)
          refine leaveC TT2 F9 (News.sub N9 hin9) (fun h₀' T C => hQ h₀' _ _ _ _ j _ _ _ T ?_ ?_ C ?_)
          · rw [← e, hj, hst2]
          · exact hr9
          · rw [← e]; exact hT9
end
end Mine
end
section
theorem Mine.switch_S4 : True := by
  w_top off
  trivial
open Lean Elab Tactic Meta PySem PySem.W PySem.Calls PyProof.Rows
set_option pp.deepTerms false
set_option pp.maxSteps 800
set_option pp.deepTerms.threshold 5
namespace Mine
local macro_rules | `(tactic| walk_at "exec For Name Name cons nil") => `(tactic| (refine Mine.Stop.on ?_))
local macro_rules | `(tactic| walk_at "exec For Name Call cons nil") => `(tactic| (refine Mine.Stop.on ?_))
local macro_rules | `(tactic| walk_at "exec Assign cons ListComp") => `(tactic| (refine Mine.Stop.on ?_))
local macro_rules | `(tactic| walk_at "LeaveC") => `(tactic| fail "here")
local macro_rules | `(tactic| k_room) => `(tactic| first | ktr_room | ((simp only [Mine.mark_depth, depth_under_make, depth_under_kw, depth_in1, depth_deeper, depth_caller]); (try dsimp only [ktrTop]); (try simp only [recursionLimit] at *); omega))
local macro_rules | `(tactic| k_all) => `(tactic| first | assumption | exact Mine.offLt (by assumption) | exact Mine.offLt2 (by assumption) (by assumption) | (refine List.forall_mem_append.mpr ⟨?a, ?b⟩; (case a => k_all); (case b => k_all)))
local macro_rules | `(tactic| walk_at "setItem ref str") => `(tactic| (k_here; k_dflt (refine' kda_setB (knd := PySem.strKind _ _) ?F ?N ?hm ?d (strKind_is _ _ _ _) ?z ?_; (case F => k_asm); (case N => k_asm); (case hm => k_mem); (case d => k_asm); (case z => k_asm)); intro h' o' F' N' hd'))
local macro_rules | `(tactic| walk_at "compareOp Is str ref") => `(tactic| (k_here; refine wpAny_is_other (by rfl) (by intro x; cases x) ?_))
local macro_rules | `(tactic| k_mem) => `(tactic| assumption)
local macro_rules | `(tactic| walk_at "eval Name") => `(tactic| (k_here; (with_reducible show wpAny _ _ (eval (Expr.Name _ _) (envOf _ _ _ _ _)) _ _ _); k_dflt (refine' ld ?k1 ?k2 ?_; (case k1 => k_asm); (case k2 => first | exact rfl | assumption); k_whole)))
local macro_rules | `(tactic| walk_at "eval Name") => `(tactic| (k_here; (with_reducible show wpAny _ _ (eval (Expr.Name _ _) (envOfC _ _ _ _ _)) _ _ _); k_dflt (refine' nameX_L ?F ?v ?_ ?a ?b; (case F => k_asm); (case a => rfl); (case b => rfl); (case v => first | rfl | assumption); k_whole)))
local macro_rules | `(tactic| walk_at "call ref") => `(tactic| ((with_reducible show wpAny _ _ (call (Value.ref 286) _) _ _ _); refine Mine.Stop.on ?_))
theorem prefix_mem {P : List (List Str)} (hc : ∀ p ∈ P, p.dropLast ∈ P) (ws : List Str) (h : ws ∈ P) : ∀ i, ws.take i ∈ P := by
  have key : ∀ k, ws.take (ws.length - k) ∈ P := by
    intro k
    induction k with
    | zero => simpa using h
    | succ k ih =>
      have := hc _ ih
      rw [List.dropLast_eq_take, List.length_take, List.take_take] at this
      have e : min (min (ws.length - k) ws.length - 1) (ws.length - k) = ws.length - (k + 1) := by omega
      rwa [e] at this
  intro i
  by_cases hi : i ≤ ws.length
  · have := key (ws.length - i)
    rwa [show ws.length - (ws.length - i) = i by omega] at this
  · rw [List.take_of_length_le (by omega)]; exact h
section
variable {prog : Program} {w : World} {dp un : Nat} {gd : Option (List Code)} {cn : Str} {cs : Scope} {a : Addr} {ccd : Value} {cl : List (Str × Addr)} {outer : List Env} {base h₀ : Heap} {L : Addr} {m : Str → Option Value} {news : List (Addr × Obj)} {s : Shared} {Q E : Value → Shared → Prop}
set_option maxRecDepth 100000
set_option maxHeartbeats 8000000
theorem getnode_spec {x : Str} {t : Tok} {H : TrieHd} {cv : Bool} {nd : List Nd} {P : List (List Str)}
   (C : Cx (Mine.hd.heap_39 w.params) cs outer base h₀ L s.heap m news) (hd : dp + 40 < recursionLimit) (hu : un + 300 < cLine) (hx : x.length ≤ 1000) (hx0 : x.length ≠ 0) (ha : x.cps.all (· < 128) = true)
   (hin : ∀ p ∈ hdObjs w.params 171 cv H (adOf nd 0) ++ objsOf 71 nd, p ∈ news) (hn : NodesOk prog w nd P)
   (hQ : ∀ h₀' h' tk' r, KtsTurn (frs outer) h₀ h₀' → Cx (Mine.hd.heap_39 w.params) cs outer base h₀' L h' m news →
     ((r = .none ∧ (splitTok (Txt.lower x)).filter nonblank ∉ P) ∨ ∃ j, P[j]? = some ((splitTok (Txt.lower x)).filter nonblank) ∧ r = .ref (adOf nd j)) → Q r { s with heap := h', toks := tk' }) :
   wpAny (model prog w) (ktrTop dp un gd cn cs L a ccd cl outer) (call (.ref 102) [.ref H.tr, .str x t]) Q E s := by
  obtain ⟨⟨A0, B0⟩, F0, XB0, N0, ⟨p0, loose0, mean0, mg0, mb0, TB0⟩, D0, hk0⟩ := id C
  have X0 := XB0.keeps B0.stays
  have T0 := TB0.keeps B0.stays
  refine wpAny_call ?_
  k_dflt (refine' enterC C ?kA ?kF ?kK ?k6 ?k7 ?k8 ?k9 ?kB ?_ ?c2 ?c3 ?c4 ?c5; (case kA => exact rfl); (case kF => exact rfl); (case kK => exact hk0); (case k6 => k_is); (case k7 => k_is); (case k8 => (show dp < _; omega)); (case k9 => first | exact BindsTo.of_eq rfl | exact binds_K (by k_in) rfl (by k_is) rfl rfl rfl); (case kB => exact locs rfl); (case c2 => exact rfl); (case c3 => exact rfl); (case c4 => exact rfl); (case c5 => decide); k_whole)
  intro g L1 hh1 C1 hlt1
  clear B0 F0 N0 X0 T0 D0
  obtain ⟨⟨A1, B1⟩, F1, XB1, N1, ⟨p1, loose1, mean1, mg1, mb1, TB1⟩, D1, hk1⟩ := id C1
  have X1 := XB1.keeps B1.stays
  have T1 := TB1.keeps B1.stays
  dsimp only
  try k_fold
  have htr : (H.tr, ({ cls := .ref 171, dict := some H.dx, data := .plain } : Obj)) ∈ news := hin _ (.head _)
  have hdx : (H.dx, dictOf (hdEnts w.params cv H (adOf nd 0)) 3) ∈ news := hin _ (.tail _ (.head _))
  have hobj : ∀ p ∈ objsOf 71 nd, p ∈ news := fun p hp => hin _ (List.mem_append_right _ hp)
  unfold hdEnts at hdx
  k_steps
  rotate_left
  · exfalso; omega
  refine Stop.off ?_
  k_dflt (refine LCt.Assign_ListComp_T (F₀ := by k_asm) (by rfl) (by with_unfolding_all rfl) (by with_unfolding_all rfl) (by decide) (by rfl) (by decide) (by rfl) (by rfl) (by rfl) ?_)
  k_steps
  refine Stop.off ?_
  k_dflt (refine get_spec ⟨⟨_, B1⟩, by assumption, XB1, by assumption, ⟨_, _, _, _, _, TB1⟩, D1, hk1⟩ ?_ ?_ hx ha ?_)
  · show dp + 1 + 20 < recursionLimit; omega
  · show un + 3 + 200 < cLine; omega
  intro h1 tk1 l1 vs1 n1 CC1 hltl hvs1
  have FF1 := CC1.F
  have NN1 := CC1.N
  have hvl : vs1.length ≤ 1000 := by rw [strs_len hvs1]; have := splitAt_len (Txt.lower x) (Txt.lower x).cps.size; have := (lower_len ha).1; unfold splitTok; omega
  k_dflt (refine LCt.CompSrcT.ledger (by rfl) FF1 NN1 (.head _) (by rw [sizeLine_eq, List.size_toArray]; omega) (fun _ => restT_ind (fun i ys nx => nx = (l1, listOf vs1.toArray n1) :: news ∧ StrsAre ys (((splitTok (Txt.lower x)).take i).filter nonblank)) ?_ ?_ _ 0 _ _ (Nat.zero_add _) ⟨rfl, .nil⟩))
  rotate_left
  · rintro i ys nx v I oI C oC D m₂ h tk E' hi ⟨rfl, hys⟩ hv hC hxv F N off ne
    obtain ⟨y, ty, hy, rfl⟩ := strs_at hvs1 (by simpa using hv)
    have hyl : y.length ≤ 1000 := by have := mem_le_tot (List.mem_of_getElem? hy); have := splitAt_tot (Txt.lower x) (Txt.lower x).cps.size; have := (lower_len ha).1; unfold splitTok at *; omega
    have hnext : (splitTok (Txt.lower x)).take (i + 1) = (splitTok (Txt.lower x)).take i ++ [y] := by rw [List.take_add_one, hy]; rfl
    k_steps
    · refine LCg.CompEnd.intro (by assumption) (by assumption) ((l1, listOf vs1.toArray n1) :: news) (fun p hp => hp) off (.inr ⟨_, .head _, rfl, _, rfl⟩) ⟨rfl, ?_⟩
      rw [hnext, List.filter_append, List.filter_cons, if_pos (by unfold nonblank; simp only [decide_eq_true_eq]; omega)]
      exact strs_snoc hys _ _
    · refine LCg.CompEnd.intro (by assumption) (by assumption) ((l1, listOf vs1.toArray n1) :: news) (fun p hp => hp) off (.inr ⟨_, .head _, rfl, _, rfl⟩) ⟨rfl, ?_⟩
      rw [hnext, List.filter_append, List.filter_cons, if_neg (by unfold nonblank; simp only [decide_eq_true_eq]; omega)]
      simpa using hys
  · rintro ys nx ⟨rfl, hys⟩ D h2 tk2 F2 N2 off2
    rw [List.size_toArray, List.take_of_length_le (Nat.le_of_eq (strs_len hvs1).symm)] at hys
    have hysl : ys.length ≤ 1000 := by rw [strs_len hys]; exact Nat.le_trans (List.length_filter_le _ _) (by rw [← strs_len hvs1]; exact hvl)
    dsimp only
    try k_fold
    k_steps
    refine Stop.off ?_
    (rename Fr _ _ _ _ => lF; (with_unfolding_all refine' For_invVF (turn_hide (outer := envX cn cs L a ccd cl :: outer) .refl lF (by assumption)).1 ?k1 ?k2 ?_; (case k1 => exact rfl); (case k2 => exact rfl); k_whole))
    k_steps
    rename News _ _ _ _ => N4
    have C4 : Cx (Mine.hd.heap_39 w.params) _ (envX cn cs L a ccd cl :: outer) base g L1 _ _ ((D, LCg.lst ys) :: news) := ⟨⟨_, B1⟩, lF, XB1, News.sub N4 (fun p hp => by
      rcases List.mem_cons.mp hp with rfl | hp
      · exact .head _
      · exact .tail _ (.tail _ hp)), ⟨_, _, _, _, _, TB1⟩, D1, hk1⟩
    refine iter_listC (l := D) (vs := ys) (n := ys.length) (by rfl) C4 (fun i m' nx => nx = (D, LCg.lst ys) :: news ∧ ∃ j, P[j]? = some (((splitTok (Txt.lower x)).filter nonblank).take i) ∧ m' "node" = some (.ref (adOf nd j))) (by rfl) (.head _) ⟨rfl, 0, hn.root, rfl⟩ ?_ ?_
    · clear lF N4 C4 
      rintro i v m₂ nx I own h tk g2 TT2 hv ⟨rfl, j, hj, hm5⟩ hown hoff ⟨oI, hoI⟩ hlst hlI C2
      clear B1 X1 T1 D1
      obtain ⟨y, ty, hy, rfl⟩ := strs_at hys hv
      have hjl : j < nd.length := by rw [hn.len]; exact (List.getElem?_eq_some_iff.mp hj).1
      obtain ⟨n, hnj, had⟩ := adOf_lt hjl
      rw [had] at hm5
      have hnext : ((splitTok (Txt.lower x)).filter nonblank).take (i + 1) = ((splitTok (Txt.lower x)).filter nonblank).take i ++ [y] := by rw [List.take_add_one, hy]; rfl
      have hA1 : (n.a, ({ cls := .ref 71, dict := some n.dx, data := .plain, slots := #[some (.ref n.c), some n.fail, some n.out, some n.tok] } : Obj)) ∈ (D, LCg.lst ys) :: news ++ own := List.mem_append_left _ (.tail _ (hobj _ (mem_objs.mpr ⟨j, n, hnj, .head _⟩)))
      have hA2 : (n.dx, dictOf [] 0) ∈ (D, LCg.lst ys) :: news ++ own := List.mem_append_left _ (.tail _ (hobj _ (mem_objs.mpr ⟨j, n, hnj, .tail _ (.head _)⟩)))
      have hA3 : (n.c, n.oc) ∈ (D, LCg.lst ys) :: news ++ own := List.mem_append_left _ (.tail _ (hobj _ (mem_objs.mpr ⟨j, n, hnj, .tail _ (.tail _ (.head _))⟩)))
      have hD3 := hn.dict j n _ hnj hj
      have hlo := hn.lo n (List.mem_of_getElem? hnj)
      generalize hled4 : (D, LCg.lst ys) :: news ++ own = led4 at *
      obtain ⟨⟨A2, B2⟩, F2, XB2, N2, ⟨p2, loose2, mean2, mg2, mb2, TB2⟩, D2, hk2⟩ := id C2
      have X2 := XB2.keeps B2.stays
      have T2 := TB2.keeps B2.stays
      try k_fold
      k_steps
      k_dflt (refine kda_item2 (knd := PySem.strKind _ _) N2 hA3 hD3 hlo (by rfl) (strKind_is _ _ _ _) ?_ ?_)
      · intro v hv
        have hin : ((splitTok (Txt.lower x)).filter nonblank).take i ++ [y] ∈ P := by
          by_cases h : ((splitTok (Txt.lower x)).filter nonblank).take i ++ [y] ∈ P
          · exact h
          · rw [value_none h] at hv; cases hv
        obtain ⟨j', hj'⟩ := List.mem_iff_getElem?.mp hin
        rw [value_some hn.nodup hj'] at hv
        cases hv
        k_steps
        show TurnEndC _ _ _ _ _ _ _ _
        rename News _ _ _ _ => nE
        rename Fr _ _ _ _ => fE
        rw [← hled4] at nE
        exact TurnEndC.app (nx := (D, LCg.lst ys) :: news) .refl fE nE hoff ⟨rfl, j', by rw [hnext]; exact hj', rfl⟩
      · intro hv h' e hexc
        have hni : ((splitTok (Txt.lower x)).filter nonblank) ∉ P := fun hq => by
          have h := prefix_mem hn.closed _ hq (i + 1)
          rw [hnext] at h
          obtain ⟨j', hj'⟩ := List.mem_iff_getElem?.mp h
          rw [value_some hn.nodup hj'] at hv
          cases hv
        k_steps
        dsimp only at hexc
        k_dflt (refine caught_own C2 (by rfl) hexc (by k_is) PyProof.Rows.Boot.«KeyError» (by decide) kr_isExc_KeyError kr_notTuple_KeyError (by rw [isSubtype_type]; kernel_rfl) ?_)
        intro h3 g3 TT3 C3
        clear F2 N2 X2 T2 D2 B2
        obtain ⟨⟨A3, B3⟩, F3, XB3, N3, ⟨p3, loose3, mean3, mg3, mb3, TB3⟩, D3, hk3⟩ := id C3
        have X3 := XB3.keeps B3.stays
        have T3 := TB3.keeps B3.stays
        k_steps
        dsimp only [TurnPostC]
        refine leaveC (TT2.trans TT3) F3 (News.sub (l' := news) N3 fun p hp => hled4 ▸ List.mem_append_left _ (.tail _ hp)) (fun h₀' T C => hQ h₀' _ _ _ T C (.inl ⟨rfl, hni⟩))
    · clear lF N4 C4 B1 X1 T1 D1
      rintro m₂ nx h tk g2 TT2 ⟨rfl, j, hj, hm5⟩ C2
      rw [List.take_of_length_le (Nat.le_of_eq (strs_len hys).symm)] at hj
      obtain ⟨⟨A2, B2⟩, F2, XB2, N2, ⟨p2, loose2, mean2, mg2, mb2, TB2⟩, D2, hk2⟩ := id C2
      have X2 := XB2.keeps B2.stays
      have T2 := TB2.keeps B2.stays
      dsimp only
      try k_fold
      k_steps
      refine leaveC TT2 F2 (News.sub (l' := news) N2 fun p hp => .tail _ hp) (fun h₀' T C => hQ h₀' _ _ _ T C (.inr ⟨j, hj, rfl⟩))
end
end Mine
end
section
local macro_rules | `(tactic| walk_at "none such") => `(tactic| fail "none such")
theorem Mine.switch_S5 : True := by
  w_top off
  trivial
open Lean Elab Tactic Meta PySem PySem.W PySem.Calls PyProof.Rows
set_option pp.deepTerms false
set_option pp.maxSteps 800
set_option pp.deepTerms.threshold 5
namespace Mine
local macro_rules | `(tactic| walk_at "exec For Name Name cons nil") => `(tactic| (refine Mine.Stop.on ?_))
local macro_rules | `(tactic| walk_at "exec For Name Call cons nil") => `(tactic| (refine Mine.Stop.on ?_))
local macro_rules | `(tactic| walk_at "exec Assign cons ListComp") => `(tactic| (refine Mine.Stop.on ?_))
local macro_rules | `(tactic| walk_at "LeaveC") => `(tactic| fail "here")
local macro_rules | `(tactic| k_room) => `(tactic| first | ktr_room | ((simp only [Mine.mark_depth, depth_under_make, depth_under_kw, depth_in1, depth_deeper, depth_caller]); (try dsimp only [ktrTop]); (try simp only [recursionLimit] at *); omega))
local macro_rules | `(tactic| k_all) => `(tactic| first | assumption | exact Mine.offLt (by assumption) | exact Mine.offLt2 (by assumption) (by assumption) | (refine List.forall_mem_append.mpr ⟨?a, ?b⟩; (case a => k_all); (case b => k_all)))
local macro_rules | `(tactic| walk_at "setItem ref str") => `(tactic| (k_here; k_dflt (refine' kda_setB (knd := PySem.strKind _ _) ?F ?N ?hm ?d (strKind_is _ _ _ _) ?z ?_; (case F => k_asm); (case N => k_asm); (case hm => k_mem); (case d => k_asm); (case z => k_asm)); intro h' o' F' N' hd'))
local macro_rules | `(tactic| walk_at "compareOp Is str ref") => `(tactic| (k_here; refine wpAny_is_other (by rfl) (by intro x; cases x) ?_))
local macro_rules | `(tactic| k_mem) => `(tactic| assumption)
local macro_rules | `(tactic| walk_at "eval Name") => `(tactic| (k_here; (with_reducible show wpAny _ _ (eval (Expr.Name _ _) (envOf _ _ _ _ _)) _ _ _); k_dflt (refine' ld ?k1 ?k2 ?_; (case k1 => k_asm); (case k2 => first | exact rfl | assumption); k_whole)))
local macro_rules | `(tactic| walk_at "eval Name") => `(tactic| (k_here; (with_reducible show wpAny _ _ (eval (Expr.Name _ _) (envOfC _ _ _ _ _)) _ _ _); k_dflt (refine' nameX_L ?F ?v ?_ ?a ?b; (case F => k_asm); (case a => rfl); (case b => rfl); (case v => first | rfl | assumption); k_whole)))
local macro_rules | `(tactic| walk_at "call ref") => `(tactic| ((with_reducible show wpAny _ _ (call (Value.ref 102) _) _ _ _); refine Mine.Stop.on ?_))
section
variable {prog : Program} {w : World} {dp un : Nat} {gd : Option (List Code)} {cn : Str} {cs : Scope} {a : Addr} {ccd : Value} {cl : List (Str × Addr)} {outer : List Env} {base h₀ : Heap} {L : Addr} {m : Str → Option Value} {news : List (Addr × Obj)} {s : Shared} {Q E : Value → Shared → Prop}
set_option maxRecDepth 100000
set_option maxHeartbeats 8000000
theorem isprefix_spec {x : Str} {t : Tok} {H : TrieHd} {cv : Bool} {nd : List Nd} {P : List (List Str)}
   (C : Cx (Mine.hd.heap_39 w.params) cs outer base h₀ L s.heap m news) (hd : dp + 50 < recursionLimit) (hu : un + 400 < cLine) (hx : x.length ≤ 1000) (hx0 : x.length ≠ 0) (ha : x.cps.all (· < 128) = true)
   (hin : ∀ p ∈ hdObjs w.params 171 cv H (adOf nd 0) ++ objsOf 71 nd, p ∈ news) (hn : NodesOk prog w nd P)
   (hQ : ∀ h₀' h' tk', KtsTurn (frs outer) h₀ h₀' → Cx (Mine.hd.heap_39 w.params) cs outer base h₀' L h' m news → Q (.bool (decide ((splitTok (Txt.lower x)).filter nonblank ∈ P))) { s with heap := h', toks := tk' }) :
   wpAny (model prog w) (ktrTop dp un gd cn cs L a ccd cl outer) (call (.ref 145) [.ref H.tr, .str x t]) Q E s := by
  obtain ⟨⟨A0, B0⟩, F0, XB0, N0, ⟨p0, loose0, mean0, mg0, mb0, TB0⟩, D0, hk0⟩ := id C
  have X0 := XB0.keeps B0.stays
  have T0 := TB0.keeps B0.stays
  refine wpAny_call ?_
  k_dflt (refine' enterC C ?kA ?kF ?kK ?k6 ?k7 ?k8 ?k9 ?kB ?_ ?c2 ?c3 ?c4 ?c5; (case kA => exact rfl); (case kF => exact rfl); (case kK => exact hk0); (case k6 => k_is); (case k7 => k_is); (case k8 => (show dp < _; omega)); (case k9 => first | exact BindsTo.of_eq rfl | exact binds_K (by k_in) rfl (by k_is) rfl rfl rfl); (case kB => exact locs rfl); (case c2 => exact rfl); (case c3 => exact rfl); (case c4 => exact rfl); (case c5 => decide); k_whole)
  intro g L1 hh1 C1 hlt1
  clear B0 F0 N0 X0 T0 D0
  obtain ⟨⟨A1, B1⟩, F1, XB1, N1, ⟨p1, loose1, mean1, mg1, mb1, TB1⟩, D1, hk1⟩ := id C1
  have X1 := XB1.keeps B1.stays
  have T1 := TB1.keeps B1.stays
  dsimp only
  try k_fold
  have htr : (H.tr, ({ cls := .ref 171, dict := some H.dx, data := .plain } : Obj)) ∈ news := hin _ (.head _)
  have hdx : (H.dx, dictOf (hdEnts w.params cv H (adOf nd 0)) 3) ∈ news := hin _ (.tail _ (.head _))
  unfold hdEnts at hdx
  k_steps
  refine Stop.off ?_
  k_dflt (refine getnode_spec ⟨⟨_, B1⟩, by assumption, XB1, by assumption, ⟨_, _, _, _, _, TB1⟩, D1, hk1⟩ ?_ ?_ hx hx0 ha hin hn ?_)
  · show dp + 1 + 40 < recursionLimit; omega
  · show un + 3 + 300 < cLine; omega
  intro g2 h2 tk2 r TT2 C2 hr
  clear B1 X1 T1 D1 F1 N1
  obtain ⟨⟨A2, B2⟩, F2, XB2, N2, ⟨p2, loose2, mean2, mg2, mb2, TB2⟩, D2, hk2⟩ := id C2
  have X2 := XB2.keeps B2.stays
  have T2 := TB2.keeps B2.stays
  rcases hr with ⟨rfl, hni⟩ | ⟨j, hj, rfl⟩
  · rw [decide_eq_false hni] at hQ
    k_steps
    refine leaveC TT2 (by assumption) (by assumption) (fun h₀' T C => hQ h₀' _ _ T C)
  · rw [decide_eq_true (List.mem_of_getElem? hj)] at hQ
    k_steps
    refine leaveC TT2 (by assumption) (by assumption) (fun h₀' T C => hQ h₀' _ _ T C)

def told (P : List (List Str)) (O : List (Option (Str × Str))) (ws : List Str) : Option (Str × Str) := (P.findIdx? (· == ws)).bind fun j => (O[j]?).join
theorem told_at {P : List (List Str)} {O : List (Option (Str × Str))} {ws : List Str} {j : Nat} (hn : P.Nodup) (hj : P[j]? = some ws) : told P O ws = (O[j]?).join := by
  unfold told
  have hlt := (List.getElem?_eq_some_iff.mp hj).1
  cases h : P.findIdx? (· == ws) with
  | none =>
    have := List.findIdx?_eq_none_iff.mp h ws (List.mem_of_getElem? hj)
    simp at this
  | some k =>
    obtain ⟨hk, h1, -⟩ := List.findIdx?_eq_some_iff_getElem.mp h
    have e : P[k]? = some ws := by rw [List.getElem?_eq_getElem hk]; simpa using h1
    have : k = j := (List.getElem?_inj hk hn).mp (e.trans hj.symm)
    rw [this]; rfl
theorem told_off {P : List (List Str)} {O : List (Option (Str × Str))} {ws : List Str} (h : ws ∉ P) : told P O ws = none := by
  unfold told
  rw [List.findIdx?_eq_none_iff.mpr (fun q hq => by
    have hne : q ≠ ws := fun e => h (e ▸ hq)
    simpa using hne)]; rfl
theorem exists_spec {x : Str} {t : Tok} {H : TrieHd} {cv : Bool} {nd : List Nd} {P : List (List Str)} {O : List (Option (Str × Str))} {rest : List (Addr × Obj)}
   (C : Cx (Mine.hd.heap_39 w.params) cs outer base h₀ L s.heap m news) (hd : dp + 50 < recursionLimit) (hu : un + 400 < cLine) (hx : x.length ≤ 1000) (hx0 : x.length ≠ 0) (ha : x.cps.all (· < 128) = true)
   (hin : ∀ p ∈ hdObjs w.params 171 cv H (adOf nd 0) ++ (objsOf 71 nd ++ rest), p ∈ news) (hn : NodesOk prog w nd P) (ho : Outs 44 nd O rest)
   (hQ : ∀ h₀' h' tk', KtsTurn (frs outer) h₀ h₀' → Cx (Mine.hd.heap_39 w.params) cs outer base h₀' L h' m news → Q (.bool (told P O ((splitTok (Txt.lower x)).filter nonblank)).isSome) { s with heap := h', toks := tk' }) :
   wpAny (model prog w) (ktrTop dp un gd cn cs L a ccd cl outer) (call (.ref 138) [.ref H.tr, .str x t]) Q E s := by
  obtain ⟨⟨A0, B0⟩, F0, XB0, N0, ⟨p0, loose0, mean0, mg0, mb0, TB0⟩, D0, hk0⟩ := id C
  have X0 := XB0.keeps B0.stays
  have T0 := TB0.keeps B0.stays
  refine wpAny_call ?_
  k_dflt (refine' enterC C ?kA ?kF ?kK ?k6 ?k7 ?k8 ?k9 ?kB ?_ ?c2 ?c3 ?c4 ?c5; (case kA => exact rfl); (case kF => exact rfl); (case kK => exact hk0); (case k6 => k_is); (case k7 => k_is); (case k8 => (show dp < _; omega)); (case k9 => first | exact BindsTo.of_eq rfl | exact binds_K (by k_in) rfl (by k_is) rfl rfl rfl); (case kB => exact locs rfl); (case c2 => exact rfl); (case c3 => exact rfl); (case c4 => exact rfl); (case c5 => decide); k_whole)
  intro g L1 hh1 C1 hlt1
  clear B0 F0 N0 X0 T0 D0
  obtain ⟨⟨A1, B1⟩, F1, XB1, N1, ⟨p1, loose1, mean1, mg1, mb1, TB1⟩, D1, hk1⟩ := id C1
  have X1 := XB1.keeps B1.stays
  have T1 := TB1.keeps B1.stays
  dsimp only
  try k_fold
  have htr : (H.tr, ({ cls := .ref 171, dict := some H.dx, data := .plain } : Obj)) ∈ news := hin _ (.head _)
  have hdx : (H.dx, dictOf (hdEnts w.params cv H (adOf nd 0)) 3) ∈ news := hin _ (.tail _ (.head _))
  unfold hdEnts at hdx
  k_steps
  refine Stop.off ?_
  k_dflt (refine getnode_spec ⟨⟨_, B1⟩, by assumption, XB1, by assumption, ⟨_, _, _, _, _, TB1⟩, D1, hk1⟩ ?_ ?_ hx hx0 ha (fun p hp => hin p (by rw [← List.append_assoc]; exact List.mem_append_left _ hp)) hn ?_)
  · show dp + 1 + 40 < recursionLimit; omega
  · show un + 3 + 300 < cLine; omega
  intro g2 h2 tk2 r TT2 C2 hr
  clear B1 X1 T1 D1 F1 N1
  obtain ⟨⟨A2, B2⟩, F2, XB2, N2, ⟨p2, loose2, mean2, mg2, mb2, TB2⟩, D2, hk2⟩ := id C2
  have X2 := XB2.keeps B2.stays
  have T2 := TB2.keeps B2.stays
  rcases hr with ⟨rfl, hni⟩ | ⟨j, hj, rfl⟩
  · rw [told_off hni] at hQ
    k_steps
    refine leaveC TT2 (by assumption) (by assumption) (fun h₀' T C => hQ h₀' _ _ T C)
  · rw [told_at hn.nodup hj] at hQ
    have hjl : j < nd.length := by rw [hn.len]; exact (List.getElem?_eq_some_iff.mp hj).1
    obtain ⟨n, hnj, had⟩ := adOf_lt hjl
    rw [had]
    have hobj : ∀ p ∈ objsOf 71 nd, p ∈ news := fun p hp => hin _ (List.mem_append_right _ (List.mem_append_left _ hp))
    have hA1 : (n.a, ({ cls := .ref 71, dict := some n.dx, data := .plain, slots := #[some (.ref n.c), some n.fail, some n.out, some n.tok] } : Obj)) ∈ news := hobj _ (mem_objs.mpr ⟨j, n, hnj, .head _⟩)
    have hA2 : (n.dx, dictOf [] 0) ∈ news := hobj _ (mem_objs.mpr ⟨j, n, hnj, .tail _ (.head _)⟩)
    obtain ⟨oo, hoo⟩ : ∃ oo, O[j]? = some oo := ⟨O[j]'(by rw [ho.len]; exact hjl), by simp⟩
    rw [hoo] at hQ
    cases oo with
    | none =>
      have hout := ho.none_ j n hnj hoo
      rw [hout] at hA1
      k_steps
      refine plain_ne (C := 38) (X2.keeps (by rename Fr _ _ _ _ => kF; exact kF.keep)) ⟨by k_is, ⟨_, by k_is, rfl⟩, by k_is, by k_is, by k_is, by k_is⟩ (by show un + 3 + 1 < cLine; omega) ?_
      k_steps
      refine leaveC TT2 (by assumption) (by assumption) (fun h₀' T C => hQ h₀' _ _ T C)
    | some xy =>
      obtain ⟨ta, t1, u1, hout, hm⟩ := ho.some_ j n xy.1 xy.2 hnj hoo
      rw [hout] at hA1
      have hmt : (ta, pairObj xy.1 t1 xy.2 u1) ∈ news := hin _ (List.mem_append_right _ (List.mem_append_right _ hm))
      unfold pairObj tupO at hmt
      have hne : ta ≠ 44 := fun e => by
        have h1 := (N2 _ hmt).2.2
        have h2 := X2 44 _ (by k_is)
        rw [e, h2] at h1; cases h1
      k_steps
      refine tup_ne_plain (C := 38) (vs := [_, _]) (X2.keeps (by rename Fr _ _ _ _ => kF; exact kF.keep)) ⟨by k_is, ⟨_, by k_is, rfl⟩, by k_is, by k_is, by k_is, by k_is⟩ (by rename News _ _ _ _ => kN; exact (kN _ hmt).1) hne.symm (by show un + 3 + 1 < cLine; omega) ?_
      k_steps
      refine leaveC TT2 (by assumption) (by assumption) (fun h₀' T C => hQ h₀' _ _ T C)
theorem get_spec1 {x d : Str} {t td : Tok} {H : TrieHd} {cv : Bool} {nd : List Nd} {P : List (List Str)} {O : List (Option (Str × Str))} {rest : List (Addr × Obj)}
   (C : Cx (Mine.hd.heap_39 w.params) cs outer base h₀ L s.heap m news) (hd : dp + 50 < recursionLimit) (hu : un + 400 < cLine) (hx : x.length ≤ 1000) (hx0 : x.length ≠ 0) (ha : x.cps.all (· < 128) = true)
   (hin : ∀ p ∈ hdObjs w.params 171 cv H (adOf nd 0) ++ (objsOf 71 nd ++ rest), p ∈ news) (hn : NodesOk prog w nd P) (ho : Outs 44 nd O rest)
   (hQ : ∀ h₀' h' tk' r, KtsTurn (frs outer) h₀ h₀' → Cx (Mine.hd.heap_39 w.params) cs outer base h₀' L h' m news →
     (match told P O ((splitTok (Txt.lower x)).filter nonblank) with | none => r = .str d td | some (x', y') => ∃ ta t' u', r = .ref ta ∧ (ta, pairObj x' t' y' u') ∈ news) → Q r { s with heap := h', toks := tk' }) :
   wpAny (model prog w) (ktrTop dp un gd cn cs L a ccd cl outer) (call (.ref 110) [.ref H.tr, .str x t, .str d td]) Q E s := by
  obtain ⟨⟨A0, B0⟩, F0, XB0, N0, ⟨p0, loose0, mean0, mg0, mb0, TB0⟩, D0, hk0⟩ := id C
  have X0 := XB0.keeps B0.stays
  have T0 := TB0.keeps B0.stays
  refine wpAny_call ?_
  k_dflt (refine' enterC C ?kA ?kF ?kK ?k6 ?k7 ?k8 ?k9 ?kB ?_ ?c2 ?c3 ?c4 ?c5; (case kA => exact rfl); (case kF => exact rfl); (case kK => exact hk0); (case k6 => k_is); (case k7 => k_is); (case k8 => (show dp < _; omega)); (case k9 => first | exact BindsTo.of_eq rfl | exact binds_K (by k_in) rfl (by k_is) rfl rfl rfl); (case kB => exact locs rfl); (case c2 => exact rfl); (case c3 => exact rfl); (case c4 => exact rfl); (case c5 => decide); k_whole)
  intro g L1 hh1 C1 hlt1
  clear B0 F0 N0 X0 T0 D0
  obtain ⟨⟨A1, B1⟩, F1, XB1, N1, ⟨p1, loose1, mean1, mg1, mb1, TB1⟩, D1, hk1⟩ := id C1
  have X1 := XB1.keeps B1.stays
  have T1 := TB1.keeps B1.stays
  dsimp only
  try k_fold
  have htr : (H.tr, ({ cls := .ref 171, dict := some H.dx, data := .plain } : Obj)) ∈ news := hin _ (.head _)
  have hdx : (H.dx, dictOf (hdEnts w.params cv H (adOf nd 0)) 3) ∈ news := hin _ (.tail _ (.head _))
  unfold hdEnts at hdx
  k_steps
  refine Stop.off ?_
  k_dflt (refine getnode_spec ⟨⟨_, B1⟩, by assumption, XB1, by assumption, ⟨_, _, _, _, _, TB1⟩, D1, hk1⟩ ?_ ?_ hx hx0 ha (fun p hp => hin p (by rw [← List.append_assoc]; exact List.mem_append_left _ hp)) hn ?_)
  · show dp + 1 + 40 < recursionLimit; omega
  · show un + 3 + 300 < cLine; omega
  intro g2 h2 tk2 r TT2 C2 hr
  clear B1 X1 T1 D1 F1 N1
  obtain ⟨⟨A2, B2⟩, F2, XB2, N2, ⟨p2, loose2, mean2, mg2, mb2, TB2⟩, D2, hk2⟩ := id C2
  have X2 := XB2.keeps B2.stays
  have T2 := TB2.keeps B2.stays
  rcases hr with ⟨rfl, hni⟩ | ⟨j, hj, rfl⟩
  · rw [told_off hni] at hQ
    k_steps
    refine leaveC TT2 (by assumption) (by assumption) (fun h₀' T C => hQ h₀' _ _ _ T C rfl)
  · rw [told_at hn.nodup hj] at hQ
    have hjl : j < nd.length := by rw [hn.len]; exact (List.getElem?_eq_some_iff.mp hj).1
    obtain ⟨n, hnj, had⟩ := adOf_lt hjl
    rw [had]
    have hobj : ∀ p ∈ objsOf 71 nd, p ∈ news := fun p hp => hin _ (List.mem_append_right _ (List.mem_append_left _ hp))
    have hA1 : (n.a, ({ cls := .ref 71, dict := some n.dx, data := .plain, slots := #[some (.ref n.c), some n.fail, some n.out, some n.tok] } : Obj)) ∈ news := hobj _ (mem_objs.mpr ⟨j, n, hnj, .head _⟩)
    have hA2 : (n.dx, dictOf [] 0) ∈ news := hobj _ (mem_objs.mpr ⟨j, n, hnj, .tail _ (.head _)⟩)
    obtain ⟨oo, hoo⟩ : ∃ oo, O[j]? = some oo := ⟨O[j]'(by rw [ho.len]; exact hjl), by simp⟩
    rw [hoo] at hQ
    cases oo with
    | none =>
      have hout := ho.none_ j n hnj hoo
      rw [hout] at hA1
      k_steps
      refine leaveC TT2 (by assumption) (by assumption) (fun h₀' T C => hQ h₀' _ _ _ T C rfl)
    | some xy =>
      obtain ⟨ta, t1, u1, hout, hm⟩ := ho.some_ j n xy.1 xy.2 hnj hoo
      rw [hout] at hA1
      have hmt : (ta, pairObj xy.1 t1 xy.2 u1) ∈ news := hin _ (List.mem_append_right _ (List.mem_append_right _ hm))
      unfold pairObj tupO at hmt
      have hne : ta ≠ 44 := fun e => by
        have h1 := (N2 _ hmt).2.2
        have h2 := X2 44 _ (by k_is)
        rw [e, h2] at h1; cases h1
      k_steps
      refine is_ref_off hne (by rename News _ _ _ _ => kN; exact (kN _ hmt).1) ((X2.keeps (by rename Fr _ _ _ _ => kF; exact kF.keep)) _ _ (by k_is)) (by intro e; cases e) ?_
      k_steps
      refine leaveC TT2 (by assumption) (by assumption) (fun h₀' T C => hQ h₀' _ _ _ T C ⟨_, _, _, rfl, hmt⟩)
end
end Mine
end
section
theorem Mine.switch_S6 : True := by
  w_top off
  trivial
open Lean Elab Tactic Meta PySem PySem.W PySem.Calls PyProof.Rows
set_option pp.deepTerms false
set_option pp.maxSteps 800
set_option pp.deepTerms.threshold 5
namespace Mine
local macro_rules | `(tactic| walk_at "exec For Name Name cons nil") => `(tactic| (refine Mine.Stop.on ?_))
local macro_rules | `(tactic| walk_at "exec For Name Call cons nil") => `(tactic| (refine Mine.Stop.on ?_))
local macro_rules | `(tactic| walk_at "exec Assign cons ListComp") => `(tactic| (refine Mine.Stop.on ?_))
local macro_rules | `(tactic| walk_at "LeaveC") => `(tactic| fail "here")
local macro_rules | `(tactic| k_room) => `(tactic| first | ktr_room | ((simp only [Mine.mark_depth, depth_under_make, depth_under_kw, depth_in1, depth_deeper, depth_caller]); (try dsimp only [ktrTop]); (try simp only [recursionLimit] at *); omega))
local macro_rules | `(tactic| k_all) => `(tactic| first | assumption | exact Mine.offLt (by assumption) | exact Mine.offLt2 (by assumption) (by assumption) | (refine List.forall_mem_append.mpr ⟨?a, ?b⟩; (case a => k_all); (case b => k_all)))
local macro_rules | `(tactic| walk_at "setItem ref str") => `(tactic| (k_here; k_dflt (refine' kda_setB (knd := PySem.strKind _ _) ?F ?N ?hm ?d (strKind_is _ _ _ _) ?z ?_; (case F => k_asm); (case N => k_asm); (case hm => k_mem); (case d => k_asm); (case z => k_asm)); intro h' o' F' N' hd'))
local macro_rules | `(tactic| walk_at "compareOp Is str ref") => `(tactic| (k_here; refine wpAny_is_other (by rfl) (by intro x; cases x) ?_))
local macro_rules | `(tactic| k_mem) => `(tactic| assumption)
local macro_rules | `(tactic| walk_at "eval Name") => `(tactic| (k_here; (with_reducible show wpAny _ _ (eval (Expr.Name _ _) (envOf _ _ _ _ _)) _ _ _); k_dflt (refine' ld ?k1 ?k2 ?_; (case k1 => k_asm); (case k2 => first | exact rfl | assumption); k_whole)))
local macro_rules | `(tactic| walk_at "eval Name") => `(tactic| (k_here; (with_reducible show wpAny _ _ (eval (Expr.Name _ _) (envOfC _ _ _ _ _)) _ _ _); k_dflt (refine' nameX_L ?F ?v ?_ ?a ?b; (case F => k_asm); (case a => rfl); (case b => rfl); (case v => first | rfl | assumption); k_whole)))
def cell (ns : List Int) (i : Nat) : Nat := if h : i < ns.length then ns[i].natAbs % 9973 else 7 * i + 3
theorem cell_in {ns : List Int} {i : Nat} (h : (i : Int) < (ns.length : Int)) : Int.fmod (if ns.getD ((i : Int)).toNat 0 < 0 then - ns.getD ((i : Int)).toNat 0 else ns.getD ((i : Int)).toNat 0) 9973 = ((cell ns i : Nat) : Int) := by
  have h' : i < ns.length := by omega
  rw [Int.toNat_natCast]
  have e : ns.getD i 0 = ns[i] := by simp [List.getD, h']
  rw [e]
  unfold cell
  rw [dif_pos h', Int.fmod_eq_emod_of_nonneg _ (by decide)]
  split <;> omega
theorem cell_out {ns : List Int} {i : Nat} (h : ¬ (i : Int) < (ns.length : Int)) : (7 * (i : Int) + 3) = ((cell ns i : Nat) : Int) := by
  have h' : ¬ i < ns.length := by omega
  unfold cell
  rw [dif_neg h']; omega
theorem cell_lt (ns : List Int) (i : Nat) (h : i ≤ 1000) : cell ns i < 9973 := by
  unfold cell
  split <;> omega
section
variable {prog : Program} {w : World} {dp un : Nat} {gd : Option (List Code)} {cn : Str} {cs : Scope} {a : Addr} {ccd : Value} {cl : List (Str × Addr)} {outer : List Env} {base h₀ : Heap} {L : Addr} {m : Str → Option Value} {news : List (Addr × Obj)} {s : Shared} {Q E : Value → Shared → Prop}
set_option maxRecDepth 100000
set_option maxHeartbeats 8000000
theorem cell_spec {l : Addr} {vs : List Value} {ns : List Int} {i : Nat} {t : Tok} (C : Cx (Mine.hd.heap_39 w.params) cs outer base h₀ L s.heap m news) (hd : dp + 10 < recursionLimit) (hu : un + 100 < cLine)
   (hS : base.IsList l vs.toArray) (hI : IntsAre vs ns) (hl : ns.length ≤ 63) (hi : i ≤ 1000)
   (hQ : ∀ h' tk' t', Cx (Mine.hd.heap_39 w.params) cs outer base h₀ L h' m news → Q (.int (cell ns i) t') { s with heap := h', toks := tk' }) :
   wpAny (model prog w) (ktrTop dp un gd cn cs L a ccd cl outer) (call (.ref 294) [.ref l, .int i t]) Q E s := by
  obtain ⟨⟨A0, B0⟩, F0, XB0, N0, ⟨p0, loose0, mean0, mg0, mb0, TB0⟩, D0, hk0⟩ := id C
  have X0 := XB0.keeps B0.stays
  have T0 := TB0.keeps B0.stays
  refine wpAny_call ?_
  k_dflt (refine' enterC C ?kA ?kF ?kK ?k6 ?k7 ?k8 ?k9 ?kB ?_ ?c2 ?c3 ?c4 ?c5; (case kA => exact rfl); (case kF => exact rfl); (case kK => exact hk0); (case k6 => k_is); (case k7 => k_is); (case k8 => (show dp < _; omega)); (case k9 => first | exact BindsTo.of_eq rfl | exact binds_K (by k_in) rfl (by k_is) rfl rfl rfl); (case kB => exact locs rfl); (case c2 => exact rfl); (case c3 => exact rfl); (case c4 => exact rfl); (case c5 => decide); k_whole)
  intro g L1 hh1 C1 hlt1
  clear B0 F0 N0 X0 T0 D0
  obtain ⟨⟨A1, B1⟩, F1, XB1, N1, ⟨p1, loose1, mean1, mg1, mb1, TB1⟩, D1, hk1⟩ := id C1
  have X1 := XB1.keeps B1.stays
  have T1 := TB1.keeps B1.stays
  dsimp only
  try k_fold
  have hS1 : g.IsList l vs.toArray := hS.at fun o e => B1.stays _ _ e
  k_steps
  · rw [cell_in (by assumption)]
    refine leaveC0 (by assumption) (by assumption) fun C => hQ _ _ _ C
  · rw [cell_out (by assumption)]
    refine leaveC0 (by assumption) (by assumption) fun C => hQ _ _ _ C
end
end Mine
end
section
theorem Mine.switch_S7 : True := by
  w_top off
  trivial
open Lean Elab Tactic Meta PySem PySem.W PySem.Calls PyProof.Rows
set_option pp.deepTerms false
set_option pp.maxSteps 800
set_option pp.deepTerms.threshold 5
namespace Mine
local macro_rules | `(tactic| walk_at "exec For Name Name cons nil") => `(tactic| (refine Mine.Stop.on ?_))
local macro_rules | `(tactic| walk_at "exec For Name Call cons nil") => `(tactic| (refine Mine.Stop.on ?_))
local macro_rules | `(tactic| walk_at "exec Assign cons ListComp") => `(tactic| (refine Mine.Stop.on ?_))
local macro_rules | `(tactic| walk_at "LeaveC") => `(tactic| fail "here")
local macro_rules | `(tactic| k_room) => `(tactic| first | ktr_room | ((simp only [Mine.mark_depth, depth_under_make, depth_under_kw, depth_in1, depth_deeper, depth_caller]); (try dsimp only [ktrTop]); (try simp only [recursionLimit] at *); omega))
local macro_rules | `(tactic| k_all) => `(tactic| first | assumption | exact Mine.offLt (by assumption) | exact Mine.offLt2 (by assumption) (by assumption) | (refine List.forall_mem_append.mpr ⟨?a, ?b⟩; (case a => k_all); (case b => k_all)))
local macro_rules | `(tactic| walk_at "setItem ref str") => `(tactic| (k_here; k_dflt (refine' kda_setB (knd := PySem.strKind _ _) ?F ?N ?hm ?d (strKind_is _ _ _ _) ?z ?_; (case F => k_asm); (case N => k_asm); (case hm => k_mem); (case d => k_asm); (case z => k_asm)); intro h' o' F' N' hd'))
local macro_rules | `(tactic| walk_at "compareOp Is str ref") => `(tactic| (k_here; refine wpAny_is_other (by rfl) (by intro x; cases x) ?_))
local macro_rules | `(tactic| k_mem) => `(tactic| assumption)
local macro_rules | `(tactic| walk_at "eval Name") => `(tactic| (k_here; (with_reducible show wpAny _ _ (eval (Expr.Name _ _) (envOf _ _ _ _ _)) _ _ _); k_dflt (refine' ld ?k1 ?k2 ?_; (case k1 => k_asm); (case k2 => first | exact rfl | assumption); k_whole)))
local macro_rules | `(tactic| walk_at "eval Name") => `(tactic| (k_here; (with_reducible show wpAny _ _ (eval (Expr.Name _ _) (envOfC _ _ _ _ _)) _ _ _); k_dflt (refine' nameX_L ?F ?v ?_ ?a ?b; (case F => k_asm); (case a => rfl); (case b => rfl); (case v => first | rfl | assumption); k_whole)))
local macro_rules | `(tactic| walk_at "call ref") => `(tactic| ((with_reducible show wpAny _ _ (call (Value.ref 294) _) _ _ _); refine Mine.Stop.on ?_))
local macro_rules | `(tactic| walk_at "eval ListComp") => `(tactic| (refine Mine.Stop.on ?_))
local macro_rules | `(tactic| walk_at "CompSrc") => `(tactic| (refine Mine.Stop.on ?_))
local macro_rules | `(tactic| walk_at "subscriptTail") => `(tactic| ((with_reducible show wpAny _ _ (subscriptTail _ _ (Value.ref 287) (Value.int _ _)) _ _ _); refine Mine.Stop.on ?_))
def lawWords : List Str := ["mit", "gpl", "2.0", "(", "or"]
def keyN (c : Nat) : Nat := 1 + c / 125 % 3
def keyAt (c p : Nat) : Str := lawWords.getD (c / 5 ^ p % 5) ""
def keyOf (c : Nat) : List Str := (List.range (keyN c)).map (keyAt c)
theorem words_at {w : World} {h : Heap} (X : (Mine.hd.heap_39 w.params).In h) : ∃ vs, h.IsList 287 vs.toArray ∧ StrsAre vs lawWords :=
  ⟨_, ⟨_, X 287 _ (by k_is), rfl, _, rfl⟩, .cons _ _ (.cons _ _ (.cons _ _ (.cons _ _ (.cons _ _ .nil))))⟩
theorem idx_eq {c j : Nat} {e : Int} (he : e = ((5 ^ j : Nat) : Int)) : ((c : Int).fdiv e).fmod 5 = ((c / 5 ^ j % 5 : Nat) : Int) := by
  subst he
  rw [Int.fdiv_eq_ediv_of_nonneg _ (Int.natCast_nonneg _), Int.fmod_eq_emod_of_nonneg _ (by decide)]; rfl
theorem keyAt_get (c j : Nat) : lawWords[c / 5 ^ j % 5]? = some (keyAt c j) := by
  have h : c / 5 ^ j % 5 < lawWords.length := Nat.mod_lt _ (by decide)
  unfold keyAt
  rw [List.getD_eq_getElem?_getD, List.getElem?_eq_getElem h]; rfl
section
variable {prog : Program} {w : World} {dp un : Nat} {gd : Option (List Code)} {cn : Str} {cs : Scope} {a : Addr} {ccd : Value} {cl : List (Str × Addr)} {outer : List Env} {base h₀ : Heap} {L : Addr} {m : Str → Option Value} {news : List (Addr × Obj)} {s : Shared} {Q E : Value → Shared → Prop}
set_option maxRecDepth 100000
set_option maxHeartbeats 8000000
theorem key_spec {l : Addr} {vs : List Value} {ns : List Int} {i : Nat} {t : Tok} (C : Cx (Mine.hd.heap_39 w.params) cs outer base h₀ L s.heap m news) (hd : dp + 20 < recursionLimit) (hu : un + 200 < cLine)
   (hS : base.IsList l vs.toArray) (hI : IntsAre vs ns) (hl : ns.length ≤ 63) (hi : i ≤ 1000)
   (hQ : ∀ h' tk' l vs' n, Cx (Mine.hd.heap_39 w.params) cs outer base h₀ L h' m ((l, listOf vs'.toArray n) :: news) → (∀ p ∈ news, p.1 ≠ l) → StrsAre vs' (keyOf (cell ns i)) → Q (.ref l) { s with heap := h', toks := tk' }) :
   wpAny (model prog w) (ktrTop dp un gd cn cs L a ccd cl outer) (call (.ref 299) [.ref l, .int i t]) Q E s := by
  obtain ⟨⟨A0, B0⟩, F0, XB0, N0, ⟨p0, loose0, mean0, mg0, mb0, TB0⟩, D0, hk0⟩ := id C
  have X0 := XB0.keeps B0.stays
  have T0 := TB0.keeps B0.stays
  refine wpAny_call ?_
  k_dflt (refine' enterCC C ?kA ?kF ?kK ?k6 ?k7 ?k8 ?k9 ?kB ?kD ?_ ?c2 ?c3 ?c4; (case kA => exact rfl); (case kF => exact rfl); (case kK => exact hk0); (case k6 => k_is); (case k7 => k_is); (case k8 => (show dp < _; omega)); (case k9 => first | exact BindsTo.of_eq rfl | exact binds_K (by k_in) rfl (by k_is) rfl rfl rfl); (case kB => exact rfl); (case kD => decide +kernel); (case c2 => exact rfl); (case c3 => exact rfl); (case c4 => exact rfl); k_whole)
  intro g L1 hh1 tk1 cells1 C1 Y1 hlt1
  have hlt1c : ∀ p ∈ news, p.1 < L1 + 1 := fun p hp => Nat.lt_succ_of_lt (hlt1 p hp)
  k_cells Y1
  try simp only [List.cons_append, List.nil_append] at C1
  clear B0 F0 N0 X0 T0 D0
  obtain ⟨⟨A1, B1⟩, F1, XB1, N1, ⟨p1, loose1, mean1, mg1, mb1, TB1⟩, D1, hk1⟩ := id C1
  have X1 := XB1.keeps B1.stays
  have T1 := TB1.keeps B1.stays
  dsimp only
  try k_fold
  k_steps
  refine Stop.off ?_
  k_dflt (refine cell_spec ⟨⟨_, B1⟩, by assumption, XB1, by assumption, ⟨_, _, _, _, _, TB1⟩, D1, hk1⟩ ?_ ?_ hS hI hl hi ?_)
  · show dp + 1 + 10 < recursionLimit; omega
  · show un + 3 + 100 < cLine; omega
  intro h2 tk2 t2 C2
  have F2 := C2.F
  have N2 := C2.N
  have hc := cell_lt ns i hi
  generalize cell ns i = c at *
  clear C2 F1 N1
  k_steps
  refine Stop.off ?_
  k_dflt (refine LCg.ListComp_U (F₀ := by k_asm) (by with_unfolding_all rfl) (by decide) (by rfl) (by decide) (by rfl) ?_)
  k_steps
  refine Stop.off ?_
  have hk1 : keyN c ≤ 3 := by unfold keyN; omega
  have hb : (1 + ((c : Int).fdiv 125).fmod 3) = 0 + ((keyN c : Nat) : Int) := by
    unfold keyN
    rw [Int.fdiv_eq_ediv_of_nonneg _ (by decide), Int.fmod_eq_emod_of_nonneg _ (by decide)]; omega
  rename IsRange _ _ _ _ _ _ _ _ => hR
  rw [hb] at hR
  obtain ⟨hr1, hr2⟩ := range_facts (a := 0) (n := keyN c) (.inl rfl) (by omega)
  rename Fr _ _ _ _ => F3
  rename News _ _ _ _ => N3
  rename_i hcell _ _ _ _ _ _ _ _ _ _
  obtain ⟨lw, hlw, hlws⟩ := words_at (X1.keeps F3.keep)
  k_dflt (refine LCg.CompSrc.range (by rfl) F3 N3 hR hr1 hr2 (by rw [sizeLine_eq]; omega) (fun _ => rest_ind (fun j ys nx => nx = (L1 + 1, _) :: news ∧ StrsAre ys ((List.range j).map (keyAt c))) ?_ ?_ _ 0 _ _ (Nat.zero_add _) ⟨rfl, .nil⟩))
  · rintro ys nx ⟨rfl, hys⟩ D h tk F N off
    refine leaveC0 F (News.sub (l' := (D, listOf ys.toArray ys.length) :: news) N fun p hp => ?_) fun C => hQ _ _ D ys ys.length C (fun p hp => ?_) hys
    · rcases List.mem_cons.mp hp with rfl | hp
      · exact .head _
      · exact .tail _ (.tail _ hp)
    · exact off1_mem off p (.tail _ hp)
  · rintro j ys nx v I oI C oC D m₂ h tk E' hj ⟨rfl, hys⟩ ⟨tv, rfl⟩ hC hxv F N off ne
    obtain ⟨lw, hlw, hlws⟩ := words_at (X1.keeps F.keep)
    have hj3 : j = 0 ∨ j = 1 ∨ j = 2 := by omega
    rcases hj3 with rfl | rfl | rfl
    · k_steps
      refine Stop.off ?_
      obtain ⟨tw, htw⟩ := strs_get hlws (keyAt_get c 0)
      rw [idx_eq (j := 0)]
      · refine list_item hlw (by omega) (by omega) (by rw [Int.toNat_natCast]; simpa using htw) ?_
        refine LCg.CompEnd.intro (by assumption) (by assumption) _ (fun p hp => hp) off trivial ⟨rfl, ?_⟩
        rw [List.range_succ, List.map_append]
        exact strs_snoc hys _ _
      · decide
    · k_steps
      refine Stop.off ?_
      obtain ⟨tw, htw⟩ := strs_get hlws (keyAt_get c 1)
      rw [idx_eq (j := 1)]
      · refine list_item hlw (by omega) (by omega) (by rw [Int.toNat_natCast]; simpa using htw) ?_
        refine LCg.CompEnd.intro (by assumption) (by assumption) _ (fun p hp => hp) off trivial ⟨rfl, ?_⟩
        rw [List.range_succ, List.map_append]
        exact strs_snoc hys _ _
      · decide
    · k_steps
      refine Stop.off ?_
      obtain ⟨tw, htw⟩ := strs_get hlws (keyAt_get c 2)
      rw [idx_eq (j := 2)]
      · refine list_item hlw (by omega) (by omega) (by rw [Int.toNat_natCast]; simpa using htw) ?_
        refine LCg.CompEnd.intro (by assumption) (by assumption) _ (fun p hp => hp) off trivial ⟨rfl, ?_⟩
        rw [List.range_succ, List.map_append]
        exact strs_snoc hys _ _
      · decide
end
end Mine
end
section
theorem Mine.switch_S8 : True := by
  w_top off
  trivial
open Lean Elab Tactic Meta PySem PySem.W PySem.Calls PyProof.Rows
set_option pp.deepTerms false
set_option pp.maxSteps 800
set_option pp.deepTerms.threshold 5
namespace Mine
local macro_rules | `(tactic| walk_at "exec For Name Name cons nil") => `(tactic| (refine Mine.Stop.on ?_))
local macro_rules | `(tactic| walk_at "exec For Name Call cons nil") => `(tactic| (refine Mine.Stop.on ?_))
local macro_rules | `(tactic| walk_at "exec Assign cons ListComp") => `(tactic| (refine Mine.Stop.on ?_))
local macro_rules | `(tactic| walk_at "LeaveC") => `(tactic| fail "here")
local macro_rules | `(tactic| k_room) => `(tactic| first | ktr_room | ((simp only [Mine.mark_depth, depth_under_make, depth_under_kw, depth_in1, depth_deeper, depth_caller]); (try dsimp only [ktrTop]); (try simp only [recursionLimit] at *); omega))
local macro_rules | `(tactic| k_all) => `(tactic| first | assumption | exact Mine.offLt (by assumption) | exact Mine.offLt2 (by assumption) (by assumption) | (refine List.forall_mem_append.mpr ⟨?a, ?b⟩; (case a => k_all); (case b => k_all)))
local macro_rules | `(tactic| walk_at "setItem ref str") => `(tactic| (k_here; k_dflt (refine' kda_setB (knd := PySem.strKind _ _) ?F ?N ?hm ?d (strKind_is _ _ _ _) ?z ?_; (case F => k_asm); (case N => k_asm); (case hm => k_mem); (case d => k_asm); (case z => k_asm)); intro h' o' F' N' hd'))
local macro_rules | `(tactic| walk_at "compareOp Is str ref") => `(tactic| (k_here; refine wpAny_is_other (by rfl) (by intro x; cases x) ?_))
local macro_rules | `(tactic| k_mem) => `(tactic| assumption)
local macro_rules | `(tactic| walk_at "eval Name") => `(tactic| (k_here; (with_reducible show wpAny _ _ (eval (Expr.Name _ _) (envOf _ _ _ _ _)) _ _ _); k_dflt (refine' ld ?k1 ?k2 ?_; (case k1 => k_asm); (case k2 => first | exact rfl | assumption); k_whole)))
local macro_rules | `(tactic| walk_at "eval Name") => `(tactic| (k_here; (with_reducible show wpAny _ _ (eval (Expr.Name _ _) (envOfC _ _ _ _ _)) _ _ _); k_dflt (refine' nameX_L ?F ?v ?_ ?a ?b; (case F => k_asm); (case a => rfl); (case b => rfl); (case v => first | rfl | assumption); k_whole)))
local macro_rules | `(tactic| walk_at "call builtin:str.join") => `(tactic| (refine Mine.Stop.on ?_))
def textOf (ws : List Str) (b : Bool) : Str := if b = true then Txt.upper (Txt.join (Str.ofString " ") ws) else Txt.join (Str.ofString " ") ws
theorem join_len (ws : List Str) : (Txt.join (Str.ofString " ") ws).length ≤ (ws.map (·.length)).sum + ws.length := by
  rw [show Txt.join (Str.ofString " ") ws = Str.join (Str.ofString " ") ws from by simpa using join_plain_closes (Str.ofString " ") ws]
  induction ws with
  | nil => exact Nat.le_refl _
  | cons x r ih =>
    cases r with
    | nil => rw [join_one]; simp
    | cons y r =>
      rw [join_cons_cons, str_app_len, str_app_len]
      have e : (Str.ofString " ").length = 1 := rfl
      simp only [List.map_cons, List.sum_cons, List.length_cons] at *
      omega
section
variable {prog : Program} {w : World} {dp un : Nat} {gd : Option (List Code)} {cn : Str} {cs : Scope} {a : Addr} {ccd : Value} {cl : List (Str × Addr)} {outer : List Env} {base h₀ : Heap} {L : Addr} {m : Str → Option Value} {news : List (Addr × Obj)} {s : Shared} {Q E : Value → Shared → Prop}
set_option maxRecDepth 100000
set_option maxHeartbeats 8000000
theorem text_spec {lw : Addr} {vs : List Value} {n : Nat} {ws : List Str} {b : Bool} (C : Cx (Mine.hd.heap_39 w.params) cs outer base h₀ L s.heap m news) (hd : dp + 10 < recursionLimit) (hu : un + 100 < cLine)
   (hm : (lw, listOf vs.toArray n) ∈ news) (hvs : StrsAre vs ws) (hw : (ws.map (·.length)).sum + ws.length ≤ 100)
   (hQ : ∀ h' tk' t', Cx (Mine.hd.heap_39 w.params) cs outer base h₀ L h' m news → Q (.str (textOf ws b) t') { s with heap := h', toks := tk' }) :
   wpAny (model prog w) (ktrTop dp un gd cn cs L a ccd cl outer) (call (.ref 306) [.ref lw, .bool b]) Q E s := by
  obtain ⟨⟨A0, B0⟩, F0, XB0, N0, ⟨p0, loose0, mean0, mg0, mb0, TB0⟩, D0, hk0⟩ := id C
  have X0 := XB0.keeps B0.stays
  have T0 := TB0.keeps B0.stays
  refine wpAny_call ?_
  k_dflt (refine' enterC C ?kA ?kF ?kK ?k6 ?k7 ?k8 ?k9 ?kB ?_ ?c2 ?c3 ?c4 ?c5; (case kA => exact rfl); (case kF => exact rfl); (case kK => exact hk0); (case k6 => k_is); (case k7 => k_is); (case k8 => (show dp < _; omega)); (case k9 => first | exact BindsTo.of_eq rfl | exact binds_K (by k_in) rfl (by k_is) rfl rfl rfl); (case kB => exact locs rfl); (case c2 => exact rfl); (case c3 => exact rfl); (case c4 => exact rfl); (case c5 => decide); k_whole)
  intro g L1 hh1 C1 hlt1
  clear B0 F0 N0 X0 T0 D0
  obtain ⟨⟨A1, B1⟩, F1, XB1, N1, ⟨p1, loose1, mean1, mg1, mb1, TB1⟩, D1, hk1⟩ := id C1
  have X1 := XB1.keeps B1.stays
  have T1 := TB1.keeps B1.stays
  dsimp only
  try k_fold
  k_steps
  refine Stop.off ?_
  refine join_listW (PySem.IsL.isList (n := n) (N1 _ hm).1) hvs (by decide) (by omega) fun t' k => ?_
  have hyl := join_len ws
  unfold textOf at hQ
  generalize Txt.join (Str.ofString " ") ws = y at *
  have hyl2 : y.length ≤ 1000 := by omega
  cases b with
  | true =>
    k_steps
    refine leaveC0 (by assumption) (by assumption) fun C => hQ _ _ _ C
  | false =>
    k_steps
    refine leaveC0 (by assumption) (by assumption) fun C => hQ _ _ _ C
end
end Mine
end
section
theorem Mine.switch_S9 : True := by
  w_top off
  trivial
open Lean Elab Tactic Meta PySem PySem.W PySem.Calls PyProof.Rows
set_option pp.deepTerms false
set_option pp.maxSteps 800
set_option pp.deepTerms.threshold 5
namespace Mine
local macro_rules | `(tactic| walk_at "exec For Name Name cons nil") => `(tactic| (refine Mine.Stop.on ?_))
local macro_rules | `(tactic| walk_at "exec For Name Call cons nil") => `(tactic| (refine Mine.Stop.on ?_))
local macro_rules | `(tactic| walk_at "exec Assign cons ListComp") => `(tactic| (refine Mine.Stop.on ?_))
local macro_rules | `(tactic| walk_at "LeaveC") => `(tactic| fail "here")
local macro_rules | `(tactic| k_room) => `(tactic| first | ktr_room | ((simp only [Mine.mark_depth, depth_under_make, depth_under_kw, depth_in1, depth_deeper, depth_caller]); (try dsimp only [ktrTop]); (try simp only [recursionLimit] at *); omega))
local macro_rules | `(tactic| k_all) => `(tactic| first | assumption | exact Mine.offLt (by assumption) | exact Mine.offLt2 (by assumption) (by assumption) | (refine List.forall_mem_append.mpr ⟨?a, ?b⟩; (case a => k_all); (case b => k_all)))
local macro_rules | `(tactic| walk_at "setItem ref str") => `(tactic| (k_here; k_dflt (refine' kda_setB (knd := PySem.strKind _ _) ?F ?N ?hm ?d (strKind_is _ _ _ _) ?z ?_; (case F => k_asm); (case N => k_asm); (case hm => k_mem); (case d => k_asm); (case z => k_asm)); intro h' o' F' N' hd'))
local macro_rules | `(tactic| walk_at "compareOp Is str ref") => `(tactic| (k_here; refine wpAny_is_other (by rfl) (by intro x; cases x) ?_))
local macro_rules | `(tactic| k_mem) => `(tactic| assumption)
local macro_rules | `(tactic| walk_at "eval Name") => `(tactic| (k_here; (with_reducible show wpAny _ _ (eval (Expr.Name _ _) (envOf _ _ _ _ _)) _ _ _); k_dflt (refine' ld ?k1 ?k2 ?_; (case k1 => k_asm); (case k2 => first | exact rfl | assumption); k_whole)))
local macro_rules | `(tactic| walk_at "eval Name") => `(tactic| (k_here; (with_reducible show wpAny _ _ (eval (Expr.Name _ _) (envOfC _ _ _ _ _)) _ _ _); k_dflt (refine' nameX_L ?F ?v ?_ ?a ?b; (case F => k_asm); (case a => rfl); (case b => rfl); (case v => first | rfl | assumption); k_whole)))
local macro_rules | `(tactic| walk_at "call builtin:len") => `(tactic| (k_here; (with_reducible show wpAny _ _ (call (Value.builtin "len") [Value.ref _]) _ _ _); k_dflt (first | refine len_L (by k_asm) (by k_mem) (by omega) ?_ | refine len_T (by k_asm) (by k_mem) (by omega) ?_)))
local macro_rules | `(tactic| walk_at "subscriptTail") => `(tactic| (k_here; (with_reducible show wpAny _ _ (subscriptTail _ (PySem.Expr.Slice _ _ _ _) (Value.ref _) (Value.ref _)) _ _ _); refine Mine.Stop.on ?_))
local macro_rules | `(tactic| walk_at "compareOp Eq ref ref") => `(tactic| (refine Mine.Stop.on ?_))
local macro_rules | `(tactic| walk_at "compareOp NotEq ref ref") => `(tactic| (refine Mine.Stop.on ?_))
local macro_rules | `(tactic| walk_at "call type:list") => `(tactic| (k_here; k_dflt (refine list_of_tuple (by k_asm) (by k_asm) (by k_mem) (by omega) ?_); intro D' c' h' F' N' l1; (try k_sweep)))
abbrev Row := List Str × Str × Str
def RowIn (news : List (Addr × Obj)) (v : Value) (r : Row) : Prop := ∃ ra wa wv t u, v = .ref ra ∧ (ra, tupO [.ref wa, .str r.2.1 t, .str r.2.2 u]) ∈ news ∧ (wa, tupO wv) ∈ news ∧ StrsAre wv r.1
inductive RowsIn (news : List (Addr × Obj)) : List Value → List Row → Prop
  | nil : RowsIn news [] []
  | cons {v : Value} {r : Row} {vs : List Value} {rs : List Row} : RowIn news v r → RowsIn news vs rs → RowsIn news (v :: vs) (r :: rs)
theorem RowIn.mono {a b : List (Addr × Obj)} {v : Value} {r : Row} (h : RowIn a v r) (k : ∀ p ∈ a, p ∈ b) : RowIn b v r := by
  obtain ⟨ra, wa, wv, t, u, e, h1, h2, h3⟩ := h
  exact ⟨ra, wa, wv, t, u, e, k _ h1, k _ h2, h3⟩
theorem rows_mono {a b : List (Addr × Obj)} (k : ∀ p ∈ a, p ∈ b) : ∀ {vs : List Value} {rows : List Row}, RowsIn a vs rows → RowsIn b vs rows
  | _, _, .nil => .nil
  | _, _, .cons h r => .cons (h.mono k) (rows_mono k r)
theorem rows_len {a : List (Addr × Obj)} : ∀ {vs : List Value} {rows : List Row}, RowsIn a vs rows → vs.length = rows.length
  | _, _, .nil => rfl
  | _, _, .cons _ r => congrArg (· + 1) (rows_len r)
theorem rows_at {a : List (Addr × Obj)} : ∀ {vs : List Value} {rows : List Row}, RowsIn a vs rows → ∀ {i : Nat} {v : Value}, vs[i]? = some v → ∃ r, rows[i]? = some r ∧ RowIn a v r
  | _, _, .nil, _, _, h => by simp at h
  | _, _, .cons (r := r) h _, 0, _, e => ⟨r, rfl, by have e' := Option.some.inj e; rw [← e']; exact h⟩
  | _, _, .cons _ h, i + 1, _, e => by simpa using rows_at h (i := i) (by simpa using e)
theorem rows_app {a : List (Addr × Obj)} : ∀ {vs us : List Value} {rows rs : List Row}, RowsIn a vs rows → RowsIn a us rs → RowsIn a (vs ++ us) (rows ++ rs)
  | _, _, _, _, .nil, h => h
  | _, _, _, _, .cons h r, k => .cons h (rows_app r k)
section
variable {prog : Program} {w : World} {dp un : Nat} {gd : Option (List Code)} {cn : Str} {cs : Scope} {a : Addr} {ccd : Value} {cl : List (Str × Addr)} {outer : List Env} {base h₀ : Heap} {L : Addr} {m : Str → Option Value} {news : List (Addr × Obj)} {s : Shared} {Q E : Value → Shared → Prop}
set_option maxRecDepth 100000
set_option maxHeartbeats 1000000
theorem starts_spec {tb lw : Addr} {tv lv : List Value} {n n' : Nat} {ws : List Str} {rows : List Row} (C : Cx (Mine.hd.heap_39 w.params) cs outer base h₀ L s.heap m news) (hd : dp + 10 < recursionLimit) (hu : un + 100 < cLine)
   (ht : (tb, listOf tv.toArray n) ∈ news) (hr : RowsIn news tv rows) (hm : (lw, listOf lv.toArray n') ∈ news) (hvs : StrsAre lv ws) (hw : (ws.map (·.length)).sum + ws.length ≤ 100) (hrl : rows.length ≤ 10) (hrs : ∀ r ∈ rows, (r.1.map (·.length)).sum + r.1.length ≤ 100)
   (ho : StrsOk ws) (hor : ∀ r ∈ rows, StrsOk r.1)
   (hQ : ∀ h' tk', Cx (Mine.hd.heap_39 w.params) cs outer base h₀ L h' m news → Q (.bool (rows.any fun r => decide (r.1.take ws.length = ws))) { s with heap := h', toks := tk' }) :
   wpAny (model prog w) (ktrTop dp un gd cn cs L a ccd cl outer) (call (.ref 313) [.ref tb, .ref lw]) Q E s := by
  obtain ⟨⟨A0, B0⟩, F0, XB0, N0, ⟨p0, loose0, mean0, mg0, mb0, TB0⟩, D0, hk0⟩ := id C
  have X0 := XB0.keeps B0.stays
  have T0 := TB0.keeps B0.stays
  refine wpAny_call ?_
  k_dflt (refine' enterC C ?kA ?kF ?kK ?k6 ?k7 ?k8 ?k9 ?kB ?_ ?c2 ?c3 ?c4 ?c5; (case kA => exact rfl); (case kF => exact rfl); (case kK => exact hk0); (case k6 => k_is); (case k7 => k_is); (case k8 => (show dp < _; omega)); (case k9 => first | exact BindsTo.of_eq rfl | exact binds_K (by k_in) rfl (by k_is) rfl rfl rfl); (case kB => exact locs rfl); (case c2 => exact rfl); (case c3 => exact rfl); (case c4 => exact rfl); (case c5 => decide); k_whole)
  intro g L1 hh1 C1 hlt1
  clear B0 F0 N0 X0 T0 D0
  obtain ⟨⟨A1, B1⟩, F1, XB1, N1, ⟨p1, loose1, mean1, mg1, mb1, TB1⟩, D1, hk1⟩ := id C1
  have X1 := XB1.keeps B1.stays
  have T1 := TB1.keeps B1.stays
  dsimp only
  try k_fold
  k_steps
  refine Stop.off ?_
  (rename Fr _ _ _ _ => lF; (with_unfolding_all refine' For_invVF lF ?k1 ?k2 ?_; (case k1 => exact rfl); (case k2 => exact rfl); k_whole))
  k_steps
  rename News _ _ _ _ => N4
  refine iter_listJ (l := tb) (vs := tv) (news := news) (fun i m' nx => nx = news ∧ m' "words" = some (.ref lw) ∧ ∀ r ∈ rows.take i, ¬ r.1.take ws.length = ws) (by rfl) (PySem.IsL.isList (n := n) (N4 _ ht).1) (N4 _ ht).2.1 lF N4 ⟨rfl, rfl, by simp⟩ ?_ ?_
  · clear lF N4 C1
    rintro i v m₁ nx I own h tk hv ⟨rfl, hm1, hno⟩ hown hoff ⟨oI, hoI⟩ hlst hlI F₁ N₁
    obtain ⟨r, hri, ra, wa, wv, t, u, rfl, hA, hB, hC⟩ := rows_at hr hv
    replace hA := List.mem_append_left own hA
    replace hB := List.mem_append_left own hB
    replace hm := List.mem_append_left own hm
    have hrl := hrs r (List.mem_of_getElem? hri)
    have hlen1 := strs_len hC
    have hlen2 := strs_len hvs
    have hz1 : wv.length ≤ 1000 := by omega
    have hz2 : lv.length ≤ 1000 := by omega
    generalize hled : nx ++ own = led at *
    try k_fold
    k_steps
    refine Stop.off ?_
    k_dflt (refine slice_tuple_upto (b := lv.length) F₁ N₁ hB (by omega) ?_)
    intro D h2 nx2 F2 N2 hsub hD hcase
    replace hm := hsub _ hm
    have hsl := strs_take hC lv.length
    have ho3 : StrsOk (r.1.take lv.length) := fun x hx => hor r (List.mem_of_getElem? hri) x (List.mem_of_mem_take hx)
    have hz3 : (wv.take lv.length).length ≤ 1000 := by rw [List.length_take]; omega
    clear F₁ N₁
    k_steps
    refine Stop.off ?_
    rename News _ _ _ _ => N3
    rename Fr _ _ _ _ => F3
    k_dflt (refine eq_strsL N3 (.head _) (.tail _ hm) hsl hvs ho3 ho (by show un + 3 + 64 < cLine; omega) ?_)
    k_steps
    · have hyes : r.1.take ws.length = ws := by
        rw [← hlen2]
        assumption
      have e : (rows.any fun r => decide (r.1.take ws.length = ws)) = true := List.any_eq_true.mpr ⟨r, List.mem_of_getElem? hri, decide_eq_true hyes⟩
      rw [e] at hQ
      dsimp only [TurnPost]
      refine leaveC0 (by assumption) (News.sub (l' := nx) (by assumption) fun p hp => .tail _ (hsub _ (hled ▸ List.mem_append_left _ hp))) fun C => hQ _ _ C
    · have hno2 : ¬ r.1.take ws.length = ws := by
        rw [← hlen2]
        assumption
      show TurnEnd _ _ _ _ _ _ _
      rename News _ _ _ _ => nE
      rename Fr _ _ _ _ => fE
      refine TurnEnd.mk nx fE nE (fun p hp => .tail _ (hsub _ (hled ▸ List.mem_append_right _ hp))) (fun p hp => .tail _ (hsub _ (hled ▸ List.mem_append_left _ hp))) hoff ⟨rfl, hm1, fun q hq => ?_⟩
      rw [List.take_add_one, hri] at hq
      rcases List.mem_append.mp hq with hq | hq
      · exact hno q hq
      · have : q = r := by simpa using hq
        rw [this]; exact hno2
  · rintro m₁ nx h tk ⟨rfl, hm1, hno⟩ F₁ N₁
    rw [List.take_of_length_le (Nat.le_of_eq (rows_len hr).symm)] at hno
    have e : (rows.any fun r => decide (r.1.take ws.length = ws)) = false := by
      rw [List.any_eq_false]
      intro r hr
      simpa using hno r hr
    rw [e] at hQ
    clear lF N4 C1
    dsimp only
    try k_fold
    k_steps
    refine leaveC0 (by assumption) (by assumption) fun C => hQ _ _ C
end
end Mine
end
section
open PySem PySem.W PySem.Calls PyProof.Rows
namespace Mine
set_option maxRecDepth 100000
/-! ledgers that lie apart, in three parts: the head, the nodes, the rest -/
section
variable {X Y rest rest' : List (Addr × Obj)} {c a : Addr} {o o' : Obj}
theorem apart3 : Apart (X ++ (Y ++ rest)) ↔ Apart X ∧ Apart Y ∧ Apart rest ∧ (∀ p ∈ X, ∀ q ∈ Y, p.1 ≠ q.1) ∧ (∀ p ∈ X, ∀ q ∈ rest, p.1 ≠ q.1) ∧ ∀ p ∈ Y, ∀ q ∈ rest, p.1 ≠ q.1 := by
  rw [apart_app, apart_app]
  constructor
  · rintro ⟨h1, ⟨h2, h3, h4⟩, h5⟩
    exact ⟨h1, h2, h3, fun p hp q hq => h5 p hp q (List.mem_append_left _ hq), fun p hp q hq => h5 p hp q (List.mem_append_right _ hq), h4⟩
  · rintro ⟨h1, h2, h3, h4, h5, h6⟩
    exact ⟨h1, ⟨h2, h3, h6⟩, fun p hp q hq => (List.mem_append.mp hq).elim (h4 p hp q) (h5 p hp q)⟩
theorem apart_but {l : List (Addr × Obj)} (h : Apart l) : Apart (but c l) := by
  unfold Apart but at *
  exact h.sublist (List.Sublist.map _ List.filter_sublist)
theorem apart_put (h : Apart (X ++ (Y ++ rest))) (hc : (c, o) ∈ rest) : Apart (X ++ (Y ++ ((c, o') :: but c rest))) := by
  obtain ⟨h1, h2, h3, h4, h5, h6⟩ := apart3.mp h
  refine apart3.mpr ⟨h1, h2, apart_cons.mpr ⟨but_off, apart_but h3⟩, h4, fun p hp q hq => ?_, fun p hp q hq => ?_⟩
  · rcases List.mem_cons.mp hq with rfl | hq
    · exact h5 p hp (c, o) hc
    · exact h5 p hp q (mem_but.mp hq).1
  · rcases List.mem_cons.mp hq with rfl | hq
    · exact h6 p hp (c, o) hc
    · exact h6 p hp q (mem_but.mp hq).1
theorem apart_new (h : Apart (X ++ (Y ++ rest))) (ha : ∀ p ∈ X ++ (Y ++ rest), p.1 ≠ a) : Apart (X ++ (Y ++ ((a, o) :: rest))) := by
  obtain ⟨h1, h2, h3, h4, h5, h6⟩ := apart3.mp h
  refine apart3.mpr ⟨h1, h2, apart_cons.mpr ⟨fun p hp => ha p (List.mem_append_right _ (List.mem_append_right _ hp)), h3⟩, h4, fun p hp q hq => ?_, fun p hp q hq => ?_⟩
  · rcases List.mem_cons.mp hq with rfl | hq
    · exact ha p (List.mem_append_left _ hp)
    · exact h5 p hp q hq
  · rcases List.mem_cons.mp hq with rfl | hq
    · exact ha p (List.mem_append_right _ (List.mem_append_left _ hp))
    · exact h6 p hp q hq
theorem apart_less (h : Apart (X ++ (Y ++ rest))) : Apart (X ++ (Y ++ but c rest)) := by
  obtain ⟨h1, h2, h3, h4, h5, h6⟩ := apart3.mp h
  exact apart3.mpr ⟨h1, h2, apart_but h3, h4, fun p hp q hq => h5 p hp q (mem_but.mp hq).1, fun p hp q hq => h6 p hp q (mem_but.mp hq).1⟩
/-- an entry of the rest put anew: the ledger in its three parts -/
theorem put3 (h : Apart (X ++ (Y ++ rest))) (hc : (c, o) ∈ rest) : ∀ p ∈ X ++ (Y ++ ((c, o') :: but c rest)), p ∈ (c, o') :: but c (X ++ (Y ++ rest)) := by
  obtain ⟨h1, h2, h3, h4, h5, h6⟩ := apart3.mp h
  intro p hp
  rcases List.mem_append.mp hp with hp | hp
  · exact mem_put (List.mem_append_left _ hp) (h5 p hp _ hc)
  rcases List.mem_append.mp hp with hp | hp
  · exact mem_put (List.mem_append_right _ (List.mem_append_left _ hp)) (h6 p hp _ hc)
  rcases List.mem_cons.mp hp with rfl | hp
  · exact .head _
  · obtain ⟨a1, a2⟩ := mem_but.mp hp
    exact mem_put (List.mem_append_right _ (List.mem_append_right _ a1)) a2
theorem new3 : ∀ p ∈ X ++ (Y ++ ((a, o) :: rest)), p ∈ (a, o) :: (X ++ (Y ++ rest)) := fun p hp => by
  rcases List.mem_append.mp hp with hp | hp
  · exact .tail _ (List.mem_append_left _ hp)
  rcases List.mem_append.mp hp with hp | hp
  · exact .tail _ (List.mem_append_right _ (List.mem_append_left _ hp))
  rcases List.mem_cons.mp hp with rfl | hp
  · exact .head _
  · exact .tail _ (List.mem_append_right _ (List.mem_append_right _ hp))
theorem less3 : ∀ p ∈ X ++ (Y ++ but c rest), p ∈ X ++ (Y ++ rest) := fun p hp => by
  rcases List.mem_append.mp hp with hp | hp
  · exact List.mem_append_left _ hp
  rcases List.mem_append.mp hp with hp | hp
  · exact List.mem_append_right _ (List.mem_append_left _ hp)
  · exact List.mem_append_right _ (List.mem_append_right _ (mem_but.mp hp).1)
end
theorem apart_ne2 {l : List (Addr × Obj)} (h : Apart l) {a b : Addr} {o o' : Obj} (ha : (a, o) ∈ l) (hb : (b, o') ∈ l) (hne : o ≠ o') : a ≠ b := fun e => by
  have := apart_eq h ha hb e
  exact hne (congrArg Prod.snd this)
theorem own_one {h₀ h : Heap} {L I : Addr} {led own : List (Addr × Obj)} {oI : Obj} (N : News h₀ L h led) (hs : ∀ p ∈ own, p ∈ led) (ho : ∀ p ∈ own, p.1 = I) (hI : (I, oI) ∈ own) : ∀ p ∈ own, p = (I, oI) := fun p hp => by
  have h1 := (N p (hs p hp)).1
  have h2 := (N _ (hs _ hI)).1
  have e := ho p hp
  dsimp only at h2
  rw [e, h2] at h1
  exact Prod.ext e (Option.some.inj h1).symm
def CellIs (led : List (Addr × Obj)) (c : Addr) (v : Option Value) : Prop := ∃ o, (c, o) ∈ led ∧ o.data = .cell v
/-- rows of words, as tuples -/
inductive PathsIn (led : List (Addr × Obj)) : List Value → List (List Str) → Prop
  | nil : PathsIn led [] []
  | cons {a : Addr} {wv : List Value} {p : List Str} {vs : List Value} {ps : List (List Str)} : (a, tupO wv) ∈ led → StrsAre wv p → PathsIn led vs ps → PathsIn led (.ref a :: vs) (p :: ps)
theorem paths_mono {a b : List (Addr × Obj)} (k : ∀ p ∈ a, (∃ vs, p.2 = tupO vs) → p ∈ b) : ∀ {vs : List Value} {ps : List (List Str)}, PathsIn a vs ps → PathsIn b vs ps
  | _, _, .nil => .nil
  | _, _, .cons h s r => .cons (k _ h ⟨_, rfl⟩) s (paths_mono k r)
theorem paths_len {a : List (Addr × Obj)} : ∀ {vs : List Value} {ps : List (List Str)}, PathsIn a vs ps → vs.length = ps.length
  | _, _, .nil => rfl
  | _, _, .cons _ _ r => congrArg (· + 1) (paths_len r)
theorem paths_app {a : List (Addr × Obj)} : ∀ {vs us : List Value} {ps qs : List (List Str)}, PathsIn a vs ps → PathsIn a us qs → PathsIn a (vs ++ us) (ps ++ qs)
  | _, _, _, _, .nil, h => h
  | _, _, _, _, .cons h s r, k => .cons h s (paths_app r k)
theorem rdAll_paths {led : List (Addr × Obj)} : ∀ {vs : List Value} {ps : List (List Str)}, PathsIn led vs ps → RdAll led vs (ps.map fun p => .tuple (p.map PyData.str))
  | _, _, .nil => rdAll_nil
  | _, _, .cons h s r => rdAll_cons (rd_tup h (rdAll_strs s)) (rdAll_paths r)
theorem rows_keep {a b : List (Addr × Obj)} (k : ∀ p ∈ a, (∃ vs, p.2 = tupO vs) → p ∈ b) : ∀ {vs : List Value} {rows : List Row}, RowsIn a vs rows → RowsIn b vs rows
  | _, _, .nil => .nil
  | _, _, .cons ⟨ra, wa, wv, t, u, e, h1, h2, h3⟩ r => .cons ⟨ra, wa, wv, t, u, e, k _ h1 ⟨_, rfl⟩, k _ h2 ⟨_, rfl⟩, h3⟩ (rows_keep k r)
theorem outs_keep {nilA : Addr} {nd : List Nd} {O : List (Option (Str × Str))} {a b : List (Addr × Obj)} (k : ∀ p ∈ a, (∃ vs, p.2 = tupO vs) → p ∈ b) (h : Outs nilA nd O a) : Outs nilA nd O b :=
  ⟨h.len, h.none_, fun i n x y hn hi => by
    obtain ⟨ta, t, u, h1, h2⟩ := h.some_ i n x y hn hi
    exact ⟨ta, t, u, h1, k _ h2 ⟨_, rfl⟩⟩⟩
theorem TrieS.keep {prog : Program} {w : World} {nilA cT cN : Addr} {H : TrieHd} {nd : List Nd} {P : List (List Str)} {O : List (Option (Str × Str))} {ks : List Str} {a b : List (Addr × Obj)} (k : ∀ p ∈ a, (∃ vs, p.2 = tupO vs) → p ∈ b) (h : TrieS prog w nilA cT cN H nd P O ks a)
    (hap : Apart (hdObjs w.params cT false H (adOf nd 0) ++ (objsOf cN nd ++ b))) : TrieS prog w nilA cT cN H nd P O ks b :=
  ⟨h.ok, h.known, outs_keep k h.outs, h.fails, hap⟩
theorem cell_not_tuple {o : Obj} {v : Option Value} (h : o.data = .cell v) : ∀ vs, o ≠ tupO vs := fun vs e => by rw [e] at h; cases h
theorem cell_not_list {o : Obj} {v : Option Value} (h : o.data = .cell v) : ∀ its n, o ≠ listOf its n := fun vs n e => by rw [e] at h; cases h
theorem cell_not_tab {o : Obj} {v : Option Value} (h : o.data = .cell v) : ∀ ps, o ≠ tabObj ps := fun vs e => by rw [e] at h; cases h
end Mine
end
section
theorem Mine.switch_S10 : True := by
  w_top off
  trivial
open Lean Elab Tactic Meta PySem PySem.W PySem.Calls PyProof.Rows
set_option pp.deepTerms false
set_option pp.maxSteps 800
set_option pp.deepTerms.threshold 5
namespace Mine
local macro_rules | `(tactic| walk_at "exec For Name Name cons nil") => `(tactic| (refine Mine.Stop.on ?_))
local macro_rules | `(tactic| walk_at "exec For Name Call cons nil") => `(tactic| (refine Mine.Stop.on ?_))
local macro_rules | `(tactic| walk_at "exec Assign cons ListComp") => `(tactic| (refine Mine.Stop.on ?_))
local macro_rules | `(tactic| walk_at "LeaveC") => `(tactic| fail "here")
local macro_rules | `(tactic| k_room) => `(tactic| first | ktr_room | ((simp only [Mine.mark_depth, depth_under_make, depth_under_kw, depth_in1, depth_deeper, depth_caller]); (try dsimp only [ktrTop]); (try simp only [recursionLimit] at *); omega))
local macro_rules | `(tactic| k_all) => `(tactic| first | assumption | exact Mine.offLt (by assumption) | exact Mine.offLt2 (by assumption) (by assumption) | (refine List.forall_mem_append.mpr ⟨?a, ?b⟩; (case a => k_all); (case b => k_all)))
local macro_rules | `(tactic| walk_at "setItem ref str") => `(tactic| (k_here; k_dflt (refine' kda_setB (knd := PySem.strKind _ _) ?F ?N ?hm ?d (strKind_is _ _ _ _) ?z ?_; (case F => k_asm); (case N => k_asm); (case hm => k_mem); (case d => k_asm); (case z => k_asm)); intro h' o' F' N' hd'))
local macro_rules | `(tactic| walk_at "compareOp Is str ref") => `(tactic| (k_here; refine wpAny_is_other (by rfl) (by intro x; cases x) ?_))
local macro_rules | `(tactic| k_mem) => `(tactic| assumption)
local macro_rules | `(tactic| walk_at "eval Name") => `(tactic| (k_here; (with_reducible show wpAny _ _ (eval (Expr.Name _ _) (envOf _ _ _ _ _)) _ _ _); k_dflt (refine' ld ?k1 ?k2 ?_; (case k1 => k_asm); (case k2 => first | exact rfl | assumption); k_whole)))
local macro_rules | `(tactic| walk_at "eval Name") => `(tactic| (k_here; (with_reducible show wpAny _ _ (eval (Expr.Name _ _) (envOfC _ _ _ _ _)) _ _ _); k_dflt (refine' nameX_L ?F ?v ?_ ?a ?b; (case F => k_asm); (case a => rfl); (case b => rfl); (case v => first | rfl | assumption); k_whole)))
local macro_rules | `(tactic| walk_at "call builtin:len") => `(tactic| (k_here; (with_reducible show wpAny _ _ (call (Value.builtin "len") [Value.ref _]) _ _ _); k_dflt (first | refine len_L (by k_asm) (by k_mem) (by omega) ?_ | refine len_T (by k_asm) (by k_mem) (by omega) ?_)))
local macro_rules | `(tactic| walk_at "subscriptTail") => `(tactic| (k_here; (with_reducible show wpAny _ _ (subscriptTail _ (PySem.Expr.Slice _ _ _ _) (Value.ref _) (Value.ref _)) _ _ _); refine Mine.Stop.on ?_))
local macro_rules | `(tactic| walk_at "compareOp Eq ref ref") => `(tactic| (refine Mine.Stop.on ?_))
local macro_rules | `(tactic| walk_at "compareOp NotEq ref ref") => `(tactic| (refine Mine.Stop.on ?_))
local macro_rules | `(tactic| walk_at "call type:list") => `(tactic| (k_here; k_dflt (refine list_of_tuple (by k_asm) (by k_asm) (by k_mem) (by omega) ?_); intro D' c' h' F' N' l1; (try k_sweep)))
local macro_rules | `(tactic| walk_at "binaryOp Add ref ref") => `(tactic| (refine Mine.Stop.on ?_))
local macro_rules | `(tactic| walk_at "call builtin:list.append") => `(tactic| (refine Mine.Stop.on ?_))
local macro_rules | `(tactic| walk_at "eval Name") => `(tactic| (k_here; (with_reducible show wpAny _ _ (eval (Expr.Name _ _) (envX _ _ _ _ _ _)) _ _ _); k_dflt (refine' nameX_L ?F ?v ?_ ?a ?b; (case F => k_asm); (case a => rfl); (case b => rfl); (case v => first | rfl | assumption); k_whole)))
local macro_rules | `(tactic| walk_at "compareOp IsNot ref ref") => `(tactic| ((with_reducible show wpAny _ _ (compareOp CmpOp.IsNot (Value.ref (Nd.a _)) (Value.ref (Nd.a _))) _ _ _); refine Mine.Stop.on ?_))
local macro_rules | `(tactic| walk_at "call ref") => `(tactic| ((with_reducible show wpAny _ _ (call (Value.ref _) [Value.ref _, Value.ref _]) _ _ _); refine Mine.Stop.on ?_))
local macro_rules | `(tactic| walk_at "call ref") => `(tactic| ((fail_if_success (with_reducible show wpAny _ _ (call _ _ []) _ _ _)); refine Mine.Stop.on ?_))
local macro_rules | `(tactic| walk_at "exec FunctionDef") => `(tactic| (refine Mine.Stop.on ?_))
/-- what a walk tells, down first -/
def dfs (P : List (List Str)) (O : List (Option (Str × Str))) : Nat → Nat → List (Str × Str)
  | 0, j => ((O[j]?).join).toList
  | fu + 1, j => ((O[j]?).join).toList ++ (kids P (P.getD j [])).flatMap fun xk => dfs P O fu xk.2
theorem dfs_eq {P : List (List Str)} {O : List (Option (Str × Str))} {fu j : Nat} {p : List Str} (hp : P[j]? = some p) (hl : ∀ q ∈ P, q.length ≤ 3) (h : p.length + fu = 3) :
    dfs P O fu j = ((O[j]?).join).toList ++ (kids P p).flatMap fun xk => dfs P O (fu - 1) xk.2 := by
  have e : P.getD j [] = p := by rw [List.getD_eq_getElem?_getD, hp]; rfl
  cases fu with
  | zero =>
    have hk : kids P p = [] := by
      cases hk : kids P p with
      | nil => rfl
      | cons y l =>
        exfalso
        obtain ⟨y, k⟩ := y
        have hm : (y, k) ∈ kids P p := by rw [hk]; exact .head _
        have := hl _ (List.mem_of_getElem? (kids_mem hm))
        simp at this; omega
    rw [hk]; simp [dfs]
  | succ fu =>
    rw [dfs, e]; rfl
def dfsMax : Nat → Nat
  | 0 => 1
  | f + 1 => 1 + 20 * dfsMax f
theorem dfs_len {P : List (List Str)} {O : List (Option (Str × Str))} (hP : P.length ≤ 20) : ∀ fu j, (dfs P O fu j).length ≤ dfsMax fu := by
  have own : ∀ o : Option (Str × Str), o.toList.length ≤ 1 := fun o => by cases o <;> simp
  intro fu
  induction fu with
  | zero => intro j; exact own _
  | succ fu ih =>
    intro j
    rw [dfs, List.length_append, List.length_flatMap]
    have h1 := own ((O[j]?).join)
    have h2 : ∀ l : List (Str × Nat), (l.map fun xk => (dfs P O fu xk.2).length).sum ≤ l.length * dfsMax fu := by
      intro l
      induction l with
      | nil => simp
      | cons x l ih2 =>
        rw [List.map_cons, List.sum_cons, List.length_cons, Nat.succ_mul]
        have := ih x.2
        omega
    have h3 := h2 (kids P (P.getD j []))
    have h4 : (kids P (P.getD j [])).length ≤ 20 := Nat.le_trans (kidsFrom_len P 0 _) hP
    have h5 := Nat.mul_le_mul_right (dfsMax fu) h4
    show _ ≤ 1 + 20 * dfsMax fu
    omega
section
variable {prog : Program} {w : World} {dp un : Nat} {gd : Option (List Code)} {cn : Str} {cs : Scope} {a : Addr} {ccd : Value} {cl : List (Str × Addr)} {outer : List Env} {base h₀ : Heap} {L : Addr} {m : Str → Option Value} {news : List (Addr × Obj)} {s : Shared} {Q E : Value → Shared → Prop}
set_option maxRecDepth 100000
set_option maxHeartbeats 1000000
set_option maxHeartbeats 4000000
theorem items_spec {H : TrieHd} {cv : Bool} {nd : List Nd} {P : List (List Str)} {O : List (Option (Str × Str))} {rest : List (Addr × Obj)}
   (C : Cx (Mine.hd.heap_39 w.params) cs outer base h₀ L s.heap m news) (hd : dp + 50 < recursionLimit) (hu : un + 400 < cLine)
   (hin : ∀ p ∈ hdObjs w.params 171 cv H (adOf nd 0) ++ (objsOf 71 nd ++ rest), p ∈ news) (h6 : ∀ p ∈ hdObjs w.params 171 cv H (adOf nd 0) ++ (objsOf 71 nd ++ rest), p.1 ≠ 126) (hn : NodesOk prog w nd P) (ho : Outs 44 nd O rest)
   (hap : Apart (objsOf 71 nd)) (hPl : ∀ q ∈ P, q.length ≤ 3) (hPn : P.length ≤ 20) (hPw : ∀ q ∈ P, (q.getLastD ⟨#[]⟩).length ≤ 1000) (hCd : CodeHd base 130 126) (hP : TabSt 126 ⟨85, 8, 91, 39⟩ "Trie.items.<locals>.walk" news)
   (hQ : ∀ h' tk' it l vs n news', Cx (Mine.hd.heap_39 w.params) cs outer base h₀ L h' m ((it, itObj l) :: (l, listOf vs.toArray n) :: news') → l < it → (∀ q ∈ news', q.1 ≠ l ∧ q.1 < it) → (∀ q ∈ news, q.1 ≠ 126 → q ∈ news') → TabSt 126 ⟨85, 8, 91, 39⟩ "Trie.items.<locals>.walk" news' → PairsIn news' vs (dfs P O 3 0) → Q (.ref it) { s with heap := h', toks := tk' }) :
   wpAny (model prog w) (ktrTop dp un gd cn cs L a ccd cl outer) (call (.ref 131) [.ref H.tr]) Q E s := by
  obtain ⟨⟨A0, B0⟩, F0, XB0, N0, ⟨p0, loose0, mean0, mg0, mb0, TB0⟩, D0, hk0⟩ := id C
  have X0 := XB0.keeps B0.stays
  have T0 := TB0.keeps B0.stays
  refine wpAny_call ?_
  k_dflt (refine' enterCC C ?kA ?kF ?kK ?k6 ?k7 ?k8 ?k9 ?kB ?kD ?_ ?c2 ?c3 ?c4; (case kA => exact rfl); (case kF => exact rfl); (case kK => exact hk0); (case k6 => k_is); (case k7 => k_is); (case k8 => (show dp < _; omega)); (case k9 => first | exact BindsTo.of_eq rfl | exact binds_K (by k_in) rfl (by k_is) rfl rfl rfl); (case kB => exact rfl); (case kD => decide +kernel); (case c2 => exact rfl); (case c3 => exact rfl); (case c4 => exact rfl); k_whole)
  intro g L1 hh1 tk1 cells1 C1 Y1 hlt1
  have hlt1c : ∀ p ∈ news, p.1 < L1 + 1 := fun p hp => Nat.lt_succ_of_lt (hlt1 p hp)
  k_cells Y1
  try simp only [List.cons_append, List.nil_append] at C1
  clear B0 F0 N0 X0 T0 D0
  obtain ⟨⟨A1, B1⟩, F1, XB1, N1, ⟨p1, loose1, mean1, mg1, mb1, TB1⟩, D1, hk1⟩ := id C1
  have X1 := XB1.keeps B1.stays
  have T1 := TB1.keeps B1.stays
  dsimp only
  try k_fold
  have htr : (H.tr, ({ cls := .ref 171, dict := some H.dx, data := .plain } : Obj)) ∈ news := hin _ (.head _)
  have hdx : (H.dx, dictOf (hdEnts w.params cv H (adOf nd 0)) 3) ∈ news := hin _ (.tail _ (.head _))
  unfold hdEnts at hdx
  k_steps
  refine Stop.off ?_
  rename News _ _ _ _ => N3
  rename Fr _ _ _ _ => F3
  rename Obj.data _ = Data.cell (some (Value.ref _)) => hci
  rename Obj.data _ = Data.cell (bindC _ _ _ (Str.ofString "walk")) => hcw
  rename _ ∧ _ ∧ AllLt _ _ => hlD
  rename_i l' _ _ oi
  have h126 : (126 : Nat) < L1 := by
    rcases hP with h | ⟨_, _, _, _, h, _⟩
    · exact hlt1 _ h
    · exact hlt1 _ h
  k_dflt (refine' nestDef_K ?d0 ?k0 ?a0 ?_; (case d0 => exact rfl); (case k0 => exact rfl); (case a0 => exact rfl))
  k_dflt (refine make_nest (mg := mg1) F3 N3 T1 (hCd.keeps B1.stays) rfl (tabSt_mono hP (fun p hp => .tail _ (.tail _ (.tail _ hp)))) rfl ?_)
  intro f c' oc vs t ctv doc h4 tk4 led4 F4 N4 hf hoc hod hov hS4 hsub hlt4 hnew
  have hwm := hsub _ (.tail _ (.head _)) (Nat.ne_of_gt (Nat.lt_trans h126 (Nat.lt_succ_of_lt (Nat.lt_succ_self L1))))
  have him := hsub _ (.tail _ (.tail _ (.head _))) (Nat.ne_of_gt (Nat.lt_trans h126 (Nat.lt_succ_self L1)))
  have hDm := hsub _ (.head _) (Nat.ne_of_gt (Nat.lt_trans (Nat.lt_trans h126 (Nat.lt_succ_self L1)) hlD.2.1))
  have hold : ∀ q ∈ news, q.1 ≠ 126 → q ∈ led4 := fun q hq hn => hsub q (.tail _ (.tail _ (.tail _ hq))) hn
  have hkeep : ∀ p ∈ led4, (p.1 = 126 ∨ ∃ vs, p.2.data = .fields vs) → p.1 ≠ L1 + 1 + 1 ∧ p.1 ≠ l' := by
    rintro p hp (e | ⟨vs, hvs⟩)
    · have h1 := hlD.2.1
      rw [e]
      exact ⟨Nat.ne_of_lt (Nat.lt_trans h126 (Nat.lt_succ_of_lt (Nat.lt_succ_self L1))), Nat.ne_of_lt (Nat.lt_trans (Nat.lt_trans h126 (Nat.lt_succ_self L1)) h1)⟩
    · have hno : ∀ b o, h4.get? b = some o → (∀ vs, o.data ≠ .fields vs) → p.1 ≠ b := fun b o e1 e2 e3 => by
        have e4 := (N4 _ hp).1
        rw [e3, e1] at e4
        cases e4
        exact e2 _ hvs
      refine ⟨hno _ _ (N4 _ hwm).1 ?_, hno _ _ (N4 _ hDm).1 ?_⟩
      · intro vs e; rw [hcw] at e; cases e
      · intro vs e; cases e
  have hoc5 : (c', oc) ∈ led4 ∧ c' ≠ L1 + 1 + 1 ∧ c' ≠ l' := ⟨hoc, hkeep _ hoc (.inr ⟨_, hod⟩)⟩
  k_dflt (refine storeX_C F4 (news_but N4 hwm) (by rfl) (UpdF.head but_off) hcw ?_)
  intro h5 ow F5 N5 hcw5
  try dsimp only at N5
  clear F4 N4 F3 N3
  have hmem5 : ∀ q ∈ led4, q.1 ≠ L1 + 1 + 1 → q ∈ (L1 + 1 + 1, ow) :: but (L1 + 1 + 1) led4 := fun q hq hn => mem_put hq hn
  have hL126 : ∀ q ∈ news, q.1 ≠ L1 + 1 + 1 := fun q hq => Nat.ne_of_lt (Nat.lt_trans (hlt1 q hq) (Nat.lt_succ_of_lt (Nat.lt_succ_self L1)))
  have hf5 := hmem5 _ hf (Nat.ne_of_gt (hlt4 _ (.tail _ (.head _))))
  have hin5 : ∀ q ∈ hdObjs w.params 171 cv H (adOf nd 0) ++ (objsOf 71 nd ++ rest), q ∈ (L1 + 1 + 1, ow) :: but (L1 + 1 + 1) led4 := fun q hq => hmem5 q (hold q (hin q hq) (h6 q hq)) (hL126 q (hin q hq))
  have hin5' : ∀ q ∈ hdObjs w.params 171 cv H (adOf nd 0) ++ (objsOf 71 nd ++ rest), q.1 < l' := fun q hq => Nat.lt_trans (hlt1 q (hin q hq)) (Nat.lt_trans (Nat.lt_succ_self L1) hlD.2.1)
  have hi5 := hmem5 _ him (Nat.ne_of_lt (Nat.lt_succ_self _))
  have hD5 := hmem5 _ hDm (Nat.ne_of_gt hlD.1)
  have hoc5' := hmem5 _ hoc5.1 hoc5.2.1
  have hw5 : (L1 + 1 + 1, ow) ∈ (L1 + 1 + 1, ow) :: but (L1 + 1 + 1) led4 := .head _
  generalize hl5 : (L1 + 1 + 1, ow) :: but (L1 + 1 + 1) led4 = led5 at *
  have walk : ∀ (fu : Nat) (j : Nat) (p : List Str) (n : Nd), P[j]? = some p → nd[j]? = some n → p.length + fu = 3 →
      ∀ (dp un : Nat) (gd : Option (List Code)) (cn : Str) (cs : Scope) (a : Addr) (ccd : Value) (cl : List (Str × Addr)) (outer : List Env) (h₀ : Heap) (L : Addr) (m : Str → Option Value) (led : List (Addr × Obj)) (s : Shared) (R : Result → Shared → Prop) (args : Args) (lt : Addr) (tv vs : List Value) (tw : List Str) (n1 n2 : Nat),
      Cx (Mine.hd.heap_39 w.params) cs outer base h₀ L s.heap m ((l', listOf vs.toArray n2) :: led) → (∀ q ∈ led, q.1 ≠ l') → (∀ q ∈ led5, q.1 ≠ l' → q ∈ led) → (lt, listOf tv.toArray n1) ∈ led → StrsAre tv tw → tv.length ≤ 10 + p.length → (∀ x ∈ tw, x.length ≤ 1000) →
      (args = { pos := [.ref n.a, .ref lt], kw := [] } ∨ args = { pos := [.ref n.a], kw := [("tokens", .ref lt)] }) → dp + 10 + 4 * fu < recursionLimit → un + 200 + 20 * fu < cLine → vs.length + (dfs P O fu j).length ≤ 100000 →
      (∀ h' tk' us n3 led', Cx (Mine.hd.heap_39 w.params) cs outer base h₀ L h' m ((l', listOf (vs ++ us).toArray n3) :: led') → (∀ q ∈ led, q ∈ led') → (∀ q ∈ led', q.1 ≠ l') → PairsIn led' us (dfs P O fu j) → R (.ok (.ret .none)) { s with heap := h', toks := tk' }) →
      codeAny (model prog w) (ktrTop dp un gd cn cs L a ccd cl outer) (.call (.ref f) args) R s := by
    clear hQ N5 F5 hu hd C
    intro fu
    induction fu using Nat.strongRecOn with
    | _ fu ih =>
    intro j p n hj hnj hfu dp un gd cn cs a ccd cl outer h₀ L m led s R args lt tv vs tw n1 n2 C hled hsub5 hlt htv htl htw hargs hd hu hvl hR
    have hk0 := C.k
    have hf6 := hsub5 _ hf5 (Nat.ne_of_gt (hlt4 _ (.head _)))
    have hoc6 : (c', oc) ∈ led := hsub5 _ hoc5' hoc5.2.2
    · k_dflt (refine' enterN (binds := [("node", .ref n.a), ("tokens", .ref lt)]) C ?kA ?kF ?kK (.tail _ hf6) (.tail _ hoc6) hod hov ?k8 ?k9 ?kB ?_ ?c2 ?c3 ?c4 ?c5; (case kA => exact rfl); (case kF => exact rfl); (case kK => exact hk0); (case k8 => (show dp < _; omega)); (case k9 => (rcases hargs with rfl | rfl; (exact BindsTo.of_eq rfl); exact BindsTo.of_eq rfl)); (case kB => exact locs rfl); (case c2 => exact rfl); (case c3 => exact rfl); (case c4 => exact rfl); (case c5 => decide); k_whole)
      intro g2 L2 hh2 C2 hlt2
      clear B1 X1 T1 D1
      obtain ⟨⟨A2, B2⟩, F2, XB2, N2, ⟨p2, loose2, mean2, mg2, mb2, TB2⟩, D2, hk2⟩ := id C2
      have X2 := XB2.keeps B2.stays
      have T2 := TB2.keeps B2.stays
      obtain ⟨tt, htt⟩ := hn.tok j n p hnj hj
      have hmN : ∀ q ∈ n.objs 71, q ∈ (l', listOf vs.toArray n2) :: led := fun q hq => by
        have hq' : q ∈ hdObjs w.params 171 cv H (adOf nd 0) ++ (objsOf 71 nd ++ rest) := List.mem_append_right _ (List.mem_append_left _ (mem_objs.mpr ⟨j, n, hnj, hq⟩))
        exact .tail _ (hsub5 _ (hin5 q hq') (Nat.ne_of_lt (hin5' q hq')))
      have hmL : ∀ q ∈ n.objs 71, q ∈ led := fun q hq => by
        have hq' : q ∈ hdObjs w.params 171 cv H (adOf nd 0) ++ (objsOf 71 nd ++ rest) := List.mem_append_right _ (List.mem_append_left _ (mem_objs.mpr ⟨j, n, hnj, hq⟩))
        exact hsub5 _ (hin5 q hq') (Nat.ne_of_lt (hin5' q hq'))
      have hA1 : (n.a, ({ cls := .ref 71, dict := some n.dx, data := .plain, slots := #[some (.ref n.c), some n.fail, some n.out, some n.tok] } : Obj)) ∈ (l', listOf vs.toArray n2) :: led := hmN _ (.head _)
      have hA2 : (n.dx, dictOf [] 0) ∈ (l', listOf vs.toArray n2) :: led := hmN _ (.tail _ (.head _))
      have hA3 : (n.c, n.oc) ∈ (l', listOf vs.toArray n2) :: led := hmN _ (.tail _ (.tail _ (.head _)))
      have hi6 : (L1 + 1, oi) ∈ (l', listOf vs.toArray n2) :: led := .tail _ (hsub5 _ hi5 (Nat.ne_of_lt hlD.2.1))
      have hw6 : (L1 + 1 + 1, ow) ∈ (l', listOf vs.toArray n2) :: led := .tail _ (hsub5 _ hw5 (Nat.ne_of_lt hlD.1))
      have hlt7 : (lt, listOf tv.toArray n1) ∈ (l', listOf vs.toArray n2) :: led := .tail _ hlt
      have hf7 := List.mem_cons_of_mem (l', listOf vs.toArray n2) hf6
      have hD7 : (l', listOf vs.toArray n2) ∈ (l', listOf vs.toArray n2) :: led := .head _
      rw [htt] at hA1
      generalize hled7 : (l', listOf vs.toArray n2) :: led = led7 at *
      try dsimp only
      try k_fold
      k_steps
      refine Stop.off ?_
      k_dflt (refine LCt.Assign_ListComp_T (F₀ := by k_asm) (by rfl) (by with_unfolding_all rfl) (by with_unfolding_all rfl) (by decide) (by rfl) (by decide) (by rfl) (by rfl) (by rfl) ?_)
      k_steps
      refine Stop.off ?_
      rename News _ _ _ _ => N3
      rename Fr _ _ _ _ => F3
      k_dflt (refine add_L (vs := tv) (us := [_]) F3 N3 (.tail _ hlt7) (.head _) (by simp; omega) ?_)
      intro lt2 h4 F4 N4 hlt4'
      clear F3 N3
      k_steps
      have htl := strs_len htv
      have hpl : p.length ≤ 3 := by omega
      have hal : StrsAre (tv ++ [.str (p.getLastD ⟨#[]⟩) tt]) (tw ++ [p.getLastD ⟨#[]⟩]) := strs_snoc htv _ _
      have htw2 : ∀ x ∈ tw ++ [p.getLastD ⟨#[]⟩], x.length ≤ 1000 := fun x hx => by
        rcases List.mem_append.mp hx with hx | hx
        · exact htw x hx
        · rw [List.mem_singleton.mp hx]
          exact hPw p (List.mem_of_getElem? hj)
      generalize hav : tv ++ [Value.str (p.getLastD ⟨#[]⟩) tt] = av at *
      generalize haw : tw ++ [p.getLastD ⟨#[]⟩] = aw at *
      have havl : av.length ≤ 20 := by rw [← hav]; simp; omega
      k_dflt (refine LCt.CompSrcT.ledger (by rfl) F4 N4 (.head _) (by rw [sizeLine_eq, List.size_toArray]; omega) (fun _ => restT_ind (fun i ys nx => nx = (lt2, listOf av.toArray 0) :: (_, listOf [Value.str (p.getLastD ⟨#[]⟩) tt].toArray 0) :: led7 ∧ StrsAre ys ((aw.take i).filter fun x => decide (x.length ≠ 0))) ?_ ?_ _ 0 _ _ (Nat.zero_add _) ⟨rfl, .nil⟩))
      rotate_left
      · rintro i ys nx v I oI C oC D m₂ h tk E' hi ⟨rfl, hys⟩ hv hC hxv F N off ne
        obtain ⟨y, ty, hy, rfl⟩ := strs_at hal (by simpa using hv)
        have hyl : y.length ≤ 1000 := htw2 y (List.mem_of_getElem? hy)
        have hnext : aw.take (i + 1) = aw.take i ++ [y] := by rw [List.take_add_one, hy]; rfl
        k_steps
        · refine LCg.CompEnd.intro (by assumption) (by assumption) _ (fun p hp => hp) off (.inr ⟨_, .head _, rfl, _, rfl⟩) ⟨rfl, ?_⟩
          rw [hnext, List.filter_append, List.filter_cons, if_pos (by simp only [decide_eq_true_eq]; omega)]
          exact strs_snoc hys _ _
        · refine LCg.CompEnd.intro (by assumption) (by assumption) _ (fun p hp => hp) off (.inr ⟨_, .head _, rfl, _, rfl⟩) ⟨rfl, ?_⟩
          rw [hnext, List.filter_append, List.filter_cons, if_neg (by simp only [decide_eq_true_eq]; omega)]
          simpa using hys
      · rintro ys nx ⟨rfl, hys⟩ D h2 tk2 F5 N5 off2
        clear F4 N4
        have hysl2 : ys.length ≤ 11 + p.length := by
          rw [strs_len hys]
          refine Nat.le_trans (List.length_filter_le _ _) ?_
          rw [List.length_take, ← strs_len hal, ← hav]; simp; omega
        have hysl : ys.length ≤ 20 := by
          rw [strs_len hys]
          refine Nat.le_trans (List.length_filter_le _ _) ?_
          rw [List.length_take, ← strs_len hal]; omega
        dsimp only
        try k_fold
        obtain ⟨oo, hoo⟩ : ∃ oo, O[j]? = some oo := ⟨O[j]'(by rw [ho.len]; exact (List.getElem?_eq_some_iff.mp hnj).1), by simp⟩
        have hDl : l' ≠ D := off1_mem off2 _ (.tail _ (.tail _ hD7))
        have hledD : ∀ q ∈ led, q.1 ≠ D := fun q hq => off1_mem off2 q (.tail _ (.tail _ (by rw [← hled7]; exact .tail _ hq)))
        cases oo
        case' none =>
          rw [ho.none_ j n hnj hoo] at hA1
          k_steps
          have hown : ((O[j]?).join).toList = [] := by rw [hoo]; rfl
          rename News _ _ _ _ => N6
          obtain ⟨us0, n3, led8, N8, hD8, hoff8, hsub8, hp8⟩ : ∃ us0 n3 led8, News g2 L2 _ ((l', listOf (vs ++ us0).toArray n3) :: led8) ∧ (D, LCg.lst ys) ∈ led8 ∧ (∀ q ∈ led8, q.1 ≠ l') ∧ (∀ q ∈ led, q ∈ led8) ∧ PairsIn led8 us0 ((O[j]?).join).toList := by
            refine ⟨[], n2, (D, LCg.lst ys) :: led, News.sub N6 fun q hq => ?_, .head _, fun q hq => ?_, fun q hq => .tail _ hq, by rw [hown]; exact .nil⟩
            · rw [List.append_nil] at hq
              rcases List.mem_cons.mp hq with rfl | hq
              · exact .tail _ (.tail _ (.tail _ hD7))
              · rcases List.mem_cons.mp hq with rfl | hq
                · exact .head _
                · exact .tail _ (.tail _ (.tail _ (by rw [← hled7]; exact .tail _ hq)))
            · rcases List.mem_cons.mp hq with rfl | hq
              · exact hDl.symm
              · exact hled q hq
          clear N6
          rename Fr _ _ _ _ => F8
        case' some xy =>
          obtain ⟨ta, t1, u1, hout, hm⟩ := ho.some_ j n xy.1 xy.2 hnj hoo
          rw [hout] at hA1
          have htaq : (ta, pairObj xy.1 t1 xy.2 u1) ∈ hdObjs w.params 171 cv H (adOf nd 0) ++ (objsOf 71 nd ++ rest) := List.mem_append_right _ (List.mem_append_right _ hm)
          have hmt : (ta, pairObj xy.1 t1 xy.2 u1) ∈ led7 := by rw [← hled7]; exact .tail _ (hsub5 _ (hin5 _ htaq) (Nat.ne_of_lt (hin5' _ htaq)))
          have hmt' := hmt
          unfold pairObj tupO at hmt
          have hne : ta ≠ 44 := fun e => by
            have h1 := (N5 _ (.tail _ (.tail _ (.tail _ hmt')))).2.2
            have h2 := X2 44 _ (by k_is)
            rw [e, h2] at h1; cases h1
          k_steps
          refine isnot_ref_off hne (by rename News _ _ _ _ => kN; exact (kN _ (.tail _ (.tail _ (.tail _ hmt')))).1) ((X2.keeps (by rename Fr _ _ _ _ => kF; exact kF.keep)) _ _ (by k_is)) (by intro e; cases e) ?_
          k_steps
          refine Stop.off ?_
          have hown : ((O[j]?).join).toList = [xy] := by rw [hoo]; rfl
          rename News _ _ _ _ => N6
          rename Fr _ _ _ _ => F6
          rename _ ∧ _ ∧ _ ∧ AllLt _ _ => hl6
          rename_i tn _
          have htn : ∀ q ∈ led7, q.1 < tn := of_allLt hl6.2.2.2
          refine append_B F6 N6 (.tail _ (.tail _ (.tail _ (.tail _ hD7)))) (by omega) ?_
          intro h7 F7 N7
          clear F6 N6
          k_steps
          obtain ⟨us0, n3, led8, N8, hD8, hoff8, hsub8, hp8⟩ : ∃ us0 n3 led8, News g2 L2 _ ((l', listOf (vs ++ us0).toArray n3) :: led8) ∧ (D, LCg.lst ys) ∈ led8 ∧ (∀ q ∈ led8, q.1 ≠ l') ∧ (∀ q ∈ led, q ∈ led8) ∧ PairsIn led8 us0 ((O[j]?).join).toList := by
            refine ⟨[.ref tn], n2 + 1, (tn, pairObj xy.1 t1 xy.2 u1) :: (D, LCg.lst ys) :: led, News.sub N7 fun q hq => ?_, .tail _ (.head _), fun q hq => ?_, fun q hq => .tail _ (.tail _ hq), by rw [hown]; exact .cons ⟨tn, t1, u1, rfl, .head _⟩ .nil⟩
            · rcases List.mem_cons.mp hq with rfl | hq
              · exact .head _
              · rcases List.mem_cons.mp hq with rfl | hq
                · exact mem_put (.head _) (Nat.ne_of_gt (htn _ hD7))
                · rcases List.mem_cons.mp hq with rfl | hq
                  · exact mem_put (.tail _ (.head _)) hDl.symm
                  · exact mem_put (.tail _ (.tail _ (.tail _ (.tail _ (by rw [← hled7]; exact .tail _ hq))))) (hled q hq)
            · rcases List.mem_cons.mp hq with rfl | hq
              · exact Nat.ne_of_gt (htn _ hD7)
              · rcases List.mem_cons.mp hq with rfl | hq
                · exact hDl.symm
                · exact hled q hq
          clear N7
          rename Fr _ _ _ _ => F8
        all_goals (
          refine Stop.off ?_
          have hB1 : (n.a, ({ cls := .ref 71, dict := some n.dx, data := .plain, slots := #[some (.ref n.c), some n.fail, some n.out, some n.tok] } : Obj)) ∈ (l', listOf (vs ++ us0).toArray n3) :: led8 := .tail _ (hsub8 _ (hmL _ (.head _)))
          have hB2 : (n.dx, dictOf [] 0) ∈ (l', listOf (vs ++ us0).toArray n3) :: led8 := .tail _ (hsub8 _ (hmL _ (.tail _ (.head _))))
          have hB3 : (n.c, n.oc) ∈ (l', listOf (vs ++ us0).toArray n3) :: led8 := .tail _ (hsub8 _ (hmL _ (.tail _ (.tail _ (.head _)))))
          have hD3 := hn.dict j n p hnj hj
          have hlo := hn.lo n (List.mem_of_getElem? hnj)
          (with_unfolding_all refine' For_invVF F8 ?k1 ?k2 ?_; (case k1 => exact rfl); (case k2 => exact rfl); k_whole)
          k_steps
          k_dflt (refine values_method (knd := PySem.strKind _ _) N8 hB3 hD3 ?_)
          k_steps
          rename News _ _ _ _ => N9
          rename Fr _ _ _ _ => F9
          clear N8
          have hview := (N9 _ (.head _)).1
          refine iter_valuesJ (knd := PySem.strKind prog w) (d := n.c) (kvs := kvsOf nd P p) (news := (l', listOf (vs ++ us0 ++ []).toArray n3) :: led8) (fun i m' nx => m' "node" = some (.ref n.a) ∧ m' "tokens" = some (.ref D) ∧ ∃ us n4 ledx, nx = (l', listOf (vs ++ us0 ++ us).toArray n4) :: ledx ∧ (∀ q ∈ led8, q ∈ ledx) ∧ (∀ q ∈ ledx, q.1 ≠ l') ∧
            PairsIn ledx (us0 ++ us) (((O[j]?).join).toList ++ ((kids P p).take i).flatMap fun xk => dfs P O (fu - 1) xk.2)) (by rfl) ⟨_, hview, rfl, rfl⟩ (kda_dict N9 (.tail _ hB3) hD3).dictAt (N9 _ (.tail _ hB3)).2.1 F9 (News.sub N9 fun q hq => .tail _ (by rw [List.append_nil] at hq; exact hq)) ⟨rfl, rfl, [], n3, led8, rfl, fun q hq => hq, hoff8, by simpa using hp8⟩ ?_ ?_
          · clear N9 F9
            rintro i k y m₁ nx I own hh tk hkv ⟨hm1, hm2, us, n4, ledx, rfl, hsx, hox, hpx⟩ hown hoff ⟨oI, hoI, hoIc⟩ hdI F₁ N₁
            obtain ⟨xx, jj, hkid, rfl⟩ : ∃ xx jj, (kids P p)[i]? = some (xx, jj) ∧ y = .ref (adOf nd jj) := by
              unfold kvsOf at hkv
              rw [List.getElem?_map] at hkv
              cases hq : (kids P p)[i]? with
              | none => rw [hq] at hkv; cases hkv
              | some q => rw [hq] at hkv; cases hkv; exact ⟨q.1, q.2, rfl, rfl⟩
            have hPj := kids_mem (List.mem_of_getElem? hkid)
            have hjjl : jj < nd.length := by rw [hn.len]; exact (List.getElem?_eq_some_iff.mp hPj).1
            obtain ⟨nj, hnjj, hadj⟩ := adOf_lt hjjl
            have hp3 := hPl _ (List.mem_of_getElem? hPj)
            rw [List.length_append, List.length_singleton] at hp3
            rw [hadj] at F₁
            have hjne : jj ≠ j := fun e => by
              rw [e, hj] at hPj
              have := congrArg List.length (Option.some.inj hPj)
              simp at this
            have hane : nj.a ≠ n.a := apart_ne hap hnjj hnj hjne (p := (nj.a, nodeObj 71 nj)) (q := (n.a, nodeObj 71 n)) (.head _) (.head _)
            have hq : ∀ q ∈ led, q ∈ (l', listOf (vs ++ us0 ++ us).toArray n4) :: ledx ++ own := fun q hq => List.mem_append_left _ (.tail _ (hsx q (hsub8 q hq)))
            have hf9 := hq _ hf6
            have hw9 := hq _ (hsub5 _ hw5 (Nat.ne_of_lt hlD.1))
            have hE1 := hq _ (hmL _ (.head _))
            have hqj : ∀ q ∈ nj.objs 71, q ∈ led := fun q hq => by
              have hq' : q ∈ hdObjs w.params 171 cv H (adOf nd 0) ++ (objsOf 71 nd ++ rest) := List.mem_append_right _ (List.mem_append_left _ (mem_objs.mpr ⟨jj, nj, hnjj, hq⟩))
              exact hsub5 _ (hin5 q hq') (Nat.ne_of_lt (hin5' q hq'))
            have hE2 := hq _ (hqj _ (.head _))
            generalize hled9 : (l', listOf (vs ++ us0 ++ us).toArray n4) :: ledx ++ own = led9 at *
            try k_fold
            k_steps
            refine Stop.off ?_
            refine isnot_ref_off hane (N₁ _ hE2).1 (N₁ _ hE1).1 (by intro e; cases e) ?_
            k_steps
            refine Stop.off ?_
            have hkk : (((kids P p).take i).flatMap fun xk => dfs P O (fu - 1) xk.2) ++ dfs P O (fu - 1) jj = ((kids P p).take (i + 1)).flatMap fun xk => dfs P O (fu - 1) xk.2 := by
              rw [List.take_add_one, hkid, List.flatMap_append]; simp
            have hdfs := dfs_eq (O := O) hj hPl hfu
            have hlen9 : ((((kids P p).take (i + 1)).flatMap fun xk => dfs P O (fu - 1) xk.2)).length ≤ (((kids P p)).flatMap fun xk => dfs P O (fu - 1) xk.2).length := by
              conv => rhs; rw [← List.take_append_drop (i + 1) (kids P p)]
              rw [List.flatMap_append, List.length_append]; omega
            have hpl9 := pairs_len hpx
            subst hled9
            refine wpAny_call ?_
            k_dflt (refine ih (fu - 1) (by omega) jj (p ++ [xx]) nj hPj hnjj (by rw [List.length_append, List.length_singleton]; omega) _ _ _ _ _ _ _ _ _ _ _ _ (ledx ++ own) _ _ _ D ys (vs ++ us0 ++ us) _ ys.length n4 ⟨⟨_, B2⟩, F₁, XB2, N₁, ⟨_, _, _, _, _, TB2⟩, D2, hk2⟩ (fun q hq => ?_) (fun q hq hne => List.mem_append_left _ (hsx _ (hsub8 _ (hsub5 q hq hne)))) (List.mem_append_left _ (hsx _ hD8)) hys ?_ ?_ (.inl rfl) ?_ ?_ ?_ ?_)
            · rcases List.mem_append.mp hq with hq | hq
              · exact hox q hq
              · rcases hown q hq with e | e
                · rw [e]; exact fun z => hoff _ (.head _) z.symm
                · rw [e]; exact fun z => hled _ (hmL _ (.tail _ (.tail _ (.head _)))) z
            · rw [List.length_append, List.length_singleton]; omega
            · intro x hx
              exact htw2 x (List.mem_of_mem_take (List.mem_filter.mp hx).1)
            · show dp + 1 + 10 + 4 * (fu - 1) < recursionLimit; omega
            · show un + 3 + 200 + 20 * (fu - 1) < cLine; omega
            · rw [hdfs, List.length_append] at hvl
              rw [List.length_append] at hpl9
              rw [← hkk, List.length_append] at hlen9
              simp only [List.length_append] at hpl9 hlen9 hvl ⊢
              omega
            · intro h' tk' us' n5 led' C' hsub' hoff' hp'
              have F' := C'.F
              have N' := C'.N
              clear F₁ N₁
              k_steps
              show TurnEnd _ _ _ _ _ _ _
              have hIa : (I, oI) ∈ (l', listOf (vs ++ us0 ++ us ++ us').toArray n5) :: led' := .tail _ (hsub' _ (List.mem_append_right _ hoI))
              refine TurnEnd.mk (tk := tk') ((l', listOf (vs ++ us0 ++ (us ++ us')).toArray n5) :: but I led') F' N' (fun q hq => .tail _ (hsub' q (List.mem_append_right _ hq))) (fun q hq => ?_) (fun q hq => ?_) ⟨hm1, hm2, us ++ us', n5, but I led', rfl, fun q hq => mem_but.mpr ⟨hsub' q (List.mem_append_left _ (hsx q hq)), hoff q (.tail _ (hsx q hq))⟩, fun q hq => hoff' q (mem_but.mp hq).1, ?_⟩
              · rw [← List.append_assoc] at hq
                rcases List.mem_cons.mp hq with rfl | hq
                · exact .head _
                · exact .tail _ (mem_but.mp hq).1
              · rcases List.mem_cons.mp hq with rfl | hq
                · exact hoff (l', listOf (vs ++ us0 ++ us).toArray n4) (.head _)
                · exact but_off q hq
              · rw [← hkk, ← List.append_assoc, ← List.append_assoc]
                exact pairs_but N' (fun q hq => .tail _ hq) hIa (by rw [hoIc]; intro e; injection e with e; exact absurd e (by decide)) (pairs_app (pairs_mono (fun q hq => hsub' q (List.mem_append_left _ hq)) hpx) hp')
          · clear N9 F9
            rintro m₁ nx h tk ⟨hm1, hm2, us, n4, ledx, rfl, hsx, hox, hpx⟩ F₁ N₁
            have hkl : (kvsOf nd P p).length = (kids P p).length := by unfold kvsOf; rw [List.length_map]
            rw [hkl, List.take_length, ← dfs_eq (O := O) hj hPl hfu] at hpx
            dsimp only
            try k_fold
            k_steps
            rw [List.append_assoc] at N₁
            refine leaveC0 F₁ N₁ fun C => hR _ _ (us0 ++ us) n4 ledx C (fun q hq => hsx q (hsub8 q hq)) hox hpx)
  try k_fold
  k_steps
  have htr5 : (H.tr, ({ cls := .ref 171, dict := some H.dx, data := .plain } : Obj)) ∈ led5 := hin5 _ (.head _)
  have hdx5 : (H.dx, dictOf (hdEnts w.params cv H (adOf nd 0)) 3) ∈ led5 := hin5 _ (.tail _ (.head _))
  unfold hdEnts at hdx5
  k_dflt (refine callWith_FKW (FnAt.of N5 hf5) (by rfl) ?_)
  k_steps
  refine Stop.off ?_
  rename News _ _ _ _ => N6
  rename Fr _ _ _ _ => F6
  obtain ⟨n0, hn0, had0⟩ := adOf_lt (nd := nd) (j := 0) (by rw [hn.len]; exact (List.getElem?_eq_some_iff.mp hn.root).1)
  rw [had0]
  refine wpAny_call ?_
  k_dflt (refine walk 3 0 [] n0 hn.root hn0 rfl _ _ _ _ _ _ _ _ _ _ _ _ ((_, listOf [].toArray 0) :: but l' led5) _ _ _ _ [] [] [] 0 0 ⟨⟨_, B1⟩, F6, XB1, News.sub N6 (fun q hq => ?_), ⟨_, _, _, _, _, TB1⟩, D1, hk1⟩ (fun q hq => ?_) (fun q hq hne => .tail _ (mem_but.mpr ⟨hq, hne⟩)) (.head _) .nil ?_ ?_ (.inr rfl) ?_ ?_ ?_ ?_)
  · rcases List.mem_cons.mp hq with rfl | hq
    · exact .tail _ hD5
    · rcases List.mem_cons.mp hq with rfl | hq
      · exact .head _
      · exact .tail _ (mem_but.mp hq).1
  · rename (∀ p : Addr × Obj, p ∈ led5 → p.1 < _) => hl6
    rcases List.mem_cons.mp hq with rfl | hq
    · exact Nat.ne_of_gt (hl6 _ hD5)
    · exact but_off q hq
  · exact Nat.zero_le _
  · intro x hx; cases hx
  · show dp + 1 + 10 + 4 * 3 < recursionLimit; omega
  · show un + 3 + 200 + 20 * 3 < cLine; omega
  · have h1 := dfs_len (O := O) hPn 3 0
    have h2 : dfsMax 3 = 8421 := rfl
    rw [List.length_nil]; omega
  · intro h' tk' us n3 led' C9 hsub' hoff' hp'
    rw [List.nil_append] at C9
    clear B1 X1 T1 D1 F6 N6
    obtain ⟨⟨A2, B2⟩, F2, XB2, N2, ⟨p2, loose2, mean2, mg2, mb2, TB2⟩, D2, hk2⟩ := id C9
    have X2 := XB2.keeps B2.stays
    have T2 := TB2.keeps B2.stays
    have hi9 : (L1 + 1, oi) ∈ led' := hsub' _ (.tail _ (mem_but.mpr ⟨hi5, Nat.ne_of_lt hlD.2.1⟩))
    have hw9 : (L1 + 1 + 1, ow) ∈ led' := hsub' _ (.tail _ (mem_but.mpr ⟨hw5, Nat.ne_of_lt hlD.1⟩))
    k_steps
    k_dflt (refine iter_L F2 N2 (.head _) ?_)
    intro it h11 F11 N11 hlt11
    k_steps
    refine leaveC0 F11 N11 fun C => hQ _ _ it l' us n3 led' C (hlt11 _ (.head _)) (fun q hq => ⟨hoff' q hq, hlt11 q (.tail _ hq)⟩) (fun q hq hne => ?_) (tabSt_move hS4 fun q hq hc => ?_) hp'
    · have h1 := Nat.lt_trans (hlt1 q hq) (Nat.lt_trans (Nat.lt_succ_self L1) hlD.2.1)
      exact hsub' _ (.tail _ (mem_but.mpr ⟨hmem5 _ (hold q hq hne) (hL126 q hq), Nat.ne_of_lt h1⟩))
    · obtain ⟨h1, h2⟩ := hkeep q hq hc
      exact hsub' _ (.tail _ (mem_but.mpr ⟨hmem5 _ hq h1, h2⟩))
end
end Mine
end
section
theorem Mine.switch_S11 : True := by
  w_top off
  trivial
open Lean Elab Tactic Meta PySem PySem.W PySem.Calls PyProof.Rows
set_option pp.deepTerms false
set_option pp.maxSteps 800
set_option pp.deepTerms.threshold 5
namespace Mine
local macro_rules | `(tactic| walk_at "exec For Name Name cons nil") => `(tactic| (refine Mine.Stop.on ?_))
local macro_rules | `(tactic| walk_at "exec For Name Call cons nil") => `(tactic| (refine Mine.Stop.on ?_))
local macro_rules | `(tactic| walk_at "exec Assign cons ListComp") => `(tactic| (refine Mine.Stop.on ?_))
local macro_rules | `(tactic| walk_at "LeaveC") => `(tactic| fail "here")
local macro_rules | `(tactic| k_room) => `(tactic| first | ktr_room | ((simp only [Mine.mark_depth, depth_under_make, depth_under_kw, depth_in1, depth_deeper, depth_caller]); (try dsimp only [ktrTop]); (try simp only [recursionLimit] at *); omega))
local macro_rules | `(tactic| k_all) => `(tactic| first | assumption | exact Mine.offLt (by assumption) | exact Mine.offLt2 (by assumption) (by assumption) | (refine List.forall_mem_append.mpr ⟨?a, ?b⟩; (case a => k_all); (case b => k_all)))
local macro_rules | `(tactic| walk_at "setItem ref str") => `(tactic| (k_here; k_dflt (refine' kda_setB (knd := PySem.strKind _ _) ?F ?N ?hm ?d (strKind_is _ _ _ _) ?z ?_; (case F => k_asm); (case N => k_asm); (case hm => k_mem); (case d => k_asm); (case z => k_asm)); intro h' o' F' N' hd'))
local macro_rules | `(tactic| walk_at "compareOp Is str ref") => `(tactic| (k_here; refine wpAny_is_other (by rfl) (by intro x; cases x) ?_))
local macro_rules | `(tactic| k_mem) => `(tactic| assumption)
local macro_rules | `(tactic| walk_at "eval Name") => `(tactic| (k_here; (with_reducible show wpAny _ _ (eval (Expr.Name _ _) (envOf _ _ _ _ _)) _ _ _); k_dflt (refine' ld ?k1 ?k2 ?_; (case k1 => k_asm); (case k2 => first | exact rfl | assumption); k_whole)))
local macro_rules | `(tactic| walk_at "eval Name") => `(tactic| (k_here; (with_reducible show wpAny _ _ (eval (Expr.Name _ _) (envOfC _ _ _ _ _)) _ _ _); k_dflt (refine' nameX_L ?F ?v ?_ ?a ?b; (case F => k_asm); (case a => rfl); (case b => rfl); (case v => first | rfl | assumption); k_whole)))
local macro_rules | `(tactic| walk_at "call builtin:len") => `(tactic| (k_here; (with_reducible show wpAny _ _ (call (Value.builtin "len") [Value.ref _]) _ _ _); k_dflt (first | refine len_L (by k_asm) (by k_mem) (by omega) ?_ | refine len_T (by k_asm) (by k_mem) (by omega) ?_)))
local macro_rules | `(tactic| walk_at "subscriptTail") => `(tactic| (k_here; (with_reducible show wpAny _ _ (subscriptTail _ (PySem.Expr.Slice _ _ _ _) (Value.ref _) (Value.ref _)) _ _ _); refine Mine.Stop.on ?_))
local macro_rules | `(tactic| walk_at "compareOp Eq ref ref") => `(tactic| (refine Mine.Stop.on ?_))
local macro_rules | `(tactic| walk_at "compareOp NotEq ref ref") => `(tactic| (refine Mine.Stop.on ?_))
local macro_rules | `(tactic| walk_at "call type:list") => `(tactic| (k_here; k_dflt (refine list_of_tuple (by k_asm) (by k_asm) (by k_mem) (by omega) ?_); intro D' c' h' F' N' l1; (try k_sweep)))
local macro_rules | `(tactic| walk_at "call ref") => `(tactic| ((with_reducible show wpAny _ _ (call (Value.ref 131) _) _ _ _); refine Mine.Stop.on ?_))
local macro_rules | `(tactic| walk_at "eval GeneratorExp") => `(tactic| (refine Mine.Stop.on ?_))
theorem tabSt_but {P K : Addr} {pos : Pos} {qual : Str} {h₀ h : Heap} {L : Addr} {led led0 : List (Addr × Obj)} (N : News h₀ L h led) (S : TabSt P pos qual led0) (sub : ∀ p ∈ led0, p ∈ led) (hK : (K, tabObj #[]) ∈ led) (hne : P ≠ K) : TabSt P pos qual (but K led0) := by
  rcases S with h | ⟨c', oc, vs, t, h1, h2, h3, h4⟩
  · exact .inl (mem_but.mpr ⟨h, hne⟩)
  · refine .inr ⟨c', oc, vs, t, mem_but.mpr ⟨h1, hne⟩, mem_but.mpr ⟨h2, fun e => ?_⟩, h3, h4⟩
    have e1 := (N _ (sub _ h2)).1
    have e2 := (N _ hK).1
    dsimp only at e1 e2 e
    rw [e, e2] at e1
    have e3 := Option.some.inj e1
    rw [← e3] at h3
    injection h3 with h3
    rw [← h3] at h4
    simp at h4
section
variable {prog : Program} {w : World} {dp un : Nat} {gd : Option (List Code)} {cn : Str} {cs : Scope} {a : Addr} {ccd : Value} {cl : List (Str × Addr)} {outer : List Env} {base h₀ : Heap} {L : Addr} {m : Str → Option Value} {news : List (Addr × Obj)} {s : Shared} {Q E : Value → Shared → Prop}
set_option maxRecDepth 100000
set_option maxHeartbeats 1000000
theorem keys_spec {H : TrieHd} {cv : Bool} {nd : List Nd} {P : List (List Str)} {O : List (Option (Str × Str))} {rest : List (Addr × Obj)}
   (C : Cx (Mine.hd.heap_39 w.params) cs outer base h₀ L s.heap m news) (hd : dp + 60 < recursionLimit) (hu : un + 500 < cLine)
   (hin : ∀ p ∈ hdObjs w.params 171 cv H (adOf nd 0) ++ (objsOf 71 nd ++ rest), p ∈ news) (h6 : ∀ p ∈ hdObjs w.params 171 cv H (adOf nd 0) ++ (objsOf 71 nd ++ rest), p.1 ≠ 126) (hn : NodesOk prog w nd P) (ho : Outs 44 nd O rest)
   (hap : Apart (objsOf 71 nd)) (hPl : ∀ q ∈ P, q.length ≤ 3) (hPn : P.length ≤ 20) (hPw : ∀ q ∈ P, (q.getLastD ⟨#[]⟩).length ≤ 1000) (hCd : CodeHd base 130 126) (hP : TabSt 126 ⟨85, 8, 91, 39⟩ "Trie.items.<locals>.walk" news)
   (hCk : CodeHd base 116 112) (hPk : (112, tabObj #[]) ∈ news)
   (hQ : ∀ a' C' g' gs h' tk' it l (vs : List Value) n ps' news', gs.bare = true → Cx (Mine.hd.heap_39 w.params) cs outer base h₀ L h' m ((112, tabObj ps') :: but 112 ((it, itObj l) :: (l, listOf vs.toArray n) :: news')) → l < it → (∀ q ∈ news', q.1 ≠ l ∧ q.1 < it) → (∀ q ∈ news, q.1 ≠ 126 → q ∈ news') → TabSt 126 ⟨85, 8, 91, 39⟩ "Trie.items.<locals>.walk" ((112, tabObj ps') :: but 112 ((it, itObj l) :: (l, listOf vs.toArray n) :: news')) → it < C' → L < C' →
     GenStrs prog w (ktrTop dp un gd cn cs L a ccd cl outer).in1.in1 a' C' it g' ((dfs P O 3 0).map Prod.fst) { s with gens := s.gens.push gs, heap := h', toks := tk' } → Q (.ref a') { s with gens := s.gens.push gs, heap := h', toks := tk' }) :
   wpAny (model prog w) (ktrTop dp un gd cn cs L a ccd cl outer) (call (.ref 117) [.ref H.tr]) Q E s := by
  obtain ⟨⟨A0, B0⟩, F0, XB0, N0, ⟨p0, loose0, mean0, mg0, mb0, TB0⟩, D0, hk0⟩ := id C
  have X0 := XB0.keeps B0.stays
  have T0 := TB0.keeps B0.stays
  refine wpAny_call ?_
  k_dflt (refine' enterC C ?kA ?kF ?kK ?k6 ?k7 ?k8 ?k9 ?kB ?_ ?c2 ?c3 ?c4 ?c5; (case kA => exact rfl); (case kF => exact rfl); (case kK => exact hk0); (case k6 => k_is); (case k7 => k_is); (case k8 => (show dp < _; omega)); (case k9 => first | exact BindsTo.of_eq rfl | exact binds_K (by k_in) rfl (by k_is) rfl rfl rfl); (case kB => exact locs rfl); (case c2 => exact rfl); (case c3 => exact rfl); (case c4 => exact rfl); (case c5 => decide); k_whole)
  intro g L1 hh1 C1 hlt1
  clear B0 F0 N0 X0 T0 D0
  obtain ⟨⟨A1, B1⟩, F1, XB1, N1, ⟨p1, loose1, mean1, mg1, mb1, TB1⟩, D1, hk1⟩ := id C1
  have X1 := XB1.keeps B1.stays
  have T1 := TB1.keeps B1.stays
  dsimp only
  try k_fold
  have htr : (H.tr, ({ cls := .ref 171, dict := some H.dx, data := .plain } : Obj)) ∈ news := hin _ (.head _)
  have hdx : (H.dx, dictOf (hdEnts w.params cv H (adOf nd 0)) 3) ∈ news := hin _ (.tail _ (.head _))
  unfold hdEnts at hdx
  k_steps
  refine Stop.off ?_
  refine genexp_pairs (L := L1) (P := 112) (ktrTop dp un gd cn cs L a ccd cl outer).in1.in1 rfl ?_ Prod.fst (.inl ⟨rfl, rfl⟩) rfl ?_ F1 T1 (hCk.keeps B1.stays) rfl rfl rfl rfl (by decide) (by decide) rfl rfl rfl (by decide) rfl (fun _ => rfl) ?_
  · show dp < recursionLimit; omega
  · show dp + 1 < recursionLimit; omega
  k_steps
  refine Stop.off ?_
  k_dflt (refine items_spec ⟨⟨_, B1⟩, by assumption, XB1, by assumption, ⟨_, _, _, _, _, TB1⟩, D1, hk1⟩ ?_ ?_ hin h6 hn ho hap hPl hPn hPw hCd hP ?_)
  · show dp + 1 + 50 < recursionLimit; omega
  · show un + 3 + 400 < cLine; omega
  intro h2 tk2 it l vs n news2 C2 hlit hoff2 hsub2 hS2 hp2
  clear B1 X1 T1 D1 F1 N1
  obtain ⟨⟨A2, B2⟩, F2, XB2, N2, ⟨p2, loose2, mean2, mg2, mb2, TB2⟩, D2, hk2⟩ := id C2
  have X2 := XB2.keeps B2.stays
  have T2 := TB2.keeps B2.stays
  refine ⟨it, l, vs, n, (it, itObj l) :: (l, listOf vs.toArray n) :: news2, dfs P O 3 0, rfl, F2, N2, .tail _ (.tail _ (hsub2 _ hPk (by decide))), .head _, .tail _ (.head _), pairs_mono (fun q hq => .tail _ (.tail _ hq)) hp2, ?_⟩
  intro a' C' g' h3 tk3 gs ps' hgs F3 N3 hLC hC3 G3
  have hS3 := tabSt_but (K := 112) (led0 := (it, itObj l) :: (l, listOf vs.toArray n) :: news2) N2 (tabSt_mono hS2 fun q hq => .tail _ (.tail _ hq)) (fun q hq => hq) (.tail _ (.tail _ (hsub2 _ hPk (by decide)))) (by decide)
  clear F2 N2
  k_steps
  dsimp only
  have hLg : L < g.objs.size := by
    obtain ⟨-, ⟨L', o', hf', -, ho', -⟩, -⟩ := B2.frames
    cases hf'
    exact Heap.lt_size ho'
  refine leaveC0 F3 N3 fun C => hQ _ _ _ _ _ _ it l vs n ps' news2 hgs C hlit hoff2 hsub2 (tabSt_mono hS3 fun q hq => .tail _ hq) (hC3 _ (.head _)) (Nat.lt_trans (Nat.lt_of_lt_of_le hLg F3.above) hLC) G3
theorem values_spec {H : TrieHd} {cv : Bool} {nd : List Nd} {P : List (List Str)} {O : List (Option (Str × Str))} {rest : List (Addr × Obj)}
   (C : Cx (Mine.hd.heap_39 w.params) cs outer base h₀ L s.heap m news) (hd : dp + 60 < recursionLimit) (hu : un + 500 < cLine)
   (hin : ∀ p ∈ hdObjs w.params 171 cv H (adOf nd 0) ++ (objsOf 71 nd ++ rest), p ∈ news) (h6 : ∀ p ∈ hdObjs w.params 171 cv H (adOf nd 0) ++ (objsOf 71 nd ++ rest), p.1 ≠ 126) (hn : NodesOk prog w nd P) (ho : Outs 44 nd O rest)
   (hap : Apart (objsOf 71 nd)) (hPl : ∀ q ∈ P, q.length ≤ 3) (hPn : P.length ≤ 20) (hPw : ∀ q ∈ P, (q.getLastD ⟨#[]⟩).length ≤ 1000) (hCd : CodeHd base 130 126) (hP : TabSt 126 ⟨85, 8, 91, 39⟩ "Trie.items.<locals>.walk" news)
   (hCk : CodeHd base 123 119) (hPk : (119, tabObj #[]) ∈ news)
   (hQ : ∀ a' C' g' gs h' tk' it l (vs : List Value) n ps' news', gs.bare = true → Cx (Mine.hd.heap_39 w.params) cs outer base h₀ L h' m ((119, tabObj ps') :: but 119 ((it, itObj l) :: (l, listOf vs.toArray n) :: news')) → l < it → (∀ q ∈ news', q.1 ≠ l ∧ q.1 < it) → (∀ q ∈ news, q.1 ≠ 126 → q ∈ news') → TabSt 126 ⟨85, 8, 91, 39⟩ "Trie.items.<locals>.walk" ((119, tabObj ps') :: but 119 ((it, itObj l) :: (l, listOf vs.toArray n) :: news')) → it < C' → L < C' →
     GenStrs prog w (ktrTop dp un gd cn cs L a ccd cl outer).in1.in1 a' C' it g' ((dfs P O 3 0).map Prod.snd) { s with gens := s.gens.push gs, heap := h', toks := tk' } → Q (.ref a') { s with gens := s.gens.push gs, heap := h', toks := tk' }) :
   wpAny (model prog w) (ktrTop dp un gd cn cs L a ccd cl outer) (call (.ref 124) [.ref H.tr]) Q E s := by
  obtain ⟨⟨A0, B0⟩, F0, XB0, N0, ⟨p0, loose0, mean0, mg0, mb0, TB0⟩, D0, hk0⟩ := id C
  have X0 := XB0.keeps B0.stays
  have T0 := TB0.keeps B0.stays
  refine wpAny_call ?_
  k_dflt (refine' enterC C ?kA ?kF ?kK ?k6 ?k7 ?k8 ?k9 ?kB ?_ ?c2 ?c3 ?c4 ?c5; (case kA => exact rfl); (case kF => exact rfl); (case kK => exact hk0); (case k6 => k_is); (case k7 => k_is); (case k8 => (show dp < _; omega)); (case k9 => first | exact BindsTo.of_eq rfl | exact binds_K (by k_in) rfl (by k_is) rfl rfl rfl); (case kB => exact locs rfl); (case c2 => exact rfl); (case c3 => exact rfl); (case c4 => exact rfl); (case c5 => decide); k_whole)
  intro g L1 hh1 C1 hlt1
  clear B0 F0 N0 X0 T0 D0
  obtain ⟨⟨A1, B1⟩, F1, XB1, N1, ⟨p1, loose1, mean1, mg1, mb1, TB1⟩, D1, hk1⟩ := id C1
  have X1 := XB1.keeps B1.stays
  have T1 := TB1.keeps B1.stays
  dsimp only
  try k_fold
  have htr : (H.tr, ({ cls := .ref 171, dict := some H.dx, data := .plain } : Obj)) ∈ news := hin _ (.head _)
  have hdx : (H.dx, dictOf (hdEnts w.params cv H (adOf nd 0)) 3) ∈ news := hin _ (.tail _ (.head _))
  unfold hdEnts at hdx
  k_steps
  refine Stop.off ?_
  refine genexp_pairs (L := L1) (P := 119) (ktrTop dp un gd cn cs L a ccd cl outer).in1.in1 rfl ?_ Prod.snd (.inr ⟨rfl, rfl⟩) rfl ?_ F1 T1 (hCk.keeps B1.stays) rfl rfl rfl rfl (by decide) (by decide) rfl rfl rfl (by decide) rfl (fun _ => rfl) ?_
  · show dp < recursionLimit; omega
  · show dp + 1 < recursionLimit; omega
  k_steps
  refine Stop.off ?_
  k_dflt (refine items_spec ⟨⟨_, B1⟩, by assumption, XB1, by assumption, ⟨_, _, _, _, _, TB1⟩, D1, hk1⟩ ?_ ?_ hin h6 hn ho hap hPl hPn hPw hCd hP ?_)
  · show dp + 1 + 50 < recursionLimit; omega
  · show un + 3 + 400 < cLine; omega
  intro h2 tk2 it l vs n news2 C2 hlit hoff2 hsub2 hS2 hp2
  clear B1 X1 T1 D1 F1 N1
  obtain ⟨⟨A2, B2⟩, F2, XB2, N2, ⟨p2, loose2, mean2, mg2, mb2, TB2⟩, D2, hk2⟩ := id C2
  have X2 := XB2.keeps B2.stays
  have T2 := TB2.keeps B2.stays
  refine ⟨it, l, vs, n, (it, itObj l) :: (l, listOf vs.toArray n) :: news2, dfs P O 3 0, rfl, F2, N2, .tail _ (.tail _ (hsub2 _ hPk (by decide))), .head _, .tail _ (.head _), pairs_mono (fun q hq => .tail _ (.tail _ hq)) hp2, ?_⟩
  intro a' C' g' h3 tk3 gs ps' hgs F3 N3 hLC hC3 G3
  have hS3 := tabSt_but (K := 119) (led0 := (it, itObj l) :: (l, listOf vs.toArray n) :: news2) N2 (tabSt_mono hS2 fun q hq => .tail _ (.tail _ hq)) (fun q hq => hq) (.tail _ (.tail _ (hsub2 _ hPk (by decide)))) (by decide)
  clear F2 N2
  k_steps
  dsimp only
  have hLg : L < g.objs.size := by
    obtain ⟨-, ⟨L', o', hf', -, ho', -⟩, -⟩ := B2.frames
    cases hf'
    exact Heap.lt_size ho'
  refine leaveC0 F3 N3 fun C => hQ _ _ _ _ _ _ it l vs n ps' news2 hgs C hlit hoff2 hsub2 (tabSt_mono hS3 fun q hq => .tail _ hq) (hC3 _ (.head _)) (Nat.lt_trans (Nat.lt_of_lt_of_le hLg F3.above) hLC) G3
end
end Mine
end
section
open PySem PySem.W PySem.Calls PyProof.Rows
namespace Mine
/-! words, and the texts that they make -/
def goodC (c : Nat) : Bool := decide (c < 128) && decide (lo1 c = c) && decide (up1 c < 128) && decide (lo1 (up1 c) = c)
def textC (c : Nat) : Bool := decide (kindOf c = "text")
def okWord (w : Str) : Bool := w.cps.toList.all goodC && !w.cps.toList.isEmpty && (w.cps.toList == [40] || w.cps.toList == [41] || w.cps.toList.all textC) && nonblank w && decide (w.length ≤ 8)
def OkWs (ws : List Str) : Prop := ∀ w ∈ ws, okWord w = true
def wkind (w : Str) : Str := if w.cps.toList = [40] ∨ w.cps.toList = [41] then "parens" else "text"
theorem str_eta (w : Str) : (⟨w.cps.toList.toArray⟩ : Str) = w := by cases w; simp
theorem kind_ne1 : (Str.ofString "space" == Str.ofString "text") = false := by decide
theorem kind_ne2 : Str.ofString "text" ≠ Str.ofString "parens" := by decide
theorem fold_same {k : Str} (hk0 : k ≠ "parens") : ∀ (w : List Nat), (∀ c ∈ w, kindOf c = k) → ∀ (f : List Str) (u : Str), w.foldl splitStep (f ++ [u], k) = (f ++ [u ++ ⟨w.toArray⟩], k)
  | [], _, f, u => by
    have e : u ++ (⟨#[]⟩ : Str) = u := by show (⟨u.cps ++ #[]⟩ : Str) = u; cases u; simp
    simp [e]
  | c :: r, h, f, u => by
    rw [List.foldl_cons]
    have hc := h c (.head _)
    have e : splitStep (f ++ [u], k) c = (f ++ [u ++ ⟨#[c]⟩], k) := by
      unfold splitStep
      rw [hc, if_pos ⟨rfl, hk0⟩]
      simp [gl]
    rw [e, fold_same hk0 r (fun d hd => h d (.tail _ hd))]
    have e2 : u ++ (⟨#[c]⟩ : Str) ++ ⟨r.toArray⟩ = u ++ ⟨(c :: r).toArray⟩ := by
      show (⟨(u.cps ++ #[c]) ++ r.toArray⟩ : Str) = ⟨u.cps ++ (c :: r).toArray⟩
      congr 1
      rw [Array.append_assoc]; simp
    rw [e2]
theorem fold_seg {k : Str} (hk0 : k ≠ "parens") {w : List Nat} (hne : w ≠ []) (h : ∀ c ∈ w, kindOf c = k) {st : List Str × Str} (hst : st.2 ≠ k) : w.foldl splitStep st = (st.1 ++ [⟨w.toArray⟩], k) := by
  cases w with
  | nil => exact absurd rfl hne
  | cons c r =>
    rw [List.foldl_cons]
    have hc := h c (.head _)
    have e : splitStep st c = (st.1 ++ [⟨#[c]⟩], k) := by
      unfold splitStep
      rw [hc, if_neg (fun q => hst q.1.symm)]
    rw [e, fold_same hk0 r fun d hd => h d (.tail _ hd)]
    congr 2
    show [(⟨#[c] ++ r.toArray⟩ : Str)] = [⟨(c :: r).toArray⟩]
    congr 2; simp
theorem fold_word {w : Str} (hw : okWord w = true) {st : List Str × Str} (hst : st.2 ≠ "text") : w.cps.toList.foldl splitStep st = (st.1 ++ [w], wkind w) := by
  unfold okWord at hw
  simp only [Bool.and_eq_true, Bool.or_eq_true, beq_iff_eq, Bool.not_eq_true'] at hw
  obtain ⟨⟨⟨⟨h1, h2⟩, h3⟩, h4⟩, _⟩ := hw
  by_cases hp : w.cps.toList = [40] ∨ w.cps.toList = [41]
  · unfold wkind
    rw [if_pos hp]
    have : ∀ c, (c = 40 ∨ c = 41) → w.cps.toList = [c] → w.cps.toList.foldl splitStep st = (st.1 ++ [w], ("parens" : Str)) := fun c hc e => by
      have ew : w = ⟨#[c]⟩ := by rw [← str_eta w, e]
      rw [e, List.foldl_cons, List.foldl_nil, step_par (by unfold kindOf; rw [if_pos hc]), ew]
    rcases hp with hp | hp
    · exact this 40 (.inl rfl) hp
    · exact this 41 (.inr rfl) hp
  · unfold wkind
    rw [if_neg hp]
    have h3 : w.cps.toList.all textC = true := by
      rcases h3 with (h | h) | h
      · exact absurd (.inl h) hp
      · exact absurd (.inr h) hp
      · exact h
    rw [fold_seg (k := "text") kind_ne2 (by intro q; rw [q] at h2; cases h2) (fun c hc => of_decide_eq_true (List.all_eq_true.mp h3 c hc)) hst, str_eta]
theorem blank_kind : kindOf 32 = "space" := by decide +kernel
theorem wkind_ne (w : Str) : wkind w ≠ "space" := by
  unfold wkind
  split <;> decide
theorem fold_blank {st : List Str × Str} (hst : st.2 ≠ "space") : splitStep st 32 = (st.1 ++ [Str.ofString " "], ("space" : Str)) := by
  have := fold_seg (k := "space") (by decide) (w := [32]) (by simp) (fun c hc => by rw [List.mem_singleton.mp hc]; exact blank_kind) hst
  rw [List.foldl_cons, List.foldl_nil] at this
  rw [this]; rfl
/-- words with blanks between -/
def inter : List Str → List Str
  | [] => []
  | [w] => [w]
  | w :: x :: r => w :: Str.ofString " " :: inter (x :: r)
theorem cps_app (a b : Str) : (a ++ b).cps.toList = a.cps.toList ++ b.cps.toList := by
  show (a.cps ++ b.cps).toList = _; simp
theorem fold_join : ∀ (ws : List Str), OkWs ws → ws ≠ [] → ∀ {st : List Str × Str}, st.2 ≠ "text" → ((Str.join (Str.ofString " ") ws).cps.toList.foldl splitStep st).1 = st.1 ++ inter ws
  | [], _, h, _, _ => absurd rfl h
  | [w], h, _, st, hst => by rw [join_one, fold_word (h w (.head _)) hst]; rfl
  | w :: x :: r, h, _, st, hst => by
    rw [join_cons_cons, cps_app, cps_app, List.foldl_append, List.foldl_append, fold_word (h w (.head _)) hst]
    have e : (Str.ofString " ").cps.toList = [32] := rfl
    rw [e, List.foldl_cons, List.foldl_nil, fold_blank (wkind_ne w)]
    rw [fold_join (x :: r) (fun y hy => h y (.tail _ hy)) (by simp) (by show (Str.ofString "space") ≠ Str.ofString "text"; decide)]
    simp [inter]
theorem split_join {ws : List Str} (h : OkWs ws) (hne : ws ≠ []) : splitTok (Str.join (Str.ofString " ") ws) = inter ws := by
  unfold splitTok splitAt
  have e : (Str.join (Str.ofString " ") ws).cps.toList.take (Str.join (Str.ofString " ") ws).cps.size = (Str.join (Str.ofString " ") ws).cps.toList := by
    rw [← Array.length_toList, List.take_length]
  rw [e, fold_join ws h hne (by show Str.ofString "" ≠ Str.ofString "text"; decide), List.nil_append]
theorem blank_blank : nonblank (Str.ofString " ") = false := by decide +kernel
theorem word_nonblank {w : Str} (h : okWord w = true) : nonblank w = true := by
  unfold okWord at h
  simp only [Bool.and_eq_true] at h
  exact h.1.2
theorem filter_inter : ∀ {ws : List Str}, OkWs ws → (inter ws).filter nonblank = ws
  | [], _ => rfl
  | [w], h => by rw [inter, List.filter_cons, if_pos (word_nonblank (h w (.head _)))]; rfl
  | w :: x :: r, h => by
    rw [inter, List.filter_cons, if_pos (word_nonblank (h w (.head _))), List.filter_cons, if_neg (by rw [blank_blank]; decide), filter_inter fun y hy => h y (.tail _ hy)]
theorem join_good : ∀ {ws : List Str}, OkWs ws → ∀ c ∈ (Str.join (Str.ofString " ") ws).cps.toList, goodC c = true
  | [], _, c, hc => by cases hc
  | [w], h, c, hc => by
    rw [join_one] at hc
    have := h w (.head _)
    unfold okWord at this
    simp only [Bool.and_eq_true] at this
    exact List.all_eq_true.mp this.1.1.1.1 c hc
  | w :: x :: r, h, c, hc => by
    rw [join_cons_cons, cps_app, cps_app] at hc
    rcases List.mem_append.mp hc with hc | hc
    · rcases List.mem_append.mp hc with hc | hc
      · have := h w (.head _)
        unfold okWord at this
        simp only [Bool.and_eq_true] at this
        exact List.all_eq_true.mp this.1.1.1.1 c hc
      · have e : (Str.ofString " ").cps.toList = [32] := rfl
        rw [e] at hc
        rw [List.mem_singleton.mp hc]; decide
    · exact join_good (fun y hy => h y (.tail _ hy)) c hc
theorem txt_join (ws : List Str) : Txt.join (Str.ofString " ") ws = Str.join (Str.ofString " ") ws := by simpa using join_plain_closes (Str.ofString " ") ws
theorem lower_text {ws : List Str} (h : OkWs ws) (b : Bool) : Txt.lower (textOf ws b) = Str.join (Str.ofString " ") ws := by
  have hg := join_good h
  have g : ∀ c ∈ (Str.join (Str.ofString " ") ws).cps.toList, c < 128 ∧ lo1 c = c ∧ up1 c < 128 ∧ lo1 (up1 c) = c := fun c hc => by
    have := hg c hc
    unfold goodC at this
    simp only [Bool.and_eq_true, decide_eq_true_eq] at this
    exact ⟨this.1.1.1, this.1.1.2, this.1.2, this.2⟩
  unfold textOf
  rw [txt_join]
  have ext : ∀ (f : Nat → Nat) (x : Str), (∀ c ∈ x.cps.toList, f c = c) → (⟨x.cps.map f⟩ : Str) = x := fun f x hf => by
    cases x with
    | mk cps =>
      congr 1
      apply Array.toList_inj.mp
      rw [Array.toList_map]
      exact (List.map_congr_left (fun c hc => hf c hc)).trans (List.map_id _)
  cases b with
  | false =>
    rw [if_neg (by decide), lower_ascii (fun c hc => (g c hc).1)]
    exact ext _ _ fun c hc => (g c hc).2.1
  | true =>
    rw [if_pos rfl, upper_ascii (fun c hc => (g c hc).1), lower_ascii]
    · show (⟨((Str.join (Str.ofString " ") ws).cps.map up1).map lo1⟩ : Str) = _
      rw [Array.map_map]
      exact ext _ _ fun c hc => (g c hc).2.2.2
    · intro c hc
      have hc : c ∈ ((Str.join (Str.ofString " ") ws).cps.map up1).toList := hc
      rw [Array.toList_map] at hc
      obtain ⟨d, hd, rfl⟩ := List.mem_map.mp hc
      exact (g d hd).2.2.1
theorem words_of_text {ws : List Str} (h : OkWs ws) (hne : ws ≠ []) (b : Bool) : (splitTok (Txt.lower (textOf ws b))).filter nonblank = ws := by
  rw [lower_text h, split_join h hne, filter_inter h]
theorem text_ascii {ws : List Str} (h : OkWs ws) (b : Bool) : (textOf ws b).cps.all (· < 128) = true := by
  have g : ∀ c ∈ (Str.join (Str.ofString " ") ws).cps.toList, c < 128 ∧ up1 c < 128 := fun c hc => by
    have := join_good h c hc
    unfold goodC at this
    simp only [Bool.and_eq_true, decide_eq_true_eq] at this
    exact ⟨this.1.1.1, this.1.2⟩
  unfold textOf
  rw [txt_join, Array.all_eq_true_iff_forall_mem]
  cases b with
  | false =>
    rw [if_neg (by decide)]
    intro c hc
    exact decide_eq_true (g c (Array.mem_toList_iff.mpr hc)).1
  | true =>
    rw [if_pos rfl, upper_ascii (fun c hc => (g c hc).1)]
    intro c hc
    obtain ⟨d, hd, rfl⟩ := Array.mem_map.mp hc
    exact decide_eq_true (g d (Array.mem_toList_iff.mpr hd)).2
theorem word_len {w : Str} (h : okWord w = true) : w.length ≤ 8 ∧ w.length ≠ 0 := by
  unfold okWord at h
  simp only [Bool.and_eq_true, decide_eq_true_eq, Bool.not_eq_true'] at h
  refine ⟨h.2, fun q => ?_⟩
  have : w.cps.toList = [] := List.eq_nil_of_length_eq_zero (by rw [Array.length_toList]; exact q)
  rw [this] at h; simp at h
theorem upper_len {x : Str} (h : ∀ c ∈ x.cps.toList, c < 128) : (Txt.upper x).length = x.length := by rw [upper_ascii h]; simp [Str.length]
theorem text_len {ws : List Str} (h : OkWs ws) (b : Bool) : (textOf ws b).length = (Str.join (Str.ofString " ") ws).length := by
  unfold textOf
  rw [txt_join]
  cases b with
  | false => rw [if_neg (by decide)]
  | true =>
    rw [if_pos rfl]
    refine upper_len fun c hc => ?_
    have := join_good h c hc
    unfold goodC at this
    simp only [Bool.and_eq_true, decide_eq_true_eq] at this
    exact this.1.1.1
theorem sum_len {ws : List Str} (h : OkWs ws) : (ws.map (·.length)).sum ≤ 8 * ws.length := by
  induction ws with
  | nil => exact Nat.le_refl _
  | cons w r ih =>
    rw [List.map_cons, List.sum_cons, List.length_cons]
    have := (word_len (h w (.head _))).1
    have := ih fun y hy => h y (.tail _ hy)
    omega
theorem text_bound {ws : List Str} (h : OkWs ws) (b : Bool) : (textOf ws b).length ≤ 9 * ws.length := by
  rw [text_len h, ← txt_join]
  have := join_len ws
  have := sum_len h
  omega
theorem text_ne {ws : List Str} (h : OkWs ws) (hne : ws ≠ []) (b : Bool) : (textOf ws b).length ≠ 0 := by
  rw [text_len h]
  cases ws with
  | nil => exact absurd rfl hne
  | cons w r =>
    have := (word_len (h w (.head _))).2
    cases r with
    | nil => rw [join_one]; exact this
    | cons x r => rw [join_cons_cons, str_app_len, str_app_len]; omega
theorem okWs_strs {ws : List Str} (h : OkWs ws) : StrsOk ws := fun w hw => by
  have := h w hw
  unfold okWord at this
  simp only [Bool.and_eq_true] at this
  unfold PyData.strOk
  rw [Array.all_eq_true_iff_forall_mem]
  intro c hc
  have := List.all_eq_true.mp this.1.1.1.1 c (Array.mem_toList_iff.mpr hc)
  unfold goodC at this
  simp only [Bool.and_eq_true, decide_eq_true_eq] at this
  exact decide_eq_true (by omega)
theorem menu_ok : ∀ w ∈ lawWords, okWord w = true := by decide +kernel
theorem key_ok (c : Nat) : OkWs (keyOf c) := fun w hw => by
  unfold keyOf at hw
  obtain ⟨p, _, rfl⟩ := List.mem_map.mp hw
  exact menu_ok _ (List.mem_of_getElem? (keyAt_get c p))
theorem key_len (c : Nat) : (keyOf c).length = keyN c ∧ 1 ≤ keyN c ∧ keyN c ≤ 3 := by
  unfold keyOf keyN
  refine ⟨by simp, by omega, by omega⟩
end Mine
end
section
open PySem PySem.W PySem.Calls PyProof.Rows
namespace Mine
/-! what the adding of a row of words makes -/
theorem addFold_ext (ws : List Str) : ∀ st : List (List Str) × List Str, ∃ l, (ws.foldl addStep st).1 = st.1 ++ l := by
  induction ws with
  | nil => intro st; exact ⟨[], by simp⟩
  | cons x r ih =>
    intro st
    rw [List.foldl_cons]
    obtain ⟨l, hl⟩ := ih (addStep st x)
    have : ∃ k, (addStep st x).1 = st.1 ++ k := by
      unfold addStep; dsimp only; split
      · exact ⟨[], by simp⟩
      · exact ⟨_, rfl⟩
    obtain ⟨k, hk⟩ := this
    exact ⟨k ++ l, by rw [hl, hk, List.append_assoc]⟩
theorem addAll_ext (P : List (List Str)) (ws : List Str) : ∃ l, addAll P ws = P ++ l := addFold_ext ws (P, [])
theorem addFold_mem (ws : List Str) : ∀ (st : List (List Str) × List Str) (p : List Str), p ∈ (ws.foldl addStep st).1 ↔ p ∈ st.1 ∨ ∃ k, 1 ≤ k ∧ k ≤ ws.length ∧ p = st.2 ++ ws.take k := by
  induction ws with
  | nil =>
    intro st p
    constructor
    · exact .inl
    · rintro (h | ⟨k, h1, h2, -⟩)
      · exact h
      · rw [List.length_nil] at h2; omega
  | cons x r ih =>
    intro st p
    rw [List.foldl_cons, ih]
    have h1 : p ∈ (addStep st x).1 ↔ p ∈ st.1 ∨ p = st.2 ++ [x] := by
      unfold addStep; dsimp only; split
      · rename_i h
        constructor
        · exact .inl
        · rintro (h' | rfl)
          · exact h'
          · exact h
      · simp
    have h2 : (addStep st x).2 = st.2 ++ [x] := rfl
    rw [h1, h2]
    constructor
    · rintro ((h | h) | ⟨k, k1, k2, rfl⟩)
      · exact .inl h
      · exact .inr ⟨1, by omega, by simp, by simpa using h⟩
      · exact .inr ⟨k + 1, by omega, by simpa using k2, by simp⟩
    · rintro (h | ⟨k, k1, k2, rfl⟩)
      · exact .inl (.inl h)
      · by_cases hk : k = 1
        · subst hk; exact .inl (.inr (by simp))
        · obtain ⟨k', rfl⟩ : ∃ k', k = k' + 1 := ⟨k - 1, by omega⟩
          exact .inr ⟨k', by omega, by simpa using k2, by simp⟩
theorem addAll_mem {P : List (List Str)} {ws p : List Str} : p ∈ addAll P ws ↔ p ∈ P ∨ ∃ k, 1 ≤ k ∧ k ≤ ws.length ∧ p = ws.take k := by
  unfold addAll; rw [addFold_mem]; simp
theorem told_add {P : List (List Str)} {O : List (Option (Str × Str))} {ws q : List Str} {j k : Nat} {xy : Str × Str} (hO : O.length = P.length) (hk : (addAll P ws).length = P.length + k) (hj : (addAll P ws)[j]? = some ws) (hn : (addAll P ws).Nodup) :
    told (addAll P ws) (addOut O k j xy) q = if q = ws then some xy else told P O q := by
  have hjl : j < (addAll P ws).length := (List.getElem?_eq_some_iff.mp hj).1
  obtain ⟨l, hl⟩ := addAll_ext P ws
  have hnP : P.Nodup := by rw [hl] at hn; exact (List.nodup_append.mp hn).1
  by_cases hq : q = ws
  · subst hq
    rw [if_pos rfl, told_at hn hj]
    unfold addOut
    rw [List.getElem?_set_self (by simp; omega)]; rfl
  · rw [if_neg hq]
    by_cases hm : q ∈ addAll P ws
    · obtain ⟨i, hi⟩ := List.mem_iff_getElem?.mp hm
      have hij : j ≠ i := fun e => by
        rw [← e, hj] at hi
        exact hq (Option.some.inj hi).symm
      rw [told_at hn hi]
      unfold addOut
      rw [List.getElem?_set_ne hij]
      by_cases hlt : i < P.length
      · rw [hl, List.getElem?_append_left hlt] at hi
        rw [told_at hnP hi, List.getElem?_append_left (by omega)]
      · have hnp : q ∉ P := fun hp => by
          obtain ⟨i', hi'⟩ := List.mem_iff_getElem?.mp hp
          have hlt' := (List.getElem?_eq_some_iff.mp hi').1
          have : (addAll P ws)[i']? = some q := by rw [hl, List.getElem?_append_left hlt']; exact hi'
          have hil : i < (addAll P ws).length := (List.getElem?_eq_some_iff.mp hi).1
          have := (List.getElem?_inj hil hn).mp (hi.trans this.symm)
          omega
        rw [told_off hnp, List.getElem?_append_right (by omega)]
        cases h : (List.replicate k (none : Option (Str × Str)))[i - O.length]? with
        | none => rfl
        | some o =>
          have := List.mem_of_getElem? h
          rw [List.mem_replicate] at this
          rw [this.2]; rfl
    · rw [told_off hm, told_off fun hp => hm (addAll_mem.mpr (.inl hp))]

/-! the law's table and the trie tell the same -/
structure Inv (rows : List Row) (P : List (List Str)) (O : List (Option (Str × Str))) : Prop where
  nodup : (rows.map (·.1)).Nodup
  told : ∀ ws, told P O ws = (rows.find? fun r => decide (r.1 = ws)).map (·.2)
  mem : ∀ ws, ws ∈ P ↔ ws = [] ∨ ∃ r ∈ rows, r.1.take ws.length = ws
  ok : ∀ r ∈ rows, OkWs r.1 ∧ 1 ≤ r.1.length ∧ r.1.length ≤ 3
def putRow (rows : List Row) (ws : List Str) (xy : Str × Str) : List Row := rows.filter (fun r => !decide (r.1 = ws)) ++ [(ws, xy)]
theorem Inv.put {rows : List Row} {P : List (List Str)} {O : List (Option (Str × Str))} {ws : List Str} {j k : Nat} {xy : Str × Str} (h : Inv rows P O) (hO : O.length = P.length) (hk : (addAll P ws).length = P.length + k) (hj : (addAll P ws)[j]? = some ws) (hn : (addAll P ws).Nodup)
    (hw : OkWs ws) (h1 : 1 ≤ ws.length) (h3 : ws.length ≤ 3) : Inv (putRow rows ws xy) (addAll P ws) (addOut O k j xy) := by
  have hf : ∀ r ∈ rows.filter (fun r => !decide (r.1 = ws)), r ∈ rows ∧ r.1 ≠ ws := fun r hr => by
    obtain ⟨a, b⟩ := List.mem_filter.mp hr
    exact ⟨a, by simpa using b⟩
  refine ⟨?_, fun q => ?_, fun q => ?_, fun r hr => ?_⟩
  · unfold putRow
    rw [List.map_append, List.nodup_append]
    refine ⟨(h.nodup.sublist (List.Sublist.map _ List.filter_sublist)), by simp, fun a ha b hb => ?_⟩
    obtain ⟨r, hr, rfl⟩ := List.mem_map.mp ha
    rw [List.map_cons, List.map_nil, List.mem_singleton] at hb
    rw [hb]; exact (hf r hr).2
  · rw [told_add hO hk hj hn]
    unfold putRow
    rw [List.find?_append]
    by_cases hq : q = ws
    · subst hq
      rw [if_pos rfl, List.find?_eq_none.mpr (fun r hr => by have := (hf r hr).2; simpa using this)]
      simp
    · rw [if_neg hq, h.told q]
      have e : (rows.filter fun r => !decide (r.1 = ws)).find? (fun r => decide (r.1 = q)) = rows.find? fun r => decide (r.1 = q) := by
        rw [List.find?_filter]
        congr 1
        funext r
        by_cases hr : r.1 = q
        · simp [hr, hq]
        · simp [hr]
      rw [e]
      cases hfd : rows.find? fun r => decide (r.1 = q) with
      | some r => rfl
      | none =>
        have : ([(ws, xy)] : List Row).find? (fun r => decide (r.1 = q)) = none := by
          have : ¬ ws = q := fun e => hq e.symm
          simp [this]
        rw [this]; rfl
  · rw [addAll_mem, h.mem q]
    unfold putRow
    constructor
    · rintro ((rfl | ⟨r, hr, e⟩) | ⟨k, k1, k2, rfl⟩)
      · exact .inl rfl
      · by_cases hrw : r.1 = ws
        · exact .inr ⟨(ws, xy), List.mem_append_right _ (.head _), by rw [← hrw]; exact e⟩
        · exact .inr ⟨r, List.mem_append_left _ (List.mem_filter.mpr ⟨hr, by simpa using hrw⟩), e⟩
      · refine .inr ⟨(ws, xy), List.mem_append_right _ (.head _), ?_⟩
        show ws.take (ws.take k).length = ws.take k
        rw [List.length_take, Nat.min_eq_left k2]
    · rintro (rfl | ⟨r, hr, e⟩)
      · exact .inl (.inl rfl)
      · rcases List.mem_append.mp hr with hr | hr
        · exact .inl (.inr ⟨r, (hf r hr).1, e⟩)
        · rw [List.mem_singleton.mp hr] at e
          by_cases hq : q = []
          · exact .inl (.inl hq)
          · refine .inr ⟨q.length, List.length_pos_iff.mpr hq, ?_, e.symm⟩
            have := congrArg List.length e
            rw [List.length_take] at this
            have : min q.length ws.length = q.length := this
            omega
  · unfold putRow at hr
    rcases List.mem_append.mp hr with hr | hr
    · exact h.ok r (hf r hr).1
    · rw [List.mem_singleton.mp hr]; exact ⟨hw, h1, h3⟩
theorem Inv.nil : Inv [] [[]] [none] := by
  refine ⟨List.nodup_nil, fun ws => ?_, fun ws => ?_, fun r hr => nomatch hr⟩
  · unfold Mine.told
    by_cases h : ws = []
    · subst h; rfl
    · have : ([[]] : List (List Str)).findIdx? (fun x => x == ws) = none := by
        rw [List.findIdx?_eq_none_iff]
        intro x hx
        rw [List.mem_singleton.mp hx]
        simpa using fun e => h e
      rw [this]; rfl
  · simp
theorem find_of_filter (rows : List Row) (ws : List Str) : (rows.find? fun r => decide (r.1 = ws)) = (rows.filter fun r => decide (r.1 = ws)).head? := by
  rw [List.head?_filter]
theorem starts_iff {rows : List Row} {P : List (List Str)} {O : List (Option (Str × Str))} (h : Inv rows P O) {ws : List Str} (hne : ws ≠ []) : (rows.any fun r => decide (r.1.take ws.length = ws)) = decide (ws ∈ P) := by
  rw [Bool.eq_iff_iff, List.any_eq_true, decide_eq_true_iff, h.mem ws]
  constructor
  · rintro ⟨r, hr, e⟩
    exact .inr ⟨r, hr, of_decide_eq_true e⟩
  · rintro (e | ⟨r, hr, e⟩)
    · exact absurd e hne
    · exact ⟨r, hr, decide_eq_true e⟩
end Mine
end
section
open PySem PySem.W PySem.Calls PyProof.Rows
namespace Mine
set_option maxRecDepth 100000
/-! what the walk over the trie tells is the table, sorted by ranks -/
theorem kidsFrom_pw : ∀ (P : List (List Str)) (k : Nat) (p : List Str), (kidsFrom k P p).Pairwise (fun a b => a.2 < b.2) ∧ ∀ e ∈ kidsFrom k P p, k ≤ e.2
  | [], k, p => by simp [kidsFrom]
  | q :: P, k, p => by
    obtain ⟨h1, h2⟩ := kidsFrom_pw P (k + 1) p
    rw [kidsFrom]
    split
    · refine ⟨List.pairwise_cons.mpr ⟨fun e he => ?_, h1⟩, fun e he => ?_⟩
      · have := h2 e he
        show k < e.2; omega
      · rcases List.mem_cons.mp he with rfl | he
        · exact Nat.le_refl _
        · have := h2 e he; omega
    · exact ⟨h1, fun e he => by have := h2 e he; omega⟩
def keyG (P : List (List Str)) : List Str → List Str → List Int
  | _, [] => []
  | pre, x :: r => ((P.idxOf (pre ++ [x]) : Nat) : Int) :: keyG P (pre ++ [x]) r
theorem keyG_app (P : List (List Str)) : ∀ (a b pre : List Str), keyG P pre (a ++ b) = keyG P pre a ++ keyG P (pre ++ a) b
  | [], b, pre => by simp [keyG]
  | x :: a, b, pre => by
    rw [List.cons_append, keyG, keyG, keyG_app P a b (pre ++ [x]), List.cons_append]
    simp
def keyP (P : List (List Str)) (q : List Str) : List Int := (List.range q.length).map fun s => ((P.idxOf (q.take (s + 1)) : Nat) : Int)
theorem keyG_range (P : List (List Str)) : ∀ (q pre : List Str), keyG P pre q = (List.range q.length).map fun s => ((P.idxOf (pre ++ q.take (s + 1)) : Nat) : Int)
  | [], pre => by simp [keyG]
  | x :: q, pre => by
    rw [keyG, keyG_range P q (pre ++ [x]), List.length_cons, List.range_succ_eq_map, List.map_cons, List.map_map]
    congr 1
    refine List.map_congr_left fun s _ => ?_
    simp
theorem keyP_eq (P : List (List Str)) (q : List Str) : keyP P q = keyG P [] q := by
  rw [keyG_range]; simp [keyP]
theorem lex_app : ∀ (a xs ys : List Int), lexLt (a ++ xs) (a ++ ys) = lexLt xs ys
  | [], _, _ => rfl
  | x :: a, xs, ys => by rw [List.cons_append, List.cons_append, lex_cons, if_pos rfl, lex_app a xs ys]
theorem idx_at {P : List (List Str)} (hn : P.Nodup) {j : Nat} {p : List Str} (h : P[j]? = some p) : P.idxOf p = j := by
  obtain ⟨hj, e⟩ := List.getElem?_eq_some_iff.mp h
  have hm : p ∈ P := List.mem_of_getElem? h
  have h1 : P.idxOf p < P.length := List.idxOf_lt_length_of_mem hm
  have h2 : P[P.idxOf p]? = some p := by rw [List.getElem?_eq_getElem h1]; exact congrArg some (List.getElem_idxOf h1)
  exact (List.getElem?_inj h1 hn).mp (h2.trans h.symm)
theorem key_child (P : List (List Str)) (p r : List Str) (x : Str) : keyP P (p ++ x :: r) = keyP P p ++ ((P.idxOf (p ++ [x]) : Nat) : Int) :: keyG P (p ++ [x]) r := by
  rw [keyP_eq, keyP_eq, keyG_app, List.nil_append, keyG]
theorem dfs_keys {P : List (List Str)} {O : List (Option (Str × Str))} (hn : P.Nodup) (hl : ∀ q ∈ P, q.length ≤ 3) (hc : ∀ q ∈ P, ∀ k, q.take k ∈ P) : ∀ (fu j : Nat) (p : List Str), P[j]? = some p → p.length + fu = 3 →
    ∃ l : List (List Int × (Str × Str)), l.map (·.2) = dfs P O fu j ∧ l.Pairwise (fun a b => lexLt a.1 b.1 = true) ∧ ∀ e, e ∈ l ↔ ∃ q ∈ P, p <+: q ∧ told P O q = some e.2 ∧ e.1 = keyP P q := by
  intro fu
  induction fu with
  | zero =>
    intro j p hp h3
    refine ⟨(told P O p).toList.map fun xy => (keyP P p, xy), ?_, ?_, fun e => ?_⟩
    · rw [told_at hn hp, dfs]; cases (O[j]?).join <;> rfl
    · cases told P O p <;> simp
    · constructor
      · intro he
        obtain ⟨xy, hxy, rfl⟩ := List.mem_map.mp he
        exact ⟨p, List.mem_of_getElem? hp, List.prefix_rfl, by simpa using hxy, rfl⟩
      · rintro ⟨q, hq, hpq, ht, hk⟩
        have hql := hl q hq
        have : p = q := List.IsPrefix.eq_of_length hpq (by have := hpq.length_le; omega)
        subst this
        exact List.mem_map.mpr ⟨e.2, by rw [ht]; simp, by rw [← hk]⟩
  | succ fu ih =>
    intro j p hp h3
    have hget : P.getD j [] = p := by rw [List.getD_eq_getElem?_getD, hp]; rfl
    have hkid : ∀ e ∈ kids P p, ∃ l : List (List Int × (Str × Str)), l.map (·.2) = dfs P O fu e.2 ∧ l.Pairwise (fun a b => lexLt a.1 b.1 = true) ∧ ∀ d, d ∈ l ↔ ∃ q ∈ P, p ++ [e.1] <+: q ∧ told P O q = some d.2 ∧ d.1 = keyP P q := fun e he => by
      have hk := kids_mem (x := e.1) (j := e.2) he
      exact ih e.2 (p ++ [e.1]) hk (by simp; omega)
    have hfl : ∀ (ks : List (Str × Nat)), (∀ e ∈ ks, e ∈ kids P p) → ks.Pairwise (fun a b => a.2 < b.2) →
        ∃ l : List (List Int × (Str × Str)), l.map (·.2) = ks.flatMap (fun xk => dfs P O fu xk.2) ∧ l.Pairwise (fun a b => lexLt a.1 b.1 = true) ∧ ∀ d, d ∈ l ↔ ∃ e ∈ ks, ∃ q ∈ P, p ++ [e.1] <+: q ∧ told P O q = some d.2 ∧ d.1 = keyP P q := by
      intro ks
      induction ks with
      | nil => intro _ _; exact ⟨[], rfl, .nil, fun d => by simp⟩
      | cons e ks ih2 =>
        intro hm hpw
        obtain ⟨l1, a1, a2, a3⟩ := hkid e (hm e (.head _))
        rw [List.pairwise_cons] at hpw
        obtain ⟨l2, b1, b2, b3⟩ := ih2 (fun e he => hm e (.tail _ he)) hpw.2
        refine ⟨l1 ++ l2, by rw [List.map_append, a1, b1]; rfl, List.pairwise_append.mpr ⟨a2, b2, fun c hc d hd => ?_⟩, fun d => ?_⟩
        · obtain ⟨q, hq, ⟨r, rfl⟩, _, hck⟩ := (a3 c).mp hc
          obtain ⟨e', he', q', hq', ⟨r', rfl⟩, _, hdk⟩ := (b3 d).mp hd
          have h1 := hpw.1 e' he'
          have i1 := idx_at hn (kids_mem (x := e.1) (j := e.2) (hm e (.head _)))
          have i2 := idx_at hn (kids_mem (x := e'.1) (j := e'.2) (hm e' (.tail _ he')))
          rw [hck, hdk, List.append_assoc, List.append_assoc, List.singleton_append, List.singleton_append, key_child, key_child, lex_app, lex_cons, i1, i2, if_neg (by omega)]
          exact decide_eq_true (by omega)
        · rw [List.mem_append, a3, b3]
          constructor
          · rintro (h | ⟨e', he', h⟩)
            · exact ⟨e, .head _, h⟩
            · exact ⟨e', .tail _ he', h⟩
          · rintro ⟨e', he', h⟩
            rcases List.mem_cons.mp he' with rfl | he'
            · exact .inl h
            · exact .inr ⟨e', he', h⟩
    obtain ⟨l, c1, c2, c3⟩ := hfl (kids P p) (fun _ h => h) (kidsFrom_pw P 0 p).1
    refine ⟨((told P O p).toList.map fun xy => (keyP P p, xy)) ++ l, ?_, List.pairwise_append.mpr ⟨?_, c2, fun c hc d hd => ?_⟩, fun e => ?_⟩
    · rw [List.map_append, c1, told_at hn hp, dfs, hget]
      congr 1
      cases (O[j]?).join <;> rfl
    · cases told P O p <;> simp
    · obtain ⟨xy, _, rfl⟩ := List.mem_map.mp hc
      obtain ⟨e', he', q', hq', ⟨r', rfl⟩, _, hdk⟩ := (c3 d).mp hd
      rw [hdk, List.append_assoc, List.singleton_append, key_child]
      have := lex_app (keyP P p) [] (((P.idxOf (p ++ [e'.1]) : Nat) : Int) :: keyG P (p ++ [e'.1]) r')
      rw [List.append_nil] at this
      exact this
    · rw [List.mem_append, c3]
      constructor
      · rintro (h | ⟨e', he', q, hq, hpq, h1, h2⟩)
        · obtain ⟨xy, hxy, rfl⟩ := List.mem_map.mp h
          exact ⟨p, List.mem_of_getElem? hp, List.prefix_rfl, by simpa using hxy, rfl⟩
        · exact ⟨q, hq, (List.prefix_append p [e'.1]).trans hpq, h1, h2⟩
      · rintro ⟨q, hq, ⟨r, rfl⟩, ht, hk⟩
        cases r with
        | nil =>
          rw [List.append_nil] at *
          exact .inl (List.mem_map.mpr ⟨e.2, by rw [ht]; simp, by rw [← hk]⟩)
        | cons x r =>
          have hx : p ++ [x] ∈ P := by
            have := hc _ hq (p.length + 1)
            rwa [List.take_append, List.take_of_length_le (by omega), show p.length + 1 - p.length = 1 by omega, List.take_succ_cons, List.take_zero] at this
          obtain ⟨k, hk'⟩ := List.mem_iff_getElem?.mp hx
          exact .inr ⟨(x, k), kids_of hk', _, hq, ⟨r, by simp⟩, ht, hk⟩
theorem eq_of_pw {α : Type} {lt : α → α → Prop} (irr : ∀ a, ¬ lt a a) (tr : ∀ a b c, lt a b → lt b c → lt a c) : ∀ {l m : List α}, l.Pairwise lt → m.Pairwise lt → (∀ e, e ∈ l ↔ e ∈ m) → l = m
  | [], [], _, _, _ => rfl
  | [], b :: m, _, _, h => by have := (h b).mpr (.head _); cases this
  | a :: l, [], _, _, h => by have := (h a).mp (.head _); cases this
  | a :: l, b :: m, hl, hm, h => by
    rw [List.pairwise_cons] at hl hm
    have hab : a = b := by
      rcases List.mem_cons.mp ((h a).mp (.head _)) with e | e
      · exact e
      · rcases List.mem_cons.mp ((h b).mpr (.head _)) with e' | e'
        · exact e'.symm
        · exact absurd (tr _ _ _ (hm.1 a e) (hl.1 b e')) (irr b)
    subst hab
    have : l = m := eq_of_pw irr tr hl.2 hm.2 fun e => by
      constructor
      · intro he
        rcases List.mem_cons.mp ((h e).mp (.tail _ he)) with rfl | q
        · exact absurd (hl.1 _ he) (irr _)
        · exact q
      · intro he
        rcases List.mem_cons.mp ((h e).mpr (.tail _ he)) with rfl | q
        · exact absurd (hm.1 _ he) (irr _)
        · exact q
    rw [this]
def wrow (P : List (List Str)) (r : Row) : WRow := (keyP P r.1, r.2.1, r.2.2)
theorem dfs_sorted {rows : List Row} {P : List (List Str)} {O : List (Option (Str × Str))} (hI : Inv rows P O) (hn : P.Nodup) (h0 : P[0]? = some []) {srt : List WRow} (hs : srt.Pairwise fun a b => lexLt a.1 b.1 = true) (hm : ∀ e, e ∈ srt ↔ e ∈ rows.map (wrow P)) :
    dfs P O 3 0 = srt.map fun e => (e.2.1, e.2.2) := by
  have hl : ∀ q ∈ P, q.length ≤ 3 := fun q hq => by
    rcases (hI.mem q).mp hq with rfl | ⟨r, hr, e⟩
    · simp
    · rw [← e, List.length_take]
      have := (hI.ok r hr).2.2; omega
  have hc : ∀ q ∈ P, ∀ k, q.take k ∈ P := fun q hq k => by
    rcases (hI.mem q).mp hq with rfl | ⟨r, hr, e⟩
    · simpa using hq
    · refine (hI.mem _).mpr (.inr ⟨r, hr, ?_⟩)
      rw [← e, List.take_take]
      congr 1
      simp only [List.length_take]
      have : q.length = (r.1.take q.length).length := by rw [e]
      rw [List.length_take] at this
      omega
  obtain ⟨l, h1, h2, h3⟩ := dfs_keys (O := O) hn hl hc 3 0 [] h0 rfl
  have ht : ∀ q xy, told P O q = some xy ↔ (q, xy) ∈ rows := fun q xy => by
    rw [hI.told]
    constructor
    · intro h
      obtain ⟨r, hr, e⟩ := Option.map_eq_some_iff.mp h
      have h1 := List.find?_some hr
      have h2 := List.mem_of_find?_eq_some hr
      have h1' : r.1 = q := by simpa using h1
      rw [← h1', ← e]; exact h2
    · intro h
      obtain ⟨r, hr⟩ : ∃ r, rows.find? (fun r => decide (r.1 = q)) = some r := by
        cases hf : rows.find? (fun r => decide (r.1 = q)) with
        | some r => exact ⟨r, rfl⟩
        | none => have := List.find?_eq_none.mp hf _ h; simp at this
      rw [hr]
      have h1 : r.1 = q := by simpa using List.find?_some hr
      have h2 := List.mem_of_find?_eq_some hr
      obtain ⟨i, hi⟩ := List.mem_iff_getElem?.mp h
      obtain ⟨j, hj⟩ := List.mem_iff_getElem?.mp h2
      have hi' : (rows.map (·.1))[i]? = some q := by rw [List.getElem?_map, hi]; rfl
      have hj' : (rows.map (·.1))[j]? = some q := by rw [List.getElem?_map, hj, ← h1]; rfl
      have : i = j := (List.getElem?_inj (List.getElem?_eq_some_iff.mp hi').1 hI.nodup).mp (hi'.trans hj'.symm)
      rw [this, hj] at hi
      rw [Option.some.inj hi]; rfl
  have heq : l = srt := by
    refine eq_of_pw (lt := fun a b : List Int × (Str × Str) => lexLt a.1 b.1 = true) (fun a h => by rw [lex_irrefl] at h; cases h) (fun a b c => lex_trans) h2 hs fun e => ?_
    rw [h3, hm, List.mem_map]
    constructor
    · rintro ⟨q, hq, _, h4, h5⟩
      refine ⟨(q, e.2), (ht q e.2).mp h4, ?_⟩
      show (keyP P q, e.2.1, e.2.2) = e
      rw [← h5]
    · rintro ⟨r, hr, rfl⟩
      have h4 := (ht r.1 r.2).mpr hr
      have hq : r.1 ∈ P := by
        cases Decidable.em (r.1 ∈ P) with
        | inl h => exact h
        | inr h => rw [told_off h] at h4; cases h4
      exact ⟨r.1, hq, List.nil_prefix, h4, rfl⟩
  rw [← h1, heq]
end Mine
end
section
theorem Mine.switch_S12 : True := by
  w_top off
  trivial
open Lean Elab Tactic Meta PySem PySem.W PySem.Calls PyProof.Rows
set_option pp.deepTerms false
set_option pp.maxSteps 800
set_option pp.deepTerms.threshold 5
namespace Mine
local macro_rules | `(tactic| walk_at "exec For Name Name cons nil") => `(tactic| (refine Mine.Stop.on ?_))
local macro_rules | `(tactic| walk_at "exec For Name Call cons nil") => `(tactic| (refine Mine.Stop.on ?_))
local macro_rules | `(tactic| walk_at "exec Assign cons ListComp") => `(tactic| (refine Mine.Stop.on ?_))
local macro_rules | `(tactic| walk_at "LeaveC") => `(tactic| fail "here")
local macro_rules | `(tactic| k_room) => `(tactic| first | ktr_room | ((simp only [Mine.mark_depth, depth_under_make, depth_under_kw, depth_in1, depth_deeper, depth_caller]); (try dsimp only [ktrTop]); (try simp only [recursionLimit] at *); omega))
local macro_rules | `(tactic| k_all) => `(tactic| first | assumption | exact Mine.offLt (by assumption) | exact Mine.offLt2 (by assumption) (by assumption) | (refine List.forall_mem_append.mpr ⟨?a, ?b⟩; (case a => k_all); (case b => k_all)))
local macro_rules | `(tactic| walk_at "setItem ref str") => `(tactic| (k_here; k_dflt (refine' kda_setB (knd := PySem.strKind _ _) ?F ?N ?hm ?d (strKind_is _ _ _ _) ?z ?_; (case F => k_asm); (case N => k_asm); (case hm => k_mem); (case d => k_asm); (case z => k_asm)); intro h' o' F' N' hd'))
local macro_rules | `(tactic| walk_at "compareOp Is str ref") => `(tactic| (k_here; refine wpAny_is_other (by rfl) (by intro x; cases x) ?_))
local macro_rules | `(tactic| k_mem) => `(tactic| assumption)
local macro_rules | `(tactic| walk_at "eval Name") => `(tactic| (k_here; (with_reducible show wpAny _ _ (eval (Expr.Name _ _) (envOf _ _ _ _ _)) _ _ _); k_dflt (refine' ld ?k1 ?k2 ?_; (case k1 => k_asm); (case k2 => first | exact rfl | assumption); k_whole)))
local macro_rules | `(tactic| walk_at "eval Name") => `(tactic| (k_here; (with_reducible show wpAny _ _ (eval (Expr.Name _ _) (envOfC _ _ _ _ _)) _ _ _); k_dflt (refine' nameX_L ?F ?v ?_ ?a ?b; (case F => k_asm); (case a => rfl); (case b => rfl); (case v => first | rfl | assumption); k_whole)))
local macro_rules | `(tactic| walk_at "call builtin:len") => `(tactic| (k_here; (with_reducible show wpAny _ _ (call (Value.builtin "len") [Value.ref _]) _ _ _); k_dflt (first | refine len_L (by k_asm) (by k_mem) (by omega) ?_ | refine len_T (by k_asm) (by k_mem) (by omega) ?_)))
local macro_rules | `(tactic| walk_at "subscriptTail") => `(tactic| (k_here; (with_reducible show wpAny _ _ (subscriptTail _ (PySem.Expr.Slice _ _ _ _) (Value.ref _) (Value.ref _)) _ _ _); refine Mine.Stop.on ?_))
local macro_rules | `(tactic| walk_at "compareOp Eq ref ref") => `(tactic| (refine Mine.Stop.on ?_))
local macro_rules | `(tactic| walk_at "compareOp NotEq ref ref") => `(tactic| (refine Mine.Stop.on ?_))
local macro_rules | `(tactic| walk_at "call type:list") => `(tactic| (k_here; k_dflt (refine list_of_tuple (by k_asm) (by k_asm) (by k_mem) (by omega) ?_); intro D' c' h' F' N' l1; (try k_sweep)))
local macro_rules | `(tactic| walk_at "call ref") => `(tactic| ((with_reducible show wpAny _ _ (call (Value.ref 294) _) _ _ _); refine Mine.Stop.on ?_))
local macro_rules | `(tactic| walk_at "call ref") => `(tactic| ((with_reducible show wpAny _ _ (call (Value.ref 299) _) _ _ _); refine Mine.Stop.on ?_))
local macro_rules | `(tactic| walk_at "call ref") => `(tactic| ((with_reducible show wpAny _ _ (call (Value.ref 306) _) _ _ _); refine Mine.Stop.on ?_))
local macro_rules | `(tactic| walk_at "call ref") => `(tactic| ((with_reducible show wpAny _ _ (call (Value.ref 313) _) _ _ _); refine Mine.Stop.on ?_))
local macro_rules | `(tactic| walk_at "call ref") => `(tactic| ((with_reducible show wpAny _ _ (call (Value.ref 97) _) _ _ _); refine Mine.Stop.on ?_))
local macro_rules | `(tactic| walk_at "call ref") => `(tactic| ((with_reducible show wpAny _ _ (call (Value.ref 138) _) _ _ _); refine Mine.Stop.on ?_))
local macro_rules | `(tactic| walk_at "call ref") => `(tactic| ((with_reducible show wpAny _ _ (call (Value.ref 145) _) _ _ _); refine Mine.Stop.on ?_))
local macro_rules | `(tactic| walk_at "call ref") => `(tactic| ((with_reducible show wpAny _ _ (call (Value.ref 110) _) _ _ _); refine Mine.Stop.on ?_))
local macro_rules | `(tactic| walk_at "call ref") => `(tactic| ((with_reducible show wpAny _ _ (call (Value.ref 131) _) _ _ _); refine Mine.Stop.on ?_))
local macro_rules | `(tactic| walk_at "call ref") => `(tactic| ((with_reducible show wpAny _ _ (call (Value.ref 117) _) _ _ _); refine Mine.Stop.on ?_))
local macro_rules | `(tactic| walk_at "call ref") => `(tactic| ((with_reducible show wpAny _ _ (call (Value.ref 124) _) _ _ _); refine Mine.Stop.on ?_))
local macro_rules | `(tactic| walk_at "exec For") => `(tactic| (refine Mine.Stop.on ?_))
local macro_rules | `(tactic| walk_at "call type:tuple") => `(tactic| (refine Mine.Stop.on ?_))
local macro_rules | `(tactic| walk_at "compareOp NotIn ref ref") => `(tactic| (refine Mine.Stop.on ?_))
local macro_rules | `(tactic| walk_at "call builtin:list.append") => `(tactic| (refine Mine.Stop.on ?_))
/-! the law's text, by its place in the program -/
def bodyOf : Stmt → List Stmt
  | .FunctionDef _ _ b .. => b
  | .For _ _ b .. => b
  | _ => []
def scopeOf : Stmt → Scope
  | .FunctionDef _ _ _ _ _ _ sc .. => sc
  | _ => default
def passS : Stmt := .Pass ⟨0, 0, 0, 0⟩
def lawStmt : Stmt := PySem.Challenge.pw_ew0015_01.main.body.getD 16 passS
def lawBody : List Stmt := bodyOf lawStmt
def turnBody : List Stmt := bodyOf (lawBody.getD 1 passS)
def lawScope : Scope := scopeOf lawStmt
abbrev lawEnv (L fa : Addr) (cd : Value) : Env := envOfC "law" lawScope L fa cd
structure LS (prog : Program) (w : World) (L : Addr) (H : TrieHd) (nd : List Nd) (P : List (List Str)) (O : List (Option (Str × Str))) (ks : List Str) (rest : List (Addr × Obj)) (rk : Addr) (rv : List Value) (rn : Nat) (R : List (List Str)) (tb : Addr) (tv : List Value) (tn : Nat) (rows : List Row) : Prop where
  trie : TrieS prog w 44 171 71 H nd P O ks rest
  cR : CellIs rest (L + 1) (some (.ref rk))
  cW : ∃ v, CellIs rest (L + 1 + 1) v
  cK : ∃ v, CellIs rest (L + 1 + 1 + 1) v
  cS : ∃ v, CellIs rest (L + 1 + 1 + 1 + 1) v
  t1 : (226, tabObj #[]) ∈ rest
  t2 : (126, tabObj #[]) ∈ rest
  t3 : (119, tabObj #[]) ∈ rest
  t4 : (112, tabObj #[]) ∈ rest
  hTb : (tb, listOf tv.toArray tn) ∈ rest
  hRows : RowsIn rest tv rows
  hRk : (rk, listOf rv.toArray rn) ∈ rest
  hRanks : PathsIn rest rv R
abbrev LedOf (w : World) (H : TrieHd) (nd : List Nd) (rest : List (Addr × Obj)) : List (Addr × Obj) := hdObjs w.params 171 false H (adOf nd 0) ++ (objsOf 71 nd ++ rest)
section
variable {prog : Program} {w : World} {base : Heap} {L fa : Addr} {cd : Value} {m : Str → Option Value} {s : Shared} {Q : Flow → Shared → Prop} {E : Value → Shared → Prop} {H : TrieHd} {nd : List Nd} {P : List (List Str)} {O : List (Option (Str × Str))} {ks : List Str} {rest : List (Addr × Obj)} {rk : Addr} {rv : List Value} {rn : Nat} {R : List (List Str)} {tb : Addr} {tv : List Value} {tn : Nat} {rows : List Row}
theorem LS.rest_apart (h : LS prog w L H nd P O ks rest rk rv rn R tb tv tn rows) : Apart rest := (apart3.mp h.trie.apart).2.2.1
/-- more lies in the rest -/
theorem LS.more {rest' : List (Addr × Obj)} (h : LS prog w L H nd P O ks rest rk rv rn R tb tv tn rows) (k : ∀ p ∈ rest, p ∈ rest') (hap : Apart (LedOf w H nd rest')) : LS prog w L H nd P O ks rest' rk rv rn R tb tv tn rows := by
  obtain ⟨oR, hR, eR⟩ := h.cR
  obtain ⟨vW, oW, hW, eW⟩ := h.cW
  obtain ⟨vK, oK, hK, eK⟩ := h.cK
  obtain ⟨vS, oS, hS, eS⟩ := h.cS
  exact ⟨h.trie.keep (fun p hp _ => k p hp) hap, ⟨oR, k _ hR, eR⟩, ⟨vW, oW, k _ hW, eW⟩, ⟨vK, oK, k _ hK, eK⟩, ⟨vS, oS, k _ hS, eS⟩, k _ h.t1, k _ h.t2, k _ h.t3, k _ h.t4, k _ h.hTb, rows_keep (fun p hp _ => k p hp) h.hRows, k _ h.hRk, paths_mono (fun p hp _ => k p hp) h.hRanks⟩
/-- a cell but the ranks' has turned -/
theorem LS.store {c : Addr} {o o' : Obj} {v v' : Option Value} (h : LS prog w L H nd P O ks rest rk rv rn R tb tv tn rows) (hc : (c, o) ∈ rest) (hod : o.data = .cell v) (ho' : o'.data = .cell v') (hcc : c ≠ L + 1) : LS prog w L H nd P O ks ((c, o') :: but c rest) rk rv rn R tb tv tn rows := by
  have hap := h.rest_apart
  have keep : ∀ p ∈ rest, p.2 ≠ o → p ∈ (c, o') :: but c rest := fun p hp hn => mem_put hp fun e => hn (congrArg Prod.snd (apart_eq hap hp hc e))
  have keepT : ∀ p ∈ rest, (∃ vs, p.2 = tupO vs) → p ∈ (c, o') :: but c rest := fun p hp ⟨vs, ht⟩ => keep p hp fun e => cell_not_tuple hod vs (by rw [← e, ht])
  have keepC : ∀ {d : Addr} {z : Option Value}, CellIs rest d z → d ≠ c → CellIs ((c, o') :: but c rest) d z := fun {d z} ⟨x, hx, ex⟩ hd => ⟨x, mem_put hx hd, ex⟩
  have keepC2 : ∀ {d : Addr}, (∃ z, CellIs rest d z) → ∃ z, CellIs ((c, o') :: but c rest) d z := fun {d} ⟨z, hz⟩ => by
    by_cases hd : d = c
    · exact ⟨v', o', hd ▸ .head _, ho'⟩
    · exact ⟨z, keepC hz hd⟩
  exact ⟨h.trie.keep keepT (apart_put h.trie.apart hc), keepC h.cR hcc.symm, keepC2 h.cW, keepC2 h.cK, keepC2 h.cS, keep _ h.t1 (cell_not_tab hod _).symm, keep _ h.t2 (cell_not_tab hod _).symm, keep _ h.t3 (cell_not_tab hod _).symm, keep _ h.t4 (cell_not_tab hod _).symm,
    keep _ h.hTb (cell_not_list hod _ _).symm, rows_keep keepT h.hRows, keep _ h.hRk (cell_not_list hod _ _).symm, paths_mono keepT h.hRanks⟩
/-- the ranks' list has grown by a row of words -/
theorem LS.ranks {a : Addr} {wv : List Value} {p : List Str} {rn' : Nat} (h : LS prog w L H nd P O ks rest rk rv rn R tb tv tn rows) (ha : (a, tupO wv) ∈ rest) (hp : StrsAre wv p) (hne : tb ≠ rk) :
    LS prog w L H nd P O ks ((rk, listOf (rv ++ [Value.ref a]).toArray rn') :: but rk rest) rk (rv ++ [Value.ref a]) rn' (R ++ [p]) tb tv tn rows := by
  have hap := h.rest_apart
  have keep : ∀ p ∈ rest, p.2 ≠ listOf rv.toArray rn → p ∈ (rk, listOf (rv ++ [Value.ref a]).toArray rn') :: but rk rest := fun p hp hn => mem_put hp fun e => hn (congrArg Prod.snd (apart_eq hap hp h.hRk e))
  have keepT : ∀ p ∈ rest, (∃ vs, p.2 = tupO vs) → p ∈ (rk, listOf (rv ++ [Value.ref a]).toArray rn') :: but rk rest := fun p hp ⟨vs, ht⟩ => keep p hp fun e => by
    rw [ht] at e
    have := congrArg Obj.cls e
    injection this with this; exact absurd this (by decide)
  have keepC : ∀ {d : Addr} {z : Option Value}, CellIs rest d z → CellIs ((rk, listOf (rv ++ [Value.ref a]).toArray rn') :: but rk rest) d z := fun {d z} ⟨x, hx, ex⟩ => ⟨x, keep _ hx (cell_not_list ex _ _), ex⟩
  have keepP : ∀ {d : Addr} {ps : Array Value}, (d, tabObj ps) ∈ rest → (d, tabObj ps) ∈ (rk, listOf (rv ++ [Value.ref a]).toArray rn') :: but rk rest := fun {d ps} hd => keep _ hd fun e => by
    have := congrArg Obj.cls e
    cases this
  exact ⟨h.trie.keep keepT (apart_put h.trie.apart h.hRk), keepC h.cR, let ⟨_, x⟩ := h.cW; ⟨_, keepC x⟩, let ⟨_, x⟩ := h.cK; ⟨_, keepC x⟩, let ⟨_, x⟩ := h.cS; ⟨_, keepC x⟩, keepP h.t1, keepP h.t2, keepP h.t3, keepP h.t4,
    mem_put h.hTb hne, rows_keep keepT h.hRows, .head _, paths_app (paths_mono keepT h.hRanks) (.cons (keepT _ ha ⟨_, rfl⟩) hp .nil)⟩
end
end Mine
end
section
local macro_rules | `(tactic| walk_at "none such") => `(tactic| fail "none such")
theorem Mine.switch_S13 : True := by
  w_top off
  trivial
open Lean Elab Tactic Meta PySem PySem.W PySem.Calls PyProof.Rows
set_option pp.deepTerms false
set_option pp.maxSteps 800
set_option pp.deepTerms.threshold 5
namespace Mine
local macro_rules | `(tactic| walk_at "exec For Name Name cons nil") => `(tactic| (refine Mine.Stop.on ?_))
local macro_rules | `(tactic| walk_at "exec For Name Call cons nil") => `(tactic| (refine Mine.Stop.on ?_))
local macro_rules | `(tactic| walk_at "exec Assign cons ListComp") => `(tactic| (refine Mine.Stop.on ?_))
local macro_rules | `(tactic| walk_at "LeaveC") => `(tactic| fail "here")
local macro_rules | `(tactic| k_room) => `(tactic| first | ktr_room | ((simp only [Mine.mark_depth, depth_under_make, depth_under_kw, depth_in1, depth_deeper, depth_caller]); (try dsimp only [ktrTop]); (try simp only [recursionLimit] at *); omega))
local macro_rules | `(tactic| k_all) => `(tactic| first | assumption | exact Mine.offLt (by assumption) | exact Mine.offLt2 (by assumption) (by assumption) | (refine List.forall_mem_append.mpr ⟨?a, ?b⟩; (case a => k_all); (case b => k_all)))
local macro_rules | `(tactic| walk_at "setItem ref str") => `(tactic| (k_here; k_dflt (refine' kda_setB (knd := PySem.strKind _ _) ?F ?N ?hm ?d (strKind_is _ _ _ _) ?z ?_; (case F => k_asm); (case N => k_asm); (case hm => k_mem); (case d => k_asm); (case z => k_asm)); intro h' o' F' N' hd'))
local macro_rules | `(tactic| walk_at "compareOp Is str ref") => `(tactic| (k_here; refine wpAny_is_other (by rfl) (by intro x; cases x) ?_))
local macro_rules | `(tactic| k_mem) => `(tactic| assumption)
local macro_rules | `(tactic| walk_at "eval Name") => `(tactic| (k_here; (with_reducible show wpAny _ _ (eval (Expr.Name _ _) (envOf _ _ _ _ _)) _ _ _); k_dflt (refine' ld ?k1 ?k2 ?_; (case k1 => k_asm); (case k2 => first | exact rfl | assumption); k_whole)))
local macro_rules | `(tactic| walk_at "eval Name") => `(tactic| (k_here; (with_reducible show wpAny _ _ (eval (Expr.Name _ _) (envOfC _ _ _ _ _)) _ _ _); k_dflt (refine' nameX_L ?F ?v ?_ ?a ?b; (case F => k_asm); (case a => rfl); (case b => rfl); (case v => first | rfl | assumption); k_whole)))
local macro_rules | `(tactic| walk_at "call builtin:len") => `(tactic| (k_here; (with_reducible show wpAny _ _ (call (Value.builtin "len") [Value.ref _]) _ _ _); k_dflt (first | refine len_L (by k_asm) (by k_mem) (by omega) ?_ | refine len_T (by k_asm) (by k_mem) (by omega) ?_)))
local macro_rules | `(tactic| walk_at "subscriptTail") => `(tactic| (k_here; (with_reducible show wpAny _ _ (subscriptTail _ (PySem.Expr.Slice _ _ _ _) (Value.ref _) (Value.ref _)) _ _ _); refine Mine.Stop.on ?_))
local macro_rules | `(tactic| walk_at "compareOp Eq ref ref") => `(tactic| (refine Mine.Stop.on ?_))
local macro_rules | `(tactic| walk_at "compareOp NotEq ref ref") => `(tactic| (refine Mine.Stop.on ?_))
local macro_rules | `(tactic| walk_at "call type:list") => `(tactic| (k_here; k_dflt (refine list_of_tuple (by k_asm) (by k_asm) (by k_mem) (by omega) ?_); intro D' c' h' F' N' l1; (try k_sweep)))
local macro_rules | `(tactic| walk_at "call ref") => `(tactic| ((with_reducible show wpAny _ _ (call (Value.ref 294) _) _ _ _); refine Mine.Stop.on ?_))
local macro_rules | `(tactic| walk_at "call ref") => `(tactic| ((with_reducible show wpAny _ _ (call (Value.ref 299) _) _ _ _); refine Mine.Stop.on ?_))
local macro_rules | `(tactic| walk_at "call ref") => `(tactic| ((with_reducible show wpAny _ _ (call (Value.ref 306) _) _ _ _); refine Mine.Stop.on ?_))
local macro_rules | `(tactic| walk_at "call ref") => `(tactic| ((with_reducible show wpAny _ _ (call (Value.ref 313) _) _ _ _); refine Mine.Stop.on ?_))
local macro_rules | `(tactic| walk_at "call ref") => `(tactic| ((with_reducible show wpAny _ _ (call (Value.ref 97) _) _ _ _); refine Mine.Stop.on ?_))
local macro_rules | `(tactic| walk_at "call ref") => `(tactic| ((with_reducible show wpAny _ _ (call (Value.ref 138) _) _ _ _); refine Mine.Stop.on ?_))
local macro_rules | `(tactic| walk_at "call ref") => `(tactic| ((with_reducible show wpAny _ _ (call (Value.ref 145) _) _ _ _); refine Mine.Stop.on ?_))
local macro_rules | `(tactic| walk_at "call ref") => `(tactic| ((with_reducible show wpAny _ _ (call (Value.ref 110) _) _ _ _); refine Mine.Stop.on ?_))
local macro_rules | `(tactic| walk_at "call ref") => `(tactic| ((with_reducible show wpAny _ _ (call (Value.ref 131) _) _ _ _); refine Mine.Stop.on ?_))
local macro_rules | `(tactic| walk_at "call ref") => `(tactic| ((with_reducible show wpAny _ _ (call (Value.ref 117) _) _ _ _); refine Mine.Stop.on ?_))
local macro_rules | `(tactic| walk_at "call ref") => `(tactic| ((with_reducible show wpAny _ _ (call (Value.ref 124) _) _ _ _); refine Mine.Stop.on ?_))
local macro_rules | `(tactic| walk_at "exec For") => `(tactic| (refine Mine.Stop.on ?_))
local macro_rules | `(tactic| walk_at "call type:tuple") => `(tactic| (refine Mine.Stop.on ?_))
local macro_rules | `(tactic| walk_at "compareOp NotIn ref ref") => `(tactic| (refine Mine.Stop.on ?_))
local macro_rules | `(tactic| walk_at "call builtin:list.append") => `(tactic| (refine Mine.Stop.on ?_))
def encP (p : List Str) : PyData := .tuple (p.map PyData.str)
theorem encP_inj {p q : List Str} (h : encP p = encP q) : p = q := by
  have h := PyData.tuple.inj h
  exact (List.map_inj_right (fun a b hab => by injection hab)).mp h
theorem encP_mem {p : List Str} {R : List (List Str)} : encP p ∈ R.map encP ↔ p ∈ R := by
  rw [List.mem_map]
  constructor
  · rintro ⟨q, hq, e⟩
    exact encP_inj e ▸ hq
  · intro h
    exact ⟨p, h, rfl⟩
theorem encP_plain {p : List Str} (h : StrsOk p) : plainD (encP p) = true := by unfold encP; rw [plainD]; exact plainAll_strs h
theorem encP_depth (p : List Str) : PyData.depth (encP p) ≤ 1 := by
  unfold encP
  rw [PyData.depth]
  have := strs_depth p
  omega
theorem addStep_at {ws : List Str} {R : List (List Str)} {i : Nat} {x : Str} (h : ws[i]? = some x) : ((ws.take (i + 1)).foldl addStep (R, [])).1 = if ws.take (i + 1) ∈ ((ws.take i).foldl addStep (R, [])).1 then ((ws.take i).foldl addStep (R, [])).1 else ((ws.take i).foldl addStep (R, [])).1 ++ [ws.take (i + 1)] := by
  have e : ws.take (i + 1) = ws.take i ++ [x] := by rw [List.take_add_one, h]; rfl
  have e2 : ((ws.take i).foldl addStep (R, [])).2 = ws.take i := by rw [addFold_snd]; rfl
  rw [e, List.foldl_append]
  show (if ((ws.take i).foldl addStep (R, [])).2 ++ [x] ∈ ((ws.take i).foldl addStep (R, [])).1 then ((ws.take i).foldl addStep (R, [])).1 else ((ws.take i).foldl addStep (R, [])).1 ++ [((ws.take i).foldl addStep (R, [])).2 ++ [x]]) = _
  rw [e2]
section
variable {prog : Program} {w : World} {base : Heap} {L fa : Addr} {cd : Value} {m : Str → Option Value} {s : Shared} {Q : Flow → Shared → Prop} {E : Value → Shared → Prop} {H : TrieHd} {nd : List Nd} {P : List (List Str)} {O : List (Option (Str × Str))} {ks : List Str} {rest : List (Addr × Obj)} {rk : Addr} {rv : List Value} {rn : Nat} {R : List (List Str)} {tb : Addr} {tv : List Value} {tn : Nat} {rows : List Row}
set_option maxRecDepth 100000
set_option maxHeartbeats 4000000
theorem ranks_spec {lw : Addr} {lv : List Value} {ln : Nat} {ws : List Str} (C : Cx (Mine.hd.heap_39 w.params) lawScope [] base base L s.heap m (LedOf w H nd rest)) (hLS : LS prog w L H nd P O ks rest rk rv rn R tb tv tn rows)
   (hlw : (lw, listOf lv.toArray ln) ∈ rest) (hlv : StrsAre lv ws) (hcw : CellIs rest (L + 1 + 1) (some (.ref lw))) (hws : OkWs ws) (hwl : ws.length ≤ 3) (hRl : R.length ≤ 100) (hRok : ∀ p ∈ R, StrsOk p) (hne : tb ≠ rk) (hlk : lw ≠ rk)
   (hE : PassesOwn (model prog w) (callerA.deeper (lawEnv L fa cd)) (lawEnv L fa cd) E)
   (hQ : ∀ h' tk' m' rest' rv' rn', Cx (Mine.hd.heap_39 w.params) lawScope [] base base L h' m' (LedOf w H nd rest') → LS prog w L H nd P O ks rest' rk rv' rn' (ws.foldl addStep (R, [])).1 tb tv tn rows → (∀ p ∈ rest, p.1 ≠ rk → p ∈ rest') → (∀ x : Str, x ≠ "size" → m' x = m x) → Q .next { s with heap := h', toks := tk' }) :
   wpAny (model prog w) (callerA.deeper (lawEnv L fa cd)) (exec (turnBody.getD 4 passS) (lawEnv L fa cd)) Q E s := by
  with_unfolding_all show wpAny _ (callerA.deeper (envOfC _ ⟨_, _, _, _, _⟩ _ _ _)) (exec (Stmt.For _ _ _ _ _) (envOfC _ ⟨_, _, _, _, _⟩ _ _ _)) _ _ _
  obtain ⟨⟨A1, B1⟩, F1, XB1, N1, ⟨p1, loose1, mean1, mg1, mb1, TB1⟩, D1, hk1⟩ := id C
  have X1 := XB1.keeps B1.stays
  have T1 := TB1.keeps B1.stays
  obtain ⟨oW, hW, eW⟩ := hcw
  have hW1 : (L + 1 + 1, oW) ∈ LedOf w H nd rest := List.mem_append_right _ (List.mem_append_right _ hW)
  have hlw1 : (lw, listOf lv.toArray ln) ∈ LedOf w H nd rest := List.mem_append_right _ (List.mem_append_right _ hlw)
  have hlen := strs_len hlv
  have hz1 : lv.length ≤ 1000 := by omega
  generalize hled : LedOf w H nd rest = led at *
  refine For_A L base ?_ (by intro _; rfl) hE
  k_steps
  have hb : ((lv.length : Int) + 1) = 1 + ((lv.length : Nat) : Int) := by omega
  rename IsRange _ _ _ _ _ _ _ _ => hRg
  rw [hb] at hRg
  obtain ⟨hr1, hr2⟩ := range_facts (a := 1) (n := lv.length) (.inr rfl) (by omega)
  rename Fr _ _ _ _ => F3
  rename News _ _ _ _ => N3
  refine iter_rangeA (fun i m' nx => (∀ x : Str, x ≠ "size" → m' x = m x) ∧ ∃ rest' rv' rn', nx = LedOf w H nd rest' ∧ LS prog w L H nd P O ks rest' rk rv' rn' ((ws.take i).foldl addStep (R, [])).1 tb tv tn rows ∧ ∀ p ∈ rest, p.1 ≠ rk → p ∈ rest') (by rfl) (fun _ _ => rfl) hRg hr1 hr2 F3 N3 ⟨fun _ _ => rfl, rest, rv, rn, hled.symm, hLS, fun p hp _ => hp⟩ ?_ ?_
  · clear F3 N3 C hRg
    rintro i u m₁ nx I own h tk hi ⟨hm, rest', rv', rn', rfl, hLS', hkeep⟩ hown hoff ⟨oI, hoI⟩ F₁ N₁
    have e1 : (1 + (i : Int)) = ((i + 1 : Nat) : Int) := by omega
    rw [e1]
    have hrk := hLS'.hRk
    obtain ⟨oR, hR', eR⟩ := hLS'.cR
    have hq : ∀ q ∈ rest', q ∈ LedOf w H nd rest' ++ own := fun q hq => List.mem_append_left _ (List.mem_append_right _ (List.mem_append_right _ hq))
    have hrk9 := hq _ hrk
    have hR9 := hq _ hR'
    have hWrk : L + 1 + 1 ≠ rk := apart_ne2 hLS.rest_apart hW hLS.hRk (cell_not_list eW _ _)
    have hW9 := hq _ (hkeep _ hW hWrk)
    have hlw9 := hq _ (hkeep _ hlw hlk)
    generalize hled9 : LedOf w H nd rest' ++ own = led9 at *
    k_steps
    refine Stop.off ?_
    rename News _ _ _ _ => N4
    rename Fr _ _ _ _ => F4
    k_dflt (refine slice_list_upto (b := i + 1) F4 N4 hlw9 (by omega) ?_)
    intro D1 h5 F5 N5 hD1
    clear F4 N4
    k_steps
    refine Stop.off ?_
    k_dflt (refine kde_tupleOf F5 N5 (PySem.IsL.isList (n := 0) (N5 _ (.head _)).1) (by rw [List.size_toArray, List.length_take]; omega) rfl ?_)
    intro D2 h6 F6 N6 hD2
    clear F5 N5
    k_steps
    refine Stop.off ?_
    obtain ⟨x, hx⟩ : ∃ x, ws[i]? = some x := ⟨ws[i]'(by omega), by simp⟩
    have hstep := addStep_at (R := R) hx
    have hRi : ∀ p ∈ ((ws.take i).foldl addStep (R, [])).1, StrsOk p := fun p hp => by
      rw [addFold_mem] at hp
      rcases hp with hp | ⟨k, _, _, rfl⟩
      · exact hRok p hp
      · rw [List.nil_append]
        exact fun y hy => okWs_strs hws y (List.mem_of_mem_take (List.mem_of_mem_take hy))
    have htk : StrsOk (ws.take (i + 1)) := fun y hy => okWs_strs hws y (List.mem_of_mem_take hy)
    have hPp := hLS'.hRanks
    have hRl2 := paths_len hPp
    generalize hRi9 : ((ws.take i).foldl addStep (R, [])).1 = Ri at *
    have hPp9 : RdAll led9 rv' (Ri.map encP) := rdAll_paths (paths_mono (fun q hq' _ => hq q hq') hPp)
    have hplain : plainAll (Ri.map encP) = true := plainAll_of fun d hd => by obtain ⟨p, hp, rfl⟩ := List.mem_map.mp hd; exact encP_plain (hRi p hp)
    by_cases hin : ws.take (i + 1) ∈ Ri
    · rw [if_pos hin] at hstep
      k_dflt (refine notin_rd (c := true) N6 (rd_tup (.head _) (rdAll_strs (strs_take hlv (i + 1)))) (rd_list (.tail _ (.tail _ hrk9)) (hPp9.mono fun q hq => .tail _ (.tail _ hq))) (encP_plain htk) hplain (Nat.le_trans (encP_depth _) (by omega)) (by show 4 + 3 + 64 < cLine; decide) ⟨fun _ => encP_mem.mpr hin, fun _ => rfl⟩ ?_)
      k_steps
      show TurnEnd _ _ _ _ _ _ _
      rename Fr _ _ _ _ => F7
      rename News _ _ _ _ => N7
      refine TurnEnd.mk (LedOf w H nd rest') F7 N7 (fun p hp => .tail _ (.tail _ (hled9 ▸ List.mem_append_right _ hp))) (fun p hp => .tail _ (.tail _ (hled9 ▸ List.mem_append_left _ hp))) hoff ⟨fun x hx => ?_, rest', rv', rn', rfl, by rw [hstep]; exact hLS', hkeep⟩
      dsimp only
      rw [if_neg hx]; exact hm x hx
    · rw [if_neg hin] at hstep
      k_dflt (refine notin_rd (c := false) N6 (rd_tup (.head _) (rdAll_strs (strs_take hlv (i + 1)))) (rd_list (.tail _ (.tail _ hrk9)) (hPp9.mono fun q hq => .tail _ (.tail _ hq))) (encP_plain htk) hplain (Nat.le_trans (encP_depth _) (by omega)) (by show 4 + 3 + 64 < cLine; decide) ⟨fun h => Bool.noConfusion h, fun h => absurd (encP_mem.mp h) hin⟩ ?_)
      k_steps
      refine Stop.off ?_
      rename Fr _ _ _ _ => F7
      rename News _ _ _ _ => N7
      k_dflt (refine slice_list_upto (b := i + 1) F7 N7 (.tail _ (.tail _ hlw9)) (by omega) ?_)
      intro D3 h8 F8 N8 hD3
      clear F7 N7
      k_steps
      refine Stop.off ?_
      k_dflt (refine kde_tupleOf F8 N8 (PySem.IsL.isList (n := 0) (N8 _ (.head _)).1) (by rw [List.size_toArray, List.length_take]; omega) rfl ?_)
      intro D4 h9 F9 N9 hD4
      clear F8 N8
      k_steps
      refine Stop.off ?_
      have hIl : (I, oI) ∈ led9 := hled9 ▸ List.mem_append_right _ hoI
      have hl4 : ∀ q ∈ led9, q.1 < D4 := fun q hq => hD4 q (.tail _ (.tail _ (.tail _ hq)))
      have hrvl : rv'.length ≤ 16777216 := by
        have h1 := addFold_len (ws.take i) (R, [])
        have h2 : (ws.take i).length ≤ ws.length := by rw [List.length_take]; exact Nat.min_le_right _ _
        rw [hRi9] at h1
        dsimp only at h1
        omega
      refine append_B F9 N9 (.tail _ (.tail _ (.tail _ (.tail _ hrk9)))) hrvl ?_
      intro h10 F10 N10
      clear F9 N9
      k_steps
      show TurnEnd _ _ _ _ _ _ _
      have hap4 : Apart (LedOf w H nd ((D4, tupO (lv.take (i + 1))) :: rest')) := apart_new hLS'.trie.apart fun p hp => Nat.ne_of_lt (hl4 p (hled9 ▸ List.mem_append_left _ hp))
      have hLS4 := (hLS'.more (fun p hp => .tail _ hp) hap4).ranks (rn' := rn' + 1) (.head _) (strs_take hlv (i + 1)) hne
      have hrkI : rk ≠ I := hoff _ (List.mem_append_right _ (List.mem_append_right _ hrk))
      have hmem : ∀ p ∈ LedOf w H nd ((rk, listOf (rv' ++ [Value.ref D4]).toArray (rn' + 1)) :: but rk ((D4, tupO (lv.take (i + 1))) :: rest')), p = (rk, listOf (rv' ++ [Value.ref D4]).toArray (rn' + 1)) ∨ p = (D4, tupO (lv.take (i + 1))) ∧ p.1 ≠ rk ∨ p ∈ LedOf w H nd rest' ∧ p.1 ≠ rk := fun p hp => by
        rcases List.mem_cons.mp (put3 (o := listOf rv'.toArray rn') hap4 (.tail _ hrk) p hp) with e | hp
        · exact .inl e
        · obtain ⟨h1, h2⟩ := mem_but.mp hp
          rcases List.mem_cons.mp (new3 p h1) with e | h1
          · exact .inr (.inl ⟨e, h2⟩)
          · exact .inr (.inr ⟨h1, h2⟩)
      refine TurnEnd.mk (LedOf w H nd ((rk, listOf (rv' ++ [Value.ref D4]).toArray (rn' + 1)) :: but rk ((D4, tupO (lv.take (i + 1))) :: rest'))) F10 N10 (fun p hp => mem_put (.tail _ (.tail _ (.tail _ (.tail _ (hled9 ▸ List.mem_append_right _ hp))))) (by rw [hown p hp]; exact hrkI.symm)) (fun p hp => ?_) (fun p hp => ?_) ⟨fun x hx => ?_, _, _, _, rfl, by rw [hstep]; exact hLS4, fun p hp hpk => mem_put (.tail _ (hkeep p hp hpk)) hpk⟩
      · rcases hmem p hp with rfl | ⟨rfl, h2⟩ | ⟨h1, h2⟩
        · exact .head _
        · exact mem_put (.head _) h2
        · exact mem_put (.tail _ (.tail _ (.tail _ (.tail _ (hled9 ▸ List.mem_append_left _ h1))))) h2
      · rcases hmem p hp with rfl | ⟨rfl, h2⟩ | ⟨h1, h2⟩
        · exact hrkI
        · exact Nat.ne_of_gt (hl4 _ hIl)
        · exact hoff p h1
      · dsimp only
        rw [if_neg hx]; exact hm x hx
  · clear F3 N3 C hRg
    rintro m₁ nx h tk ⟨hm, rest', rv', rn', rfl, hLS', hkeep⟩ F₁ N₁
    rw [List.take_of_length_le (Nat.le_of_eq hlen.symm)] at hLS'
    exact hQ h tk m₁ rest' rv' rn' ⟨⟨_, B1⟩, F₁, XB1, N₁, ⟨_, _, _, _, _, TB1⟩, D1, hk1⟩ hLS' hkeep hm
end
end Mine
end
section
theorem Mine.switch_S14 : True := by
  w_top off
  trivial
open Lean Elab Tactic Meta PySem PySem.W PySem.Calls PyProof.Rows
set_option pp.deepTerms false
set_option pp.maxSteps 800
set_option pp.deepTerms.threshold 5
namespace Mine
local macro_rules | `(tactic| walk_at "exec For Name Name cons nil") => `(tactic| (refine Mine.Stop.on ?_))
local macro_rules | `(tactic| walk_at "exec For Name Call cons nil") => `(tactic| (refine Mine.Stop.on ?_))
local macro_rules | `(tactic| walk_at "exec Assign cons ListComp") => `(tactic| (refine Mine.Stop.on ?_))
local macro_rules | `(tactic| walk_at "LeaveC") => `(tactic| fail "here")
local macro_rules | `(tactic| k_room) => `(tactic| first | ktr_room | ((simp only [Mine.mark_depth, depth_under_make, depth_under_kw, depth_in1, depth_deeper, depth_caller]); (try dsimp only [ktrTop]); (try simp only [recursionLimit] at *); omega))
local macro_rules | `(tactic| k_all) => `(tactic| first | assumption | exact Mine.offLt (by assumption) | exact Mine.offLt2 (by assumption) (by assumption) | (refine List.forall_mem_append.mpr ⟨?a, ?b⟩; (case a => k_all); (case b => k_all)))
local macro_rules | `(tactic| walk_at "setItem ref str") => `(tactic| (k_here; k_dflt (refine' kda_setB (knd := PySem.strKind _ _) ?F ?N ?hm ?d (strKind_is _ _ _ _) ?z ?_; (case F => k_asm); (case N => k_asm); (case hm => k_mem); (case d => k_asm); (case z => k_asm)); intro h' o' F' N' hd'))
local macro_rules | `(tactic| walk_at "compareOp Is str ref") => `(tactic| (k_here; refine wpAny_is_other (by rfl) (by intro x; cases x) ?_))
local macro_rules | `(tactic| k_mem) => `(tactic| assumption)
local macro_rules | `(tactic| walk_at "eval Name") => `(tactic| (k_here; (with_reducible show wpAny _ _ (eval (Expr.Name _ _) (envOf _ _ _ _ _)) _ _ _); k_dflt (refine' ld ?k1 ?k2 ?_; (case k1 => k_asm); (case k2 => first | exact rfl | assumption); k_whole)))
local macro_rules | `(tactic| walk_at "eval Name") => `(tactic| (k_here; (with_reducible show wpAny _ _ (eval (Expr.Name _ _) (envOfC _ _ _ _ _)) _ _ _); k_dflt (refine' nameX_L ?F ?v ?_ ?a ?b; (case F => k_asm); (case a => rfl); (case b => rfl); (case v => first | rfl | assumption); k_whole)))
local macro_rules | `(tactic| walk_at "call builtin:len") => `(tactic| (k_here; (with_reducible show wpAny _ _ (call (Value.builtin "len") [Value.ref _]) _ _ _); k_dflt (first | refine len_L (by k_asm) (by k_mem) (by omega) ?_ | refine len_T (by k_asm) (by k_mem) (by omega) ?_)))
local macro_rules | `(tactic| walk_at "subscriptTail") => `(tactic| (k_here; (with_reducible show wpAny _ _ (subscriptTail _ (PySem.Expr.Slice _ _ _ _) (Value.ref _) (Value.ref _)) _ _ _); refine Mine.Stop.on ?_))
local macro_rules | `(tactic| walk_at "compareOp Eq ref ref") => `(tactic| (refine Mine.Stop.on ?_))
local macro_rules | `(tactic| walk_at "compareOp NotEq ref ref") => `(tactic| (refine Mine.Stop.on ?_))
local macro_rules | `(tactic| walk_at "call type:list") => `(tactic| (k_here; k_dflt (refine list_of_tuple (by k_asm) (by k_asm) (by k_mem) (by omega) ?_); intro D' c' h' F' N' l1; (try k_sweep)))
local macro_rules | `(tactic| walk_at "call ref") => `(tactic| ((with_reducible show wpAny _ _ (call (Value.ref 294) _) _ _ _); refine Mine.Stop.on ?_))
local macro_rules | `(tactic| walk_at "call ref") => `(tactic| ((with_reducible show wpAny _ _ (call (Value.ref 299) _) _ _ _); refine Mine.Stop.on ?_))
local macro_rules | `(tactic| walk_at "call ref") => `(tactic| ((with_reducible show wpAny _ _ (call (Value.ref 306) _) _ _ _); refine Mine.Stop.on ?_))
local macro_rules | `(tactic| walk_at "call ref") => `(tactic| ((with_reducible show wpAny _ _ (call (Value.ref 313) _) _ _ _); refine Mine.Stop.on ?_))
local macro_rules | `(tactic| walk_at "call ref") => `(tactic| ((with_reducible show wpAny _ _ (call (Value.ref 97) _) _ _ _); refine Mine.Stop.on ?_))
local macro_rules | `(tactic| walk_at "call ref") => `(tactic| ((with_reducible show wpAny _ _ (call (Value.ref 138) _) _ _ _); refine Mine.Stop.on ?_))
local macro_rules | `(tactic| walk_at "call ref") => `(tactic| ((with_reducible show wpAny _ _ (call (Value.ref 145) _) _ _ _); refine Mine.Stop.on ?_))
local macro_rules | `(tactic| walk_at "call ref") => `(tactic| ((with_reducible show wpAny _ _ (call (Value.ref 110) _) _ _ _); refine Mine.Stop.on ?_))
local macro_rules | `(tactic| walk_at "call ref") => `(tactic| ((with_reducible show wpAny _ _ (call (Value.ref 131) _) _ _ _); refine Mine.Stop.on ?_))
local macro_rules | `(tactic| walk_at "call ref") => `(tactic| ((with_reducible show wpAny _ _ (call (Value.ref 117) _) _ _ _); refine Mine.Stop.on ?_))
local macro_rules | `(tactic| walk_at "call ref") => `(tactic| ((with_reducible show wpAny _ _ (call (Value.ref 124) _) _ _ _); refine Mine.Stop.on ?_))
local macro_rules | `(tactic| walk_at "exec For") => `(tactic| (refine Mine.Stop.on ?_))
local macro_rules | `(tactic| walk_at "storeName") => `(tactic| (k_here; k_dflt (refine storeX_C (by k_asm) (news_but (by k_asm) (by k_mem)) (by rfl) (UpdF.head but_off) (by assumption) ?_)))
inductive AskedIn (led : List (Addr × Obj)) : List Value → List (List Str) → Prop
  | nil : AskedIn led [] []
  | cons {a : Addr} {av : List Value} {an : Nat} {q : List Str} {vs : List Value} {qs : List (List Str)} : (a, listOf av.toArray an) ∈ led → StrsAre av q → AskedIn led vs qs → AskedIn led (.ref a :: vs) (q :: qs)
theorem asked_len {a : List (Addr × Obj)} : ∀ {vs : List Value} {ps : List (List Str)}, AskedIn a vs ps → vs.length = ps.length
  | _, _, .nil => rfl
  | _, _, .cons _ _ r => congrArg (· + 1) (asked_len r)
theorem asked_at {led : List (Addr × Obj)} : ∀ {vs : List Value} {qs : List (List Str)}, AskedIn led vs qs → ∀ {i : Nat} {v : Value}, vs[i]? = some v → ∃ q a av an, qs[i]? = some q ∧ v = .ref a ∧ (a, listOf av.toArray an) ∈ led ∧ StrsAre av q
  | _, _, .nil, _, _, h => by simp at h
  | _, _, .cons (q := q) h s _, 0, _, e => ⟨q, _, _, _, rfl, (Option.some.inj e).symm, h, s⟩
  | _, _, .cons _ _ h, i + 1, _, e => by simpa using asked_at h (i := i) (by simpa using e)
def rowD (r : Row) : PyData := .tuple [.tuple (r.1.map PyData.str), .str r.2.1, .str r.2.2]
theorem rdAll_rows {led : List (Addr × Obj)} : ∀ {vs : List Value} {rows : List Row}, RowsIn led vs rows → RdAll led vs (rows.map rowD)
  | _, _, .nil => rdAll_nil
  | _, _, .cons ⟨_, _, _, t, u, e, h1, h2, h3⟩ r => rdAll_cons (e ▸ rd_tup h1 (rdAll_cons (rd_tup h2 (rdAll_strs h3)) (rdAll_cons (rd_str _ t) (rdAll_cons (rd_str _ u) rdAll_nil)))) (rdAll_rows r)
theorem plainAll_rows {rows : List Row} (h : ∀ r ∈ rows, StrsOk r.1 ∧ PyData.strOk r.2.1 = true ∧ PyData.strOk r.2.2 = true) : plainAll (rows.map rowD) = true :=
  plainAll_of fun d hd => by
    obtain ⟨r, hr, rfl⟩ := List.mem_map.mp hd
    obtain ⟨h1, h2, h3⟩ := h r hr
    simp only [rowD, plainD, plainAll, plainAll_strs h1, h2, h3, Bool.and_self]
theorem depth_strs (ws : List Str) : PyData.depthAll (ws.map PyData.str) ≤ 1 := depthAll_le fun d hd => by
  obtain ⟨x, _, rfl⟩ := List.mem_map.mp hd
  simp [PyData.depth]
theorem depth_rows (rows : List Row) : PyData.depthAll (rows.map rowD) ≤ 10 := depthAll_le fun d hd => by
  obtain ⟨r, _, rfl⟩ := List.mem_map.mp hd
  have := depth_strs r.1
  simp only [rowD, PyData.depth, PyData.depthAll]; omega
section
variable {prog : Program} {w : World} {base : Heap} {L fa : Addr} {cd : Value} {m : Str → Option Value} {s : Shared} {Q : Flow → Shared → Prop} {E : Value → Shared → Prop} {H : TrieHd} {nd : List Nd} {P : List (List Str)} {O : List (Option (Str × Str))} {ks : List Str} {rest : List (Addr × Obj)} {rk : Addr} {rv : List Value} {rn : Nat} {R : List (List Str)} {tb : Addr} {tv : List Value} {tn : Nat} {rows : List Row}
set_option maxRecDepth 100000
set_option maxHeartbeats 4000000
theorem asked_spec {qa : Addr} {qv : List Value} {qn : Nat} {qs : List (List Str)} {it : Nat} {t : Tok} (C : Cx (Mine.hd.heap_39 w.params) lawScope [] base base L s.heap m (LedOf w H nd rest)) (hLS : LS prog w L H nd P O ks rest rk rv rn R tb tv tn rows) (hI : Inv rows P O)
   (hqa : (qa, listOf qv.toArray qn) ∈ rest) (hqs : AskedIn rest qv qs) (hq : ∀ q ∈ qs, OkWs q ∧ 1 ≤ q.length ∧ q.length ≤ 4) (hm1 : m "asked" = some (.ref qa)) (hm2 : m "turn" = some (.int it t)) (hm3 : m "trie" = some (.ref H.tr)) (hm4 : m "table" = some (.ref tb)) (hX : ∀ r ∈ rows, PyData.strOk r.2.1 = true ∧ PyData.strOk r.2.2 = true) (hql : qs.length ≤ 10) (hrl : rows.length ≤ 10)
   (hE : PassesOwn (model prog w) (callerA.deeper (lawEnv L fa cd)) (lawEnv L fa cd) E)
   (hQ : ∀ h' tk' m' rest', Cx (Mine.hd.heap_39 w.params) lawScope [] base base L h' m' (LedOf w H nd rest') → LS prog w L H nd P O ks rest' rk rv rn R tb tv tn rows → (∀ p ∈ rest, p.1 ≠ L + 1 + 1 + 1 + 1 → p ∈ rest') → (∀ x : Str, x ≠ "found" → x ≠ "text" → m' x = m x) → Q .next { s with heap := h', toks := tk' }) :
   wpAny (model prog w) (callerA.deeper (lawEnv L fa cd)) (exec (turnBody.getD 7 passS) (lawEnv L fa cd)) Q E s := by
  with_unfolding_all show wpAny _ (callerA.deeper (envOfC _ ⟨_, _, _, _, _⟩ _ _ _)) (exec (Stmt.For _ _ _ _ _) (envOfC _ ⟨_, _, _, _, _⟩ _ _ _)) _ _ _
  obtain ⟨⟨A1, B1⟩, F1, XB1, N1, ⟨p1, loose1, mean1, mg1, mb1, TB1⟩, D1, hk1⟩ := id C
  have X1 := XB1.keeps B1.stays
  have T1 := TB1.keeps B1.stays
  have hqal := asked_len hqs
  have hcell : ∀ {b : Addr} {its : Array Value} {n : Nat}, (b, listOf its n) ∈ rest → b ≠ L + 1 + 1 + 1 + 1 := fun {b its n} hb => by
    obtain ⟨v0, o0, h0, e0⟩ := hLS.cS
    exact (apart_ne2 hLS.rest_apart h0 hb (cell_not_list e0 _ _)).symm
  have hqaS := hcell hqa
  refine For_A L base ?_ (by intro _; rfl) hE
  k_steps
  refine iter_listA (l := qa) (vs := qv) (fun i m' nx => (∀ x : Str, x ≠ "found" → x ≠ "text" → m' x = m x) ∧ ∃ rest', nx = LedOf w H nd rest' ∧ LS prog w L H nd P O ks rest' rk rv rn R tb tv tn rows ∧ ∀ p ∈ rest, p.1 ≠ L + 1 + 1 + 1 + 1 → p ∈ rest') (by rfl) (fun _ _ => rfl) (PySem.IsL.isList (n := qn) (N1 _ (List.mem_append_right _ (List.mem_append_right _ hqa))).1) (N1 _ (List.mem_append_right _ (List.mem_append_right _ hqa))).2.1 F1 N1 ⟨fun _ _ _ => rfl, rest, rfl, hLS, fun p hp _ => hp⟩ ?_ ?_
  · clear F1 N1
    rintro i v m₁ nx I own h tk hv ⟨hm, rest', rfl, hLS', hkeep⟩ hown hoff ⟨oI, hoI, hoIc⟩ hqI F₁ N₁
    obtain ⟨q, a, av, an, hqi, rfl, haq, hav⟩ := asked_at hqs hv
    obtain ⟨hqo, hq1, hq4⟩ := hq q (List.mem_of_getElem? hqi)
    have haS := hcell haq
    obtain ⟨vS, oS, hS, eS⟩ := hLS'.cS
    have hn2 : m₁ "turn" = some (.int it t) := (hm _ (by decide) (by decide)).trans hm2
    have hn3 : m₁ "trie" = some (.ref H.tr) := (hm _ (by decide) (by decide)).trans hm3
    have hn4 : m₁ "table" = some (.ref tb) := (hm _ (by decide) (by decide)).trans hm4
    have hin : ∀ x ∈ rest', x ∈ LedOf w H nd rest' ++ own := fun x hx => List.mem_append_left _ (List.mem_append_right _ (List.mem_append_right _ hx))
    have hS9 := hin _ hS
    generalize hled9 : LedOf w H nd rest' ++ own = led9 at *
    k_steps
    refine Stop.off ?_
    rename Obj.data _ = Data.cell (some (Value.ref a)) => eS2
    rename News _ _ _ _ => N2
    rename Fr _ _ _ _ => F2
    rename_i h2 oS2
    have hLS2 := hLS'.store hS eS eS2 (Nat.ne_of_gt (Nat.lt_succ_of_lt (Nat.lt_succ_of_lt (Nat.lt_succ_self _))))
    have hcI : L + 1 + 1 + 1 + 1 ≠ I := hoff _ (List.mem_append_right _ (List.mem_append_right _ hS))
    generalize hr2 : (L + 1 + 1 + 1 + 1, oS2) :: but (L + 1 + 1 + 1 + 1) rest' = rest2 at *
    have hin2 : ∀ p ∈ LedOf w H nd rest2, p ∈ (L + 1 + 1 + 1 + 1, oS2) :: but (L + 1 + 1 + 1 + 1) led9 := fun p hp => by
      rw [← hr2] at hp
      rcases List.mem_cons.mp (put3 hLS'.trie.apart hS p hp) with rfl | hp
      · exact .head _
      · obtain ⟨h1, h2⟩ := mem_but.mp hp
        exact mem_put (hled9 ▸ List.mem_append_left _ h1) h2
    have hoff2 : ∀ p ∈ LedOf w H nd rest2, p.1 ≠ I := fun p hp => by
      rw [← hr2] at hp
      rcases List.mem_cons.mp (put3 hLS'.trie.apart hS p hp) with rfl | hp
      · exact hcI
      · exact hoff _ (mem_but.mp hp).1
    have hkeep2 : ∀ p ∈ rest, p.1 ≠ L + 1 + 1 + 1 + 1 → p ∈ rest2 := fun p hp hn => hr2 ▸ mem_put (hkeep p hp hn) hn
    have hown2 : ∀ p ∈ own, p ∈ (L + 1 + 1 + 1 + 1, oS2) :: but (L + 1 + 1 + 1 + 1) led9 := fun p hp => mem_put (hled9 ▸ List.mem_append_right _ hp) (by
      rcases hown p hp with e | e
      · rw [e]; exact hcI.symm
      · rw [e]; exact hqaS)
    have hS3 : (L + 1 + 1 + 1 + 1, oS2) ∈ (L + 1 + 1 + 1 + 1, oS2) :: but (L + 1 + 1 + 1 + 1) led9 := .head _
    have haq3 := hin2 _ (List.mem_append_right _ (List.mem_append_right _ (hr2 ▸ mem_put (hkeep _ haq haS) haS)))
    have htb3 := hin2 _ (List.mem_append_right _ (List.mem_append_right _ hLS2.hTb))
    have hrows3 : RowsIn ((L + 1 + 1 + 1 + 1, oS2) :: but (L + 1 + 1 + 1 + 1) led9) tv rows := rows_mono (fun p hp => hin2 p (List.mem_append_right _ (List.mem_append_right _ hp))) hLS2.hRows
    generalize hled3 : (L + 1 + 1 + 1 + 1, oS2) :: but (L + 1 + 1 + 1 + 1) led9 = led3 at *
    have htvl := rows_len hrows3
    k_dflt (refine LCt.Assign_ListComp_T (F₀ := by k_asm) (by rfl) (by with_unfolding_all rfl) (by with_unfolding_all rfl) (by decide) (by rfl) (by decide) (by rfl) (by rfl) (by rfl) ?_)
    k_steps
    k_dflt (refine LCt.CompSrcT.ledger (by rfl) F2 N2 htb3 (by rw [sizeLine_eq, List.size_toArray]; omega) (fun _ => restT_ind (fun i ys nx => nx = led3 ∧ RowsIn led3 ys ((rows.take i).filter fun r => decide (r.1 = q))) ?_ ?_ _ 0 _ _ (Nat.zero_add _) ⟨rfl, .nil⟩))
    rotate_left
    · rintro i ys nx v I' oI' C' oC' D' m₂ h' tk' E' hi ⟨rfl, hys⟩ hv' hC' hxv F N off ne
      obtain ⟨r, hri, ra, wa, wv, t1, u1, rfl, hA, hB, hC⟩ := rows_at hrows3 (by simpa using hv')
      have hA5 : (ra, tupO [.ref wa, .str r.2.1 t1, .str r.2.2 u1]) ∈ (I', oI') :: (C', oC') :: (D', LCg.lst ys) :: nx := .tail _ (.tail _ (.tail _ hA))
      have hB5 : (wa, tupO wv) ∈ (I', oI') :: (C', oC') :: (D', LCg.lst ys) :: nx := .tail _ (.tail _ (.tail _ hB))
      have hS5 : (L + 1 + 1 + 1 + 1, oS2) ∈ (I', oI') :: (C', oC') :: (D', LCg.lst ys) :: nx := .tail _ (.tail _ (.tail _ hS3))
      have hwl := strs_len hC
      have hrok := (hI.ok r (List.mem_of_getElem? hri)).2.2
      have hwz : wv.length ≤ 1000 := by omega
      have hnext : rows.take (i + 1) = rows.take i ++ [r] := by rw [List.take_add_one, hri]; rfl
      k_steps
      refine Stop.off ?_
      rename News _ _ _ _ => N6
      k_dflt (refine eq_strsL N6 (.head _) (.tail _ (.tail _ (.tail _ (.tail _ haq3)))) hC hav (okWs_strs (hI.ok r (List.mem_of_getElem? hri)).1) (okWs_strs hqo) (by show 4 + 3 + 64 < cLine; decide) ?_)
      by_cases hrq : r.1 = q
      · rw [decide_eq_true hrq]
        k_steps
        refine LCg.CompEnd.intro (by assumption) (by assumption) nx (fun p hp => .tail _ hp) off (.inr ⟨_, htb3, rfl, _, rfl⟩) ⟨rfl, ?_⟩
        rw [hnext, List.filter_append, List.filter_cons, if_pos (decide_eq_true hrq)]
        exact rows_app hys (.cons ⟨ra, wa, wv, t1, u1, rfl, hA, hB, hC⟩ .nil)
      · rw [decide_eq_false hrq]
        k_steps
        refine LCg.CompEnd.intro (by assumption) (by assumption) nx (fun p hp => .tail _ hp) off (.inr ⟨_, htb3, rfl, _, rfl⟩) ⟨rfl, ?_⟩
        rw [hnext, List.filter_append, List.filter_cons, if_neg (by rw [decide_eq_false hrq]; decide)]
        simpa using hys
    · rintro ys nx ⟨rfl, hys⟩ D h3 tk3 F3 N3 off2
      rw [List.size_toArray, List.take_of_length_le (Nat.le_of_eq htvl.symm)] at hys
      clear F2 N2
      dsimp only
      try k_fold
      k_steps
      refine Stop.off ?_
      have hok9 : OkWs q := hqo
      have hsum := sum_len hqo
      have hqne : q ≠ [] := fun e => by rw [e] at hq1; cases hq1
      k_dflt (refine text_spec ⟨⟨_, B1⟩, by assumption, XB1, by assumption, ⟨_, _, _, _, _, TB1⟩, D1, hk1⟩ ?_ ?_ (.tail _ haq3) hav (by omega) ?_)
      · decide
      · decide
      intro h4 tk4 t4 C4
      have F4 := C4.F
      have N4 := C4.N
      clear F3 N3
      have htr : (H.tr, ({ cls := .ref 171, dict := some H.dx, data := .plain } : Obj)) ∈ nx := hin2 _ (.head _)
      have hdx : (H.dx, dictOf (hdEnts w.params false H (adOf nd 0)) 3) ∈ nx := hin2 _ (.tail _ (.head _))
      have hobj3 : ∀ p ∈ hdObjs w.params 171 false H (adOf nd 0) ++ objsOf 71 nd, p ∈ (D, LCg.lst ys) :: nx := fun p hp => .tail _ (hin2 p (by unfold LedOf; rw [← List.append_assoc]; exact List.mem_append_left _ hp))
      have hall3 : ∀ p ∈ hdObjs w.params 171 false H (adOf nd 0) ++ (objsOf 71 nd ++ rest2), p ∈ (D, LCg.lst ys) :: nx := fun p hp => .tail _ (hin2 p hp)
      obtain ⟨hnO, hksO, hoO, hfO, hapO⟩ := hLS2.trie
      unfold hdEnts at hdx
      k_steps
      refine Stop.off ?_
      have hx0 : ∀ b, (textOf q b).length ≠ 0 := text_ne hqo hqne
      have hx1 : ∀ b, (textOf q b).length ≤ 1000 := fun b => by have := text_bound hqo b; omega
      have hxa := text_ascii hqo
      have hxw := words_of_text hqo hqne
      k_dflt (refine exists_spec ⟨⟨_, B1⟩, by assumption, XB1, by assumption, ⟨_, _, _, _, _, TB1⟩, D1, hk1⟩ ?_ ?_ (hx1 _) (hx0 _) (hxa _) hall3 hnO hoO ?_)
      · decide
      · decide
      intro g5 h5 tk5 TT5 C5
      replace C5 := cx_home TT5 C4 C5
      clear TT5
      have F5 := C5.F
      have N5 := C5.N
      rw [hxw, hI.told q, find_of_filter]
      generalize hfl : (rows.filter fun r => decide (r.1 = q)) = fl at *
      have hpl : plainAll (fl.map rowD) = true := plainAll_rows fun r hr => by
        rw [← hfl] at hr
        have hr := (List.mem_filter.mp hr).1
        exact ⟨okWs_strs (hI.ok r hr).1, hX r hr⟩
      k_steps
      refine Stop.off ?_
      rename News _ _ _ _ => N6
      k_dflt (refine ne_rd (c := fl.isEmpty) N6 (rd_list (.tail _ (.head _)) (rdAll_rows (rows_mono (fun p hp => .tail _ (.tail _ hp)) hys))) (rd_list (vs := []) (.head _) rdAll_nil) (by rw [plainD]; exact hpl) (by rw [plainD, plainAll]) (by have := depth_rows fl; rw [PyData.depth]; omega) (by simp [PyData.depth, PyData.depthAll]) (by show 4 + 3 + 64 < cLine; decide) (by cases fl <;> simp) ?_)
      have eb : (!fl.isEmpty) = (Option.map (fun r : Row => r.2) fl.head?).isSome := by cases fl <;> rfl
      rw [eb]
      generalize (Option.map (fun r : Row => r.2) fl.head?).isSome = bb
      have hbb : ∀ b : Bool, (b != b) = true → False := fun b => by cases b <;> decide

      clear C5
      k_steps
      · exact (hbb _ (by assumption)).elim
      refine Stop.off ?_
      k_dflt (refine isprefix_spec ⟨⟨_, B1⟩, by assumption, XB1, by assumption, ⟨_, _, _, _, _, TB1⟩, D1, hk1⟩ ?_ ?_ (hx1 _) (hx0 _) (hxa _) (fun p hp => .tail _ (hobj3 p hp)) hnO ?_)
      · decide
      · decide
      intro g8 h8 tk8 TT8 C8
      replace C8 := cx_home TT8 C4 C8
      clear TT8
      have F8 := C8.F
      have N8 := C8.N
      rw [hxw]
      k_steps
      refine Stop.off ?_
      k_dflt (refine starts_spec (n := tn) (n' := an) (ws := q) (rows := rows) ⟨⟨_, B1⟩, by assumption, XB1, by assumption, ⟨_, _, _, _, _, TB1⟩, D1, hk1⟩ ?_ ?_ (.tail _ (.tail _ htb3)) (rows_mono (fun p hp => .tail _ (.tail _ hp)) hrows3) (.tail _ (.tail _ haq3)) hav (by omega) hrl (fun r hr => by have := (hI.ok r hr).2.2; have := sum_len (hI.ok r hr).1; omega) (okWs_strs hqo) (fun r hr => okWs_strs (hI.ok r hr).1) ?_)
      · decide
      · decide
      intro h9 tk9 C9
      clear F8 N8 C8
      have F9 := C9.F
      have N9 := C9.N
      rw [starts_iff hI hqne]
      generalize hb2 : decide (q ∈ P) = b2
      k_steps
      · exact (hbb _ (by assumption)).elim
      refine Stop.off ?_
      k_dflt (refine get_spec1 (P := P) (O := O) ⟨⟨_, B1⟩, by assumption, XB1, by assumption, ⟨_, _, _, _, _, TB1⟩, D1, hk1⟩ ?_ ?_ (hx1 _) (hx0 _) (hxa _) (fun p hp => .tail _ (hall3 p hp)) hnO hoO ?_)
      · decide
      · decide
      intro g10 h10 tk10 r10 TT10 C10 hr10
      replace C10 := cx_home TT10 C4 C10
      clear TT10 F9 N9 C9
      have F10 := C10.F
      have N10 := C10.N
      rw [hxw, hI.told q, find_of_filter, hfl] at hr10
      k_steps
      refine Stop.off ?_
      rename News _ _ _ _ => N11
      k_dflt (refine ne_rd (c := fl.isEmpty) N11 (rd_list (.tail _ (.tail _ (.head _))) (rdAll_rows (rows_mono (fun p hp => .tail _ (.tail _ (.tail _ hp))) hys))) (rd_list (vs := []) (.head _) rdAll_nil) (by rw [plainD]; exact hpl) (by rw [plainD, plainAll]) (by have := depth_rows fl; rw [PyData.depth]; omega) (by simp [PyData.depth, PyData.depthAll]) (by show 4 + 3 + 64 < cLine; decide) (by cases fl <;> simp) ?_)
      rcases fl with _ | ⟨r0, fl'⟩
      · subst hr10
        rw [show (!([] : List Row).isEmpty) = false from rfl]
        k_steps
        show TurnEnd _ _ _ _ _ _ _
        rename Fr _ _ _ _ => F12
        rename News _ _ _ _ => N12
        refine TurnEnd.mk (LedOf w H nd rest2) F12 N12 (fun p hp => .tail _ (.tail _ (.tail _ (hown2 p hp)))) (fun p hp => .tail _ (.tail _ (.tail _ (hin2 p hp)))) hoff2 ⟨fun x h1 h2 => ?_, rest2, rfl, hLS2, hkeep2⟩
        dsimp only
        rw [if_neg h2, if_neg h1]; exact hm x h1 h2
      · obtain ⟨ta, t', u', rfl, hta⟩ := hr10
        cases hys with | cons hrow hys' => ?_
        obtain ⟨ra, wa, wv, t1, u1, rfl, hA, hB, hC⟩ := hrow
        have hX0 := hX r0 (List.mem_filter.mp (hfl ▸ List.mem_cons_self : r0 ∈ rows.filter fun r => decide (r.1 = q))).1
        rw [show (!(r0 :: fl').isEmpty) = true from rfl]
        k_steps
        refine Stop.off ?_
        rename News _ _ _ _ => N12
        unfold pairObj at hta
        have hpp : plainD (.tuple [.str r0.2.1, .str r0.2.2]) = true := by simp only [plainD, plainAll, hX0.1, hX0.2, Bool.and_self]
        k_dflt (refine ne_rd (c := true) N12 (rd_tup (.tail _ (.tail _ hta)) (rdAll_cons (rd_str _ _) (rdAll_cons (rd_str _ _) rdAll_nil))) (rd_tup (.head _) (rdAll_cons (rd_str _ _) (rdAll_cons (rd_str _ _) rdAll_nil))) hpp hpp (by simp [PyData.depth, PyData.depthAll]) (by simp [PyData.depth, PyData.depthAll]) (by show 4 + 3 + 64 < cLine; decide) ⟨fun _ => rfl, fun _ => rfl⟩ ?_)
        k_steps
        show TurnEnd _ _ _ _ _ _ _
        rename Fr _ _ _ _ => F13
        rename News _ _ _ _ => N13
        refine TurnEnd.mk (LedOf w H nd rest2) F13 N13 (fun p hp => .tail _ (.tail _ (.tail _ (.tail _ (hown2 p hp))))) (fun p hp => .tail _ (.tail _ (.tail _ (.tail _ (hin2 p hp))))) hoff2 ⟨fun x h1 h2 => ?_, rest2, rfl, hLS2, hkeep2⟩
        dsimp only
        rw [if_neg h2, if_neg h1]; exact hm x h1 h2
  · clear F1 N1
    rintro m₁ nx h tk ⟨hm, rest', rfl, hLS', hkeep⟩ F₁ N₁
    exact hQ h tk m₁ rest' ⟨⟨_, B1⟩, F₁, XB1, N₁, ⟨_, _, _, _, _, TB1⟩, D1, hk1⟩ hLS' hkeep hm
end
end Mine
end
section
theorem Mine.switch_S15 : True := by
  w_top off
  trivial
open Lean Elab Tactic Meta PySem PySem.W PySem.Calls PyProof.Rows
set_option pp.deepTerms false
set_option pp.maxSteps 800
set_option pp.deepTerms.threshold 5
namespace Mine
local macro_rules | `(tactic| walk_at "exec For Name Name cons nil") => `(tactic| (refine Mine.Stop.on ?_))
local macro_rules | `(tactic| walk_at "exec For Name Call cons nil") => `(tactic| (refine Mine.Stop.on ?_))
local macro_rules | `(tactic| walk_at "exec Assign cons ListComp") => `(tactic| (refine Mine.Stop.on ?_))
local macro_rules | `(tactic| walk_at "LeaveC") => `(tactic| fail "here")
local macro_rules | `(tactic| k_room) => `(tactic| first | ktr_room | ((simp only [Mine.mark_depth, depth_under_make, depth_under_kw, depth_in1, depth_deeper, depth_caller]); (try dsimp only [ktrTop]); (try simp only [recursionLimit] at *); omega))
local macro_rules | `(tactic| k_all) => `(tactic| first | assumption | exact Mine.offLt (by assumption) | exact Mine.offLt2 (by assumption) (by assumption) | (refine List.forall_mem_append.mpr ⟨?a, ?b⟩; (case a => k_all); (case b => k_all)))
local macro_rules | `(tactic| walk_at "setItem ref str") => `(tactic| (k_here; k_dflt (refine' kda_setB (knd := PySem.strKind _ _) ?F ?N ?hm ?d (strKind_is _ _ _ _) ?z ?_; (case F => k_asm); (case N => k_asm); (case hm => k_mem); (case d => k_asm); (case z => k_asm)); intro h' o' F' N' hd'))
local macro_rules | `(tactic| walk_at "compareOp Is str ref") => `(tactic| (k_here; refine wpAny_is_other (by rfl) (by intro x; cases x) ?_))
local macro_rules | `(tactic| k_mem) => `(tactic| assumption)
local macro_rules | `(tactic| walk_at "eval Name") => `(tactic| (k_here; (with_reducible show wpAny _ _ (eval (Expr.Name _ _) (envOf _ _ _ _ _)) _ _ _); k_dflt (refine' ld ?k1 ?k2 ?_; (case k1 => k_asm); (case k2 => first | exact rfl | assumption); k_whole)))
local macro_rules | `(tactic| walk_at "eval Name") => `(tactic| (k_here; (with_reducible show wpAny _ _ (eval (Expr.Name _ _) (envOfC _ _ _ _ _)) _ _ _); k_dflt (refine' nameX_L ?F ?v ?_ ?a ?b; (case F => k_asm); (case a => rfl); (case b => rfl); (case v => first | rfl | assumption); k_whole)))
local macro_rules | `(tactic| walk_at "call builtin:len") => `(tactic| (k_here; (with_reducible show wpAny _ _ (call (Value.builtin "len") [Value.ref _]) _ _ _); k_dflt (first | refine len_L (by k_asm) (by k_mem) (by omega) ?_ | refine len_T (by k_asm) (by k_mem) (by omega) ?_)))
local macro_rules | `(tactic| walk_at "subscriptTail") => `(tactic| (k_here; (with_reducible show wpAny _ _ (subscriptTail _ (PySem.Expr.Slice _ _ _ _) (Value.ref _) (Value.ref _)) _ _ _); refine Mine.Stop.on ?_))
local macro_rules | `(tactic| walk_at "compareOp Eq ref ref") => `(tactic| (refine Mine.Stop.on ?_))
local macro_rules | `(tactic| walk_at "compareOp NotEq ref ref") => `(tactic| (refine Mine.Stop.on ?_))
local macro_rules | `(tactic| walk_at "call type:list") => `(tactic| (k_here; k_dflt (refine list_of_tuple (by k_asm) (by k_asm) (by k_mem) (by omega) ?_); intro D' c' h' F' N' l1; (try k_sweep)))
local macro_rules | `(tactic| walk_at "call ref") => `(tactic| ((with_reducible show wpAny _ _ (call (Value.ref 294) _) _ _ _); refine Mine.Stop.on ?_))
local macro_rules | `(tactic| walk_at "call ref") => `(tactic| ((with_reducible show wpAny _ _ (call (Value.ref 299) _) _ _ _); refine Mine.Stop.on ?_))
local macro_rules | `(tactic| walk_at "call ref") => `(tactic| ((with_reducible show wpAny _ _ (call (Value.ref 306) _) _ _ _); refine Mine.Stop.on ?_))
local macro_rules | `(tactic| walk_at "call ref") => `(tactic| ((with_reducible show wpAny _ _ (call (Value.ref 313) _) _ _ _); refine Mine.Stop.on ?_))
local macro_rules | `(tactic| walk_at "call ref") => `(tactic| ((with_reducible show wpAny _ _ (call (Value.ref 97) _) _ _ _); refine Mine.Stop.on ?_))
local macro_rules | `(tactic| walk_at "call ref") => `(tactic| ((with_reducible show wpAny _ _ (call (Value.ref 138) _) _ _ _); refine Mine.Stop.on ?_))
local macro_rules | `(tactic| walk_at "call ref") => `(tactic| ((with_reducible show wpAny _ _ (call (Value.ref 145) _) _ _ _); refine Mine.Stop.on ?_))
local macro_rules | `(tactic| walk_at "call ref") => `(tactic| ((with_reducible show wpAny _ _ (call (Value.ref 110) _) _ _ _); refine Mine.Stop.on ?_))
local macro_rules | `(tactic| walk_at "call ref") => `(tactic| ((with_reducible show wpAny _ _ (call (Value.ref 131) _) _ _ _); refine Mine.Stop.on ?_))
local macro_rules | `(tactic| walk_at "call ref") => `(tactic| ((with_reducible show wpAny _ _ (call (Value.ref 117) _) _ _ _); refine Mine.Stop.on ?_))
local macro_rules | `(tactic| walk_at "call ref") => `(tactic| ((with_reducible show wpAny _ _ (call (Value.ref 124) _) _ _ _); refine Mine.Stop.on ?_))
local macro_rules | `(tactic| walk_at "exec For") => `(tactic| (refine Mine.Stop.on ?_))
local macro_rules | `(tactic| walk_at "eval ListComp") => `(tactic| (refine Mine.Stop.on ?_))
local macro_rules | `(tactic| walk_at "call type:tuple") => `(tactic| (refine Mine.Stop.on ?_))
local macro_rules | `(tactic| walk_at "binaryOp Add ref ref") => `(tactic| (refine Mine.Stop.on ?_))
section
variable {prog : Program} {w : World} {base : Heap} {L fa : Addr} {cd : Value} {m : Str → Option Value} {s : Shared} {Q : Flow → Shared → Prop} {E : Value → Shared → Prop} {H : TrieHd} {nd : List Nd} {P : List (List Str)} {O : List (Option (Str × Str))} {ks : List Str} {rest : List (Addr × Obj)} {rk : Addr} {rv : List Value} {rn : Nat} {R : List (List Str)} {tb : Addr} {tv : List Value} {tn : Nat} {rows : List Row}
set_option maxRecDepth 100000
set_option maxHeartbeats 4000000
/-- what `value` may be for a text -/
def ValIs (x y : Str) (v : Value) : Prop := (v = .none ∧ y = x) ∨ ∃ u, v = .str y u ∧ y.length ≠ 0 ∧ y.length ≤ 1000 ∧ PyData.strOk y = true
theorem value_spec {led : List (Addr × Obj)} {x : Str} {c : Nat} {t : Tok} (C : Cx (Mine.hd.heap_39 w.params) lawScope [] base base L s.heap m led) (hm : m "number" = some (.int c t)) 
   (hE : PassesOwn (model prog w) (callerA.deeper (lawEnv L fa cd)) (lawEnv L fa cd) E)
   (hQ : ∀ h' tk' m' y v, Cx (Mine.hd.heap_39 w.params) lawScope [] base base L h' m' led → ValIs x y v → m' "value" = some v → (∀ z : Str, z ≠ "value" → m' z = m z) → Q .next { s with heap := h', toks := tk' }) :
   wpAny (model prog w) (callerA.deeper (lawEnv L fa cd)) (exec (turnBody.getD 2 passS) (lawEnv L fa cd)) Q E s := by
  with_unfolding_all show wpAny _ (callerA.deeper (envOfC _ ⟨_, _, _, _, _⟩ _ _ _)) (exec (Stmt.Assign _ _ _) (envOfC _ ⟨_, _, _, _, _⟩ _ _ _)) _ _ _
  obtain ⟨⟨A1, B1⟩, F1, XB1, N1, ⟨p1, loose1, mean1, mg1, mb1, TB1⟩, D1, hk1⟩ := id C
  have X1 := XB1.keeps B1.stays
  have T1 := TB1.keeps B1.stays
  k_steps
  · rename Fr _ _ _ _ => F2
    rename News _ _ _ _ => N2
    exact hQ _ _ _ x _ ⟨⟨_, B1⟩, F2, XB1, N2, ⟨_, _, _, _, _, TB1⟩, D1, hk1⟩ (.inl ⟨rfl, rfl⟩) rfl fun z hz => if_neg hz
  · rename Fr _ _ _ _ => F2
    rename News _ _ _ _ => N2
    refine hQ _ _ _ _ _ ⟨⟨_, B1⟩, F2, XB1, N2, ⟨_, _, _, _, _, TB1⟩, D1, hk1⟩ (.inr ⟨_, rfl, ?_⟩) rfl fun z hz => if_neg hz
    have h7 : c % 7 < 7 := Nat.mod_lt _ (by decide)
    have e7 : Int.fmod (c : Int) 7 = ((c % 7 : Nat) : Int) := by rw [Int.fmod_eq_emod_of_nonneg _ (by decide)]; rfl
    rw [e7]
    generalize c % 7 = d at *
    have hd7 : d = 0 ∨ d = 1 ∨ d = 2 ∨ d = 3 ∨ d = 4 ∨ d = 5 ∨ d = 6 := by omega
    rcases hd7 with rfl | rfl | rfl | rfl | rfl | rfl | rfl <;> decide +kernel
theorem LS.newTable {D2 D' D3 : Addr} {lv ys : List Value} {ws : List Str} (h : LS prog w L H nd P O ks rest rk rv rn R tb tv tn rows) (hlv : StrsAre lv ws) (hys : RowsIn rest ys (rows.filter fun r => !decide (r.1 = ws))) (h2 : ∀ p ∈ LedOf w H nd rest, p.1 < D2) (h3 : D2 < D') (h4 : D' < D3) (x y : Str) (tx ty : Tok) :
    LS prog w L H nd P O ks ((D3, listOf (ys ++ [Value.ref D']).toArray 0) :: (D', tupO [.ref D2, .str x tx, .str y ty]) :: (D2, tupO lv) :: rest) rk rv rn R D3 (ys ++ [Value.ref D']) 0 (putRow rows ws (x, y)) ∧ D3 ≠ rk ∧
    ∀ p ∈ LedOf w H nd ((D3, listOf (ys ++ [Value.ref D']).toArray 0) :: (D', tupO [.ref D2, .str x tx, .str y ty]) :: (D2, tupO lv) :: rest), p = (D3, listOf (ys ++ [Value.ref D']).toArray 0) ∨ p = (D', tupO [.ref D2, .str x tx, .str y ty]) ∨ p = (D2, tupO lv) ∨ p ∈ LedOf w H nd rest := by
  have a1 : Apart (LedOf w H nd ((D2, tupO lv) :: rest)) := apart_new h.trie.apart fun p hp => Nat.ne_of_lt (h2 p hp)
  have m1 : ∀ p ∈ LedOf w H nd ((D2, tupO lv) :: rest), p = (D2, tupO lv) ∨ p ∈ LedOf w H nd rest := fun p hp => List.mem_cons.mp (new3 p hp)
  have l1 : ∀ p ∈ LedOf w H nd ((D2, tupO lv) :: rest), p.1 ≤ D2 := fun p hp => by
    rcases m1 p hp with rfl | hp
    · exact Nat.le_refl _
    · exact Nat.le_of_lt (h2 p hp)
  have a2 : Apart (LedOf w H nd ((D', tupO [.ref D2, .str x tx, .str y ty]) :: (D2, tupO lv) :: rest)) := apart_new a1 fun p hp => Nat.ne_of_lt (Nat.lt_of_le_of_lt (l1 p hp) h3)
  have m2 : ∀ p ∈ LedOf w H nd ((D', tupO [.ref D2, .str x tx, .str y ty]) :: (D2, tupO lv) :: rest), p = (D', tupO [.ref D2, .str x tx, .str y ty]) ∨ p ∈ LedOf w H nd ((D2, tupO lv) :: rest) := fun p hp => List.mem_cons.mp (new3 p hp)
  have l2 : ∀ p ∈ LedOf w H nd ((D', tupO [.ref D2, .str x tx, .str y ty]) :: (D2, tupO lv) :: rest), p.1 ≤ D' := fun p hp => by
    rcases m2 p hp with rfl | hp
    · exact Nat.le_refl _
    · exact Nat.le_of_lt (Nat.lt_of_le_of_lt (l1 p hp) h3)
  have a3 : Apart (LedOf w H nd ((D3, listOf (ys ++ [Value.ref D']).toArray 0) :: (D', tupO [.ref D2, .str x tx, .str y ty]) :: (D2, tupO lv) :: rest)) := apart_new a2 fun p hp => Nat.ne_of_lt (Nat.lt_of_le_of_lt (l2 p hp) h4)
  have hrk : rk < D2 := h2 (rk, _) (List.mem_append_right _ (List.mem_append_right _ h.hRk))
  obtain ⟨b1, b2, b3, b4, b5, b6, b7, b8, b9, b10, b11, b12, b13⟩ := h.more (fun p hp => .tail _ (.tail _ (.tail _ hp))) a3
  refine ⟨⟨b1, b2, b3, b4, b5, b6, b7, b8, b9, .head _, ?_, b12, b13⟩, Nat.ne_of_gt (Nat.lt_trans hrk (Nat.lt_trans h3 h4)), fun p hp => ?_⟩
  · exact rows_app (rows_mono (fun p hp => .tail _ (.tail _ (.tail _ hp))) hys) (.cons ⟨D', D2, lv, tx, ty, rfl, .tail _ (.head _), .tail _ (.tail _ (.head _)), hlv⟩ .nil)
  · rcases List.mem_cons.mp (new3 p hp) with e | hp
    · exact .inl e
    · rcases m2 p hp with e | hp
      · exact .inr (.inl e)
      · rcases m1 p hp with e | hp
        · exact .inr (.inr (.inl e))
        · exact .inr (.inr (.inr hp))
theorem table_spec {lw : Addr} {lv : List Value} {ln : Nat} {ws : List Str} {x : Str} {tx : Tok} {val : Value} {y : Str} (C : Cx (Mine.hd.heap_39 w.params) lawScope [] base base L s.heap m (LedOf w H nd rest)) (hLS : LS prog w L H nd P O ks rest rk rv rn R tb tv tn rows)
   (hlw : (lw, listOf lv.toArray ln) ∈ rest) (hlv : StrsAre lv ws) (hcw : CellIs rest (L + 1 + 1) (some (.ref lw))) (hws : OkWs ws) (hwl : ws.length ≤ 3) (hrl : rows.length ≤ 10) (hok : ∀ r ∈ rows, OkWs r.1 ∧ r.1.length ≤ 3)
   (hm1 : m "text" = some (.str x tx)) (hm2 : m "value" = some val) (hval : ValIs x y val) (hm3 : m "table" = some (.ref tb))
   (hE : PassesOwn (model prog w) (callerA.deeper (lawEnv L fa cd)) (lawEnv L fa cd) E)
   (hQ : ∀ h' tk' m' rest' tb' tv' tn', Cx (Mine.hd.heap_39 w.params) lawScope [] base base L h' m' (LedOf w H nd rest') → LS prog w L H nd P O ks rest' rk rv rn R tb' tv' tn' (putRow rows ws (x, y)) → (∀ p ∈ rest, p ∈ rest') → m' "table" = some (.ref tb') → tb' ≠ rk → (∀ z : Str, z ≠ "table" → m' z = m z) → Q .next { s with heap := h', toks := tk' }) :
   wpAny (model prog w) (callerA.deeper (lawEnv L fa cd)) (exec (turnBody.getD 5 passS) (lawEnv L fa cd)) Q E s := by
  with_unfolding_all show wpAny _ (callerA.deeper (envOfC _ ⟨_, _, _, _, _⟩ _ _ _)) (exec (Stmt.Assign _ _ _) (envOfC _ ⟨_, _, _, _, _⟩ _ _ _)) _ _ _
  obtain ⟨⟨A1, B1⟩, F1, XB1, N1, ⟨p1, loose1, mean1, mg1, mb1, TB1⟩, D1, hk1⟩ := id C
  have X1 := XB1.keeps B1.stays
  have T1 := TB1.keeps B1.stays
  have hlw1 : (lw, listOf lv.toArray ln) ∈ LedOf w H nd rest := List.mem_append_right _ (List.mem_append_right _ hlw)
  have htb1 : (tb, listOf tv.toArray tn) ∈ LedOf w H nd rest := List.mem_append_right _ (List.mem_append_right _ hLS.hTb)
  have hrows1 : RowsIn (LedOf w H nd rest) tv rows := rows_mono (fun p hp => List.mem_append_right _ (List.mem_append_right _ hp)) hLS.hRows
  obtain ⟨oW, hW, eW⟩ := hcw
  have hW1 : (L + 1 + 1, oW) ∈ LedOf w H nd rest := List.mem_append_right _ (List.mem_append_right _ hW)
  have htvl := rows_len hrows1
  have hlen := strs_len hlv
  have hz1 : lv.length ≤ 1000 := by omega
  have hsub : ∀ p ∈ rest, p ∈ LedOf w H nd rest := fun p hp => List.mem_append_right _ (List.mem_append_right _ hp)
  have hnew := @LS.newTable prog w L H nd P O ks rest rk rv rn R tb tv tn rows
  generalize hled : LedOf w H nd rest = led at *
  k_steps
  refine Stop.off ?_
  k_dflt (refine LCt.ListComp_T (F₀ := by k_asm) (by with_unfolding_all rfl) (by decide) (by rfl) (by decide) (by rfl) ?_)
  k_steps
  rename News _ _ _ _ => N2
  rename Fr _ _ _ _ => F2
  k_dflt (refine LCt.CompSrcT.ledger (by rfl) F2 N2 htb1 (by rw [sizeLine_eq, List.size_toArray]; omega) (fun _ => restT_ind (fun i ys nx => (∀ p ∈ led, p ∈ nx) ∧ RowsIn rest ys ((rows.take i).filter fun r => !decide (r.1 = ws))) ?_ ?_ _ 0 _ _ (Nat.zero_add _) ⟨fun p hp => hp, .nil⟩))
  rotate_left
  · rintro i ys nx v I' oI' C' oC' D' m₂ h' tk' E' hi ⟨hnx, hys⟩ hv' hC' hxv F N off ne
    obtain ⟨r, hri, ra, wa, wv, t1, u1, rfl, hA, hB, hC⟩ := rows_at hLS.hRows (by simpa using hv')
    have hA5 : (ra, tupO [.ref wa, .str r.2.1 t1, .str r.2.2 u1]) ∈ (I', oI') :: (C', oC') :: (D', LCg.lst ys) :: nx := .tail _ (.tail _ (.tail _ (hnx _ (hsub _ hA))))
    have hB5 : (wa, tupO wv) ∈ (I', oI') :: (C', oC') :: (D', LCg.lst ys) :: nx := .tail _ (.tail _ (.tail _ (hnx _ (hsub _ hB))))
    have hW5 : (L + 1 + 1, oW) ∈ (I', oI') :: (C', oC') :: (D', LCg.lst ys) :: nx := .tail _ (.tail _ (.tail _ (hnx _ hW1)))
    have hlw5 : (lw, listOf lv.toArray ln) ∈ (I', oI') :: (C', oC') :: (D', LCg.lst ys) :: nx := .tail _ (.tail _ (.tail _ (hnx _ hlw1)))
    have hwl := strs_len hC
    have hrok := hok r (List.mem_of_getElem? hri)
    have hwz : wv.length ≤ 1000 := by omega
    have hnext : rows.take (i + 1) = rows.take i ++ [r] := by rw [List.take_add_one, hri]; rfl
    k_steps
    refine Stop.off ?_
    rename News _ _ _ _ => N6
    rename Fr _ _ _ _ => F6
    k_dflt (refine kde_tupleOf F6 N6 (PySem.IsL.isList (n := ln) (N6 _ hlw5).1) (by rw [List.size_toArray]; omega) rfl ?_)
    intro D2 h6 F7 N7 hD2
    clear F6 N6
    k_steps
    refine Stop.off ?_
    k_dflt (refine ne_strsT N7 (.tail _ hB5) (.head _) hC hlv (okWs_strs hrok.1) (okWs_strs hws) (by show 4 + 3 + 64 < cLine; decide) ?_)
    by_cases hrq : r.1 = ws
    · rw [decide_eq_true hrq]
      k_steps
      refine LCg.CompEnd.intro (by assumption) (by assumption) nx (fun p hp => .tail _ hp) off (.inr ⟨_, hnx _ htb1, rfl, _, rfl⟩) ⟨hnx, ?_⟩
      rw [hnext, List.filter_append, List.filter_cons, if_neg (by rw [decide_eq_true hrq]; decide)]
      simpa using hys
    · rw [decide_eq_false hrq]
      k_steps
      refine LCg.CompEnd.intro (by assumption) (by assumption) nx (fun p hp => .tail _ hp) off (.inr ⟨_, hnx _ htb1, rfl, _, rfl⟩) ⟨hnx, ?_⟩
      rw [hnext, List.filter_append, List.filter_cons, if_pos (by rw [decide_eq_false hrq]; decide)]
      exact rows_app hys (.cons ⟨ra, wa, wv, t1, u1, rfl, hA, hB, hC⟩ .nil)
  · rintro ys nx ⟨hnx, hys⟩ D h3 tk3 F3 N3 off2
    rw [List.size_toArray, List.take_of_length_le (Nat.le_of_eq htvl.symm)] at hys
    clear F2 N2
    dsimp only
    try k_fold
    have hysl : ys.length ≤ 10 := by rw [rows_len hys]; exact Nat.le_trans (List.length_filter_le _ _) hrl
    have hW5 : (L + 1 + 1, oW) ∈ (D, LCg.lst ys) :: nx := .tail _ (hnx _ hW1)
    have hlw5 : (lw, listOf lv.toArray ln) ∈ (D, LCg.lst ys) :: nx := .tail _ (hnx _ hlw1)
    k_steps
    refine Stop.off ?_
    rename News _ _ _ _ => N6
    rename Fr _ _ _ _ => F6
    k_dflt (refine kde_tupleOf F6 N6 (PySem.IsL.isList (n := ln) (N6 _ hlw5).1) (by rw [List.size_toArray]; omega) rfl ?_)
    intro D2 h6 F7 N7 hD2
    clear F6 N6
    have fin : ∀ (h9 : Heap) (tk9 : Nat) (m9 : Str → Option Value) (l' D3 D' : Addr) (ol : Obj) (u : Tok), Fr base L h9 m9 → News base L h9 ((D3, listOf (ys ++ [Value.ref D']).toArray 0) :: (l', ol) :: (D', tupO [.ref D2, .str x tx, .str y u]) :: (D2, tupO lv) :: (D, LCg.lst ys) :: nx) → D2 < D' → D' < D3 → m9 "table" = some (.ref D3) → (∀ z : Str, z ≠ "table" → m9 z = m z) → Q .next { s with heap := h9, toks := tk9 } := fun h9 tk9 m9 l' D3 D' ol u F9 N9 hd1 hd2 he1 he2 => by
      obtain ⟨hLS', hne', hsub'⟩ := hnew hLS hlv hys (fun p hp => hD2 p (.tail _ (hnx _ (hled ▸ hp)))) hd1 hd2 x y tx u
      refine hQ h9 tk9 m9 _ D3 _ 0 ⟨⟨_, B1⟩, F9, XB1, fun p hp => N9 p ?_, ⟨_, _, _, _, _, TB1⟩, D1, hk1⟩ hLS' (fun p hp => .tail _ (.tail _ (.tail _ hp))) he1 hne' he2
      rcases hsub' p hp with rfl | rfl | rfl | hp
      · exact .head _
      · exact .tail _ (.tail _ (.head _))
      · exact .tail _ (.tail _ (.tail _ (.head _)))
      · exact .tail _ (.tail _ (.tail _ (.tail _ (.tail _ (hnx _ (hled ▸ hp))))))
    rcases hval with ⟨rfl, rfl⟩ | ⟨u, rfl, hy0, hy1, hyo⟩
    · k_steps
      refine Stop.off ?_
      rename News _ _ _ _ => N8
      rename Fr _ _ _ _ => F8
      rename_i l9 _ hl9
      k_dflt (refine add_L (us := [_]) F8 N8 (.tail _ (.tail _ (.tail _ (.head _)))) (.head _) (by simp only [List.length_singleton]; omega) ?_)
      intro D3 h9 F9 N9 hD3
      clear F8 N8
      k_steps
      rename News _ _ _ _ => N10
      rename Fr _ _ _ _ => F10
      exact fin _ _ _ _ _ _ _ _ F10 N10 (by rename D2 < _ ∧ D < _ ∧ AllLt _ nx => kk; exact kk.1) (hD3 _ (.tail _ (.head _))) rfl fun z hz => if_neg hz
    · k_steps
      rotate_left
      · exfalso; omega
      refine Stop.off ?_
      rename News _ _ _ _ => N8
      rename Fr _ _ _ _ => F8
      k_dflt (refine add_L (us := [_]) F8 N8 (.tail _ (.tail _ (.tail _ (.head _)))) (.head _) (by simp only [List.length_singleton]; omega) ?_)
      intro D3 h9 F9 N9 hD3
      clear F8 N8
      k_steps
      rename News _ _ _ _ => N10
      rename Fr _ _ _ _ => F10
      exact fin _ _ _ _ _ _ _ _ F10 N10 (by rename D2 < _ ∧ D < _ ∧ AllLt _ nx => kk; exact kk.1) (hD3 _ (.tail _ (.head _))) rfl fun z hz => if_neg hz
end
end Mine
end
section
theorem Mine.switch_S16 : True := by
  w_top off
  trivial
open Lean Elab Tactic Meta PySem PySem.W PySem.Calls PyProof.Rows
set_option pp.deepTerms false
set_option pp.maxSteps 800
set_option pp.deepTerms.threshold 5
namespace Mine
local macro_rules | `(tactic| walk_at "exec For Name Name cons nil") => `(tactic| (refine Mine.Stop.on ?_))
local macro_rules | `(tactic| walk_at "exec For Name Call cons nil") => `(tactic| (refine Mine.Stop.on ?_))
local macro_rules | `(tactic| walk_at "exec Assign cons ListComp") => `(tactic| (refine Mine.Stop.on ?_))
local macro_rules | `(tactic| walk_at "LeaveC") => `(tactic| fail "here")
local macro_rules | `(tactic| k_room) => `(tactic| first | ktr_room | ((simp only [Mine.mark_depth, depth_under_make, depth_under_kw, depth_in1, depth_deeper, depth_caller]); (try dsimp only [ktrTop]); (try simp only [recursionLimit] at *); omega))
local macro_rules | `(tactic| k_all) => `(tactic| first | assumption | exact Mine.offLt (by assumption) | exact Mine.offLt2 (by assumption) (by assumption) | (refine List.forall_mem_append.mpr ⟨?a, ?b⟩; (case a => k_all); (case b => k_all)))
local macro_rules | `(tactic| walk_at "setItem ref str") => `(tactic| (k_here; k_dflt (refine' kda_setB (knd := PySem.strKind _ _) ?F ?N ?hm ?d (strKind_is _ _ _ _) ?z ?_; (case F => k_asm); (case N => k_asm); (case hm => k_mem); (case d => k_asm); (case z => k_asm)); intro h' o' F' N' hd'))
local macro_rules | `(tactic| walk_at "compareOp Is str ref") => `(tactic| (k_here; refine wpAny_is_other (by rfl) (by intro x; cases x) ?_))
local macro_rules | `(tactic| k_mem) => `(tactic| assumption)
local macro_rules | `(tactic| walk_at "eval Name") => `(tactic| (k_here; (with_reducible show wpAny _ _ (eval (Expr.Name _ _) (envOf _ _ _ _ _)) _ _ _); k_dflt (refine' ld ?k1 ?k2 ?_; (case k1 => k_asm); (case k2 => first | exact rfl | assumption); k_whole)))
local macro_rules | `(tactic| walk_at "eval Name") => `(tactic| (k_here; (with_reducible show wpAny _ _ (eval (Expr.Name _ _) (envOfC _ _ _ _ _)) _ _ _); k_dflt (refine' nameX_L ?F ?v ?_ ?a ?b; (case F => k_asm); (case a => rfl); (case b => rfl); (case v => first | rfl | assumption); k_whole)))
local macro_rules | `(tactic| walk_at "call builtin:len") => `(tactic| (k_here; (with_reducible show wpAny _ _ (call (Value.builtin "len") [Value.ref _]) _ _ _); k_dflt (first | refine len_L (by k_asm) (by k_mem) (by omega) ?_ | refine len_T (by k_asm) (by k_mem) (by omega) ?_)))
local macro_rules | `(tactic| walk_at "subscriptTail") => `(tactic| (k_here; (with_reducible show wpAny _ _ (subscriptTail _ (PySem.Expr.Slice _ _ _ _) (Value.ref _) (Value.ref _)) _ _ _); refine Mine.Stop.on ?_))
local macro_rules | `(tactic| walk_at "compareOp Eq ref ref") => `(tactic| (refine Mine.Stop.on ?_))
local macro_rules | `(tactic| walk_at "compareOp NotEq ref ref") => `(tactic| (refine Mine.Stop.on ?_))
local macro_rules | `(tactic| walk_at "call type:list") => `(tactic| (k_here; k_dflt (refine list_of_tuple (by k_asm) (by k_asm) (by k_mem) (by omega) ?_); intro D' c' h' F' N' l1; (try k_sweep)))
local macro_rules | `(tactic| walk_at "call ref") => `(tactic| ((with_reducible show wpAny _ _ (call (Value.ref 294) _) _ _ _); refine Mine.Stop.on ?_))
local macro_rules | `(tactic| walk_at "call ref") => `(tactic| ((with_reducible show wpAny _ _ (call (Value.ref 299) _) _ _ _); refine Mine.Stop.on ?_))
local macro_rules | `(tactic| walk_at "call ref") => `(tactic| ((with_reducible show wpAny _ _ (call (Value.ref 306) _) _ _ _); refine Mine.Stop.on ?_))
local macro_rules | `(tactic| walk_at "call ref") => `(tactic| ((with_reducible show wpAny _ _ (call (Value.ref 313) _) _ _ _); refine Mine.Stop.on ?_))
local macro_rules | `(tactic| walk_at "call ref") => `(tactic| ((with_reducible show wpAny _ _ (call (Value.ref 97) _) _ _ _); refine Mine.Stop.on ?_))
local macro_rules | `(tactic| walk_at "call ref") => `(tactic| ((with_reducible show wpAny _ _ (call (Value.ref 138) _) _ _ _); refine Mine.Stop.on ?_))
local macro_rules | `(tactic| walk_at "call ref") => `(tactic| ((with_reducible show wpAny _ _ (call (Value.ref 145) _) _ _ _); refine Mine.Stop.on ?_))
local macro_rules | `(tactic| walk_at "call ref") => `(tactic| ((with_reducible show wpAny _ _ (call (Value.ref 110) _) _ _ _); refine Mine.Stop.on ?_))
local macro_rules | `(tactic| walk_at "call ref") => `(tactic| ((with_reducible show wpAny _ _ (call (Value.ref 131) _) _ _ _); refine Mine.Stop.on ?_))
local macro_rules | `(tactic| walk_at "call ref") => `(tactic| ((with_reducible show wpAny _ _ (call (Value.ref 117) _) _ _ _); refine Mine.Stop.on ?_))
local macro_rules | `(tactic| walk_at "call ref") => `(tactic| ((with_reducible show wpAny _ _ (call (Value.ref 124) _) _ _ _); refine Mine.Stop.on ?_))
local macro_rules | `(tactic| walk_at "exec For") => `(tactic| (refine Mine.Stop.on ?_))
local macro_rules | `(tactic| walk_at "binaryOp Add ref ref") => `(tactic| (refine Mine.Stop.on ?_))
local macro_rules | `(tactic| walk_at "exec Assign cons IfExp") => `(tactic| (refine Mine.Stop.on ?_))
local macro_rules | `(tactic| walk_at "exec Assign cons BinOp") => `(tactic| (refine Mine.Stop.on ?_))
local macro_rules | `(tactic| walk_at "storeName") => `(tactic| (k_here; (with_reducible show wpAny _ _ (storeName _ (Str.ofString "words") _) _ _ _); refine Mine.Stop.on ?_))
def RI (o : Obj) : Prop := o.cls = .type "range_iterator" ∧ ∀ v, o.data ≠ .cell v
theorem fr_abs {h₀ h : Heap} {L : Addr} {m : Str → Option Value} {P : Prop} (F : Fr h₀ L h m) (k : ∀ m', m' = m → Fr h₀ L h m' → P) : P := k m rfl F
theorem strOk_ascii {x : Str} (h : x.cps.all (· < 128) = true) : PyData.strOk x = true := by
  unfold PyData.strOk
  rw [Array.all_eq_true_iff_forall_mem] at h ⊢
  intro c hc
  have := of_decide_eq_true (h c hc)
  exact decide_eq_true (by omega)
theorem addKnown_len (ws : List Str) : ∀ ks : List Str, (ws.foldl addKnown ks).length ≤ ks.length + ws.length := by
  induction ws with
  | nil => intro ks; exact Nat.le_refl _
  | cons x r ih =>
    intro ks
    have h1 := ih (addKnown ks x)
    have h2 : (addKnown ks x).length ≤ ks.length + 1 := by unfold addKnown; split <;> simp
    simp only [List.foldl_cons, List.length_cons]; omega
theorem allLt_at {d : Nat} {l : List (Addr × Obj)} (h : AllLt d l) : ∀ p ∈ l, p.1 < d := by
  induction l with
  | nil => intro p hp; cases hp
  | cons a r ih =>
    intro p hp
    rcases List.mem_cons.mp hp with rfl | hp
    · exact h.1
    · exact ih h.2 p hp
structure TurnSt (prog : Program) (w : World) (L : Addr) (sl : Addr) (m : Str → Option Value) (i : Nat) (H : TrieHd) (nd : List Nd) (P : List (List Str)) (O : List (Option (Str × Str))) (ks : List Str) (rest : List (Addr × Obj)) (rk : Addr) (rv : List Value) (rn : Nat) (tb : Addr) (tv : List Value) (tn : Nat) (rows : List Row) : Prop where
  ls : LS prog w L H nd P O ks rest rk rv rn P tb tv tn rows
  inv : Inv rows P O
  ok : ∀ r ∈ rows, PyData.strOk r.2.1 = true ∧ PyData.strOk r.2.2 = true
  l1 : rows.length ≤ i
  l2 : P.length ≤ 1 + 3 * i
  l3 : ks.length ≤ 3 * i
  m1 : m "trie" = some (.ref H.tr)
  m2 : m "table" = some (.ref tb)
  m3 : m "script" = some (.ref sl)
  ne : tb ≠ rk
  ne0 : 1 ≤ i → rows ≠ []
section
variable {prog : Program} {w : World} {base : Heap} {L fa : Addr} {cd : Value} {m : Str → Option Value} {s : Shared} {Q : Flow → Shared → Prop} {E : Value → Shared → Prop} {H : TrieHd} {nd : List Nd} {P : List (List Str)} {O : List (Option (Str × Str))} {ks : List Str} {rest : List (Addr × Obj)} {rk : Addr} {rv : List Value} {rn : Nat} {R : List (List Str)} {tb : Addr} {tv : List Value} {tn : Nat} {rows : List Row}
set_option maxRecDepth 100000
set_option maxHeartbeats 8000000
theorem LS.added {H' : TrieHd} {nd' : List Nd} {P' : List (List Str)} {O' : List (Option (Str × Str))} {ks' : List Str} {e : Addr × Obj} (h : LS prog w L H nd P O ks rest rk rv rn R tb tv tn rows) (T : TrieS prog w 44 171 71 H' nd' P' O' ks' (e :: rest)) : LS prog w L H' nd' P' O' ks' (e :: rest) rk rv rn R tb tv tn rows := by
  obtain ⟨oR, hR, eR⟩ := h.cR
  obtain ⟨vW, oW, hW, eW⟩ := h.cW
  obtain ⟨vK, oK, hK, eK⟩ := h.cK
  obtain ⟨vS, oS, hS, eS⟩ := h.cS
  exact ⟨T, ⟨oR, .tail _ hR, eR⟩, ⟨vW, oW, .tail _ hW, eW⟩, ⟨vK, oK, .tail _ hK, eK⟩, ⟨vS, oS, .tail _ hS, eS⟩, .tail _ h.t1, .tail _ h.t2, .tail _ h.t3, .tail _ h.t4, .tail _ h.hTb, rows_mono (fun _ hp => .tail _ hp) h.hRows, .tail _ h.hRk, paths_mono (fun _ hp _ => .tail _ hp) h.hRanks⟩
theorem LS.news {A1 A2 A3 A4 : Addr} {o1 o2 o3 o4 : Obj} (h : LS prog w L H nd P O ks rest rk rv rn R tb tv tn rows) (h1 : ∀ p ∈ LedOf w H nd rest, p.1 ≠ A1) (h2 : ∀ p ∈ (A1, o1) :: LedOf w H nd rest, p.1 ≠ A2) (h3 : ∀ p ∈ (A2, o2) :: (A1, o1) :: LedOf w H nd rest, p.1 ≠ A3) (h4 : ∀ p ∈ (A3, o3) :: (A2, o2) :: (A1, o1) :: LedOf w H nd rest, p.1 ≠ A4) :
    LS prog w L H nd P O ks ((A4, o4) :: (A3, o3) :: (A2, o2) :: (A1, o1) :: rest) rk rv rn R tb tv tn rows ∧ ∀ p ∈ LedOf w H nd ((A4, o4) :: (A3, o3) :: (A2, o2) :: (A1, o1) :: rest), p ∈ (A4, o4) :: (A3, o3) :: (A2, o2) :: (A1, o1) :: LedOf w H nd rest := by
  have s1 : ∀ p ∈ LedOf w H nd ((A1, o1) :: rest), p ∈ (A1, o1) :: LedOf w H nd rest := fun p hp => new3 p hp
  have a1 : Apart (LedOf w H nd ((A1, o1) :: rest)) := apart_new h.trie.apart h1
  have s2 : ∀ p ∈ LedOf w H nd ((A2, o2) :: (A1, o1) :: rest), p ∈ (A2, o2) :: (A1, o1) :: LedOf w H nd rest := fun p hp => by
    rcases List.mem_cons.mp (new3 p hp) with e | hp
    · exact e ▸ .head _
    · exact .tail _ (s1 p hp)
  have a2 : Apart (LedOf w H nd ((A2, o2) :: (A1, o1) :: rest)) := apart_new a1 fun p hp => h2 p (s1 p hp)
  have s3 : ∀ p ∈ LedOf w H nd ((A3, o3) :: (A2, o2) :: (A1, o1) :: rest), p ∈ (A3, o3) :: (A2, o2) :: (A1, o1) :: LedOf w H nd rest := fun p hp => by
    rcases List.mem_cons.mp (new3 p hp) with e | hp
    · exact e ▸ .head _
    · exact .tail _ (s2 p hp)
  have a3 : Apart (LedOf w H nd ((A3, o3) :: (A2, o2) :: (A1, o1) :: rest)) := apart_new a2 fun p hp => h3 p (s2 p hp)
  have a4 : Apart (LedOf w H nd ((A4, o4) :: (A3, o3) :: (A2, o2) :: (A1, o1) :: rest)) := apart_new a3 fun p hp => h4 p (s3 p hp)
  refine ⟨h.more (fun p hp => .tail _ (.tail _ (.tail _ (.tail _ hp)))) a4, fun p hp => ?_⟩
  rcases List.mem_cons.mp (new3 p hp) with e | hp
  · exact e ▸ .head _
  · exact .tail _ (s3 p hp)
theorem LS.newsN {hh : Heap} {A1 A2 A3 A4 A5 : Addr} {o1 o2 o3 o4 o5 : Obj} {led : List (Addr × Obj)} (h : LS prog w L H nd P O ks rest rk rv rn R tb tv tn rows) (N : News base L hh ((A4, o4) :: (A3, o3) :: (A2, o2) :: (A5, o5) :: (A1, o1) :: led)) (hl : LedOf w H nd rest = led)
    (h1 : ∀ p ∈ led, p.1 < A1) (h2 : ∀ p ∈ (A5, o5) :: (A1, o1) :: led, p.1 < A2) (h3 : ∀ p ∈ (A2, o2) :: (A5, o5) :: (A1, o1) :: led, p.1 ≠ A3) (h4 : A3 < A4 ∧ A2 < A4 ∧ A5 < A4 ∧ A1 < A4 ∧ AllLt A4 led) :
    LS prog w L H nd P O ks ((A4, o4) :: (A3, o3) :: (A2, o2) :: (A1, o1) :: rest) rk rv rn R tb tv tn rows ∧ News base L hh (LedOf w H nd ((A4, o4) :: (A3, o3) :: (A2, o2) :: (A1, o1) :: rest)) := by
  subst hl
  obtain ⟨g1, g2, g3, g4, g5⟩ := h4
  obtain ⟨k1, k2⟩ := h.news (o1 := o1) (o2 := o2) (o3 := o3) (o4 := o4) (A1 := A1) (A2 := A2) (A3 := A3) (A4 := A4) (fun p hp => Nat.ne_of_lt (h1 p hp)) (fun p hp => by
      rcases List.mem_cons.mp hp with rfl | hp
      · exact Nat.ne_of_lt (h2 _ (.tail _ (.head _)))
      · exact Nat.ne_of_lt (h2 p (.tail _ (.tail _ hp)))) (fun p hp => by
      rcases List.mem_cons.mp hp with rfl | hp
      · exact h3 _ (.head _)
      rcases List.mem_cons.mp hp with rfl | hp
      · exact h3 _ (.tail _ (.tail _ (.head _)))
      · exact h3 p (.tail _ (.tail _ (.tail _ hp)))) (fun p hp => by
      rcases List.mem_cons.mp hp with rfl | hp
      · exact Nat.ne_of_lt g1
      rcases List.mem_cons.mp hp with rfl | hp
      · exact Nat.ne_of_lt g2
      rcases List.mem_cons.mp hp with rfl | hp
      · exact Nat.ne_of_lt g4
      · exact Nat.ne_of_lt (allLt_at g5 p hp))
  refine ⟨k1, fun p hp => N p ?_⟩
  rcases List.mem_cons.mp (k2 p hp) with rfl | hp
  · exact .head _
  rcases List.mem_cons.mp hp with rfl | hp
  · exact .tail _ (.head _)
  rcases List.mem_cons.mp hp with rfl | hp
  · exact .tail _ (.tail _ (.head _))
  · exact .tail _ (.tail _ (.tail _ (.tail _ hp)))
theorem turn_spec {sl : Addr} {sv : List Value} {ns : List Int} {i : Nat} {t : Tok} (C : Cx (Mine.hd.heap_39 w.params) lawScope [] base base L s.heap m (LedOf w H nd rest)) (T : TurnSt prog w L sl m i H nd P O ks rest rk rv rn tb tv tn rows)
   (hi : i ≤ 4) (hm : m "turn" = some (.int i t)) (hS : base.IsList sl sv.toArray) (hIn : IntsAre sv ns) (hl : ns.length ≤ 63)
   (hE : PassesOwn (model prog w) (callerA.deeper (lawEnv L fa cd)) (lawEnv L fa cd) E)
   (hQ : ∀ h' tk' m' H' nd' P' O' ks' rest' rv' rn' tb' tv' tn' rows', Cx (Mine.hd.heap_39 w.params) lawScope [] base base L h' m' (LedOf w H' nd' rest') → TurnSt prog w L sl m' (i + 1) H' nd' P' O' ks' rest' rk rv' rn' tb' tv' tn' rows' → (∀ p ∈ rest, RI p.2 → p ∈ rest') → Q .next { s with heap := h', toks := tk' }) :
   wpAny (model prog w) (callerA.deeper (lawEnv L fa cd)) (execs turnBody (lawEnv L fa cd)) Q E s := by
  with_unfolding_all show wpAny _ (callerA.deeper (envOfC _ ⟨_, _, _, _, _⟩ _ _ _)) (execs (Stmt.Assign _ _ _ :: _) (envOfC _ ⟨_, _, _, _, _⟩ _ _ _)) _ _ _
  obtain ⟨hLS, hI, hX, hl1, hl2, hl3, hm1, hm2, hm3, hne, -⟩ := T
  obtain ⟨⟨A1, B1⟩, F1, XB1, N1, ⟨p1, loose1, mean1, mg1, mb1, TB1⟩, D1, hk1⟩ := id C
  have X1 := XB1.keeps B1.stays
  have T1 := TB1.keeps B1.stays
  obtain ⟨vW, oW, hW, eW⟩ := hLS.cW
  have hW1 : (L + 1 + 1, oW) ∈ LedOf w H nd rest := List.mem_append_right _ (List.mem_append_right _ hW)
  k_steps
  refine Stop.off ?_
  have ei : 2 * (i : Int) + 1 = ((2 * i + 1 : Nat) : Int) := by omega
  rw [ei]
  k_dflt (refine key_spec ⟨⟨_, B1⟩, by assumption, XB1, by assumption, ⟨_, _, _, _, _, TB1⟩, D1, hk1⟩ ?_ ?_ hS hIn hl (by omega) ?_)
  · decide
  · decide
  intro h2 tk2 lw lv ln C2 hlw hlv
  have F2 := C2.F
  have N2 := C2.N
  clear F1 N1
  k_steps
  refine Stop.off ?_
  have ei2 : 2 * (i : Int) + 2 = ((2 * i + 2 : Nat) : Int) := by omega
  rw [ei2]
  k_dflt (refine cell_spec ⟨⟨_, B1⟩, by assumption, XB1, by assumption, ⟨_, _, _, _, _, TB1⟩, D1, hk1⟩ ?_ ?_ hS hIn hl (by omega) ?_)
  · decide
  · decide
  intro h3 tk3 t3 C3
  have F3 := C3.F
  have N3 := C3.N
  clear F2 N2
  have hc1 := cell_lt ns (2 * i + 1) (by omega)
  have hc2 := cell_lt ns (2 * i + 2) (by omega)
  generalize cell ns (2 * i + 1) = ck at *
  generalize cell ns (2 * i + 2) = cc at *
  have hlw4 : (lw, listOf lv.toArray ln) ∈ (lw, listOf lv.toArray ln) :: LedOf w H nd rest := .head _
  have hW4 : (L + 1 + 1, oW) ∈ (lw, listOf lv.toArray ln) :: LedOf w H nd rest := .tail _ hW1
  generalize hled3 : (lw, listOf lv.toArray ln) :: LedOf w H nd rest = led3 at *
  k_steps
  refine Stop.off ?_
  rename News _ _ _ _ => N4
  rename Fr _ _ _ _ => F4
  refine storeX_C F4 (news_but N4 (.tail _ hW4)) (by rfl) (UpdF.head but_off) eW ?_
  intro h5 oW5 F5 N5 eW5
  clear F4 N4
  k_steps
  refine Stop.off ?_
  rename News _ _ _ _ => N6
  rename Fr _ _ _ _ => F6
  have hapn : Apart (LedOf w H nd ((lw, listOf lv.toArray ln) :: rest)) := apart_new hLS.trie.apart hlw
  have hLS1 := (hLS.more (fun p hp => .tail _ hp) hapn).store (.tail _ hW) eW eW5 (Nat.ne_of_gt (Nat.lt_succ_self _))
  have hlwW : lw ≠ L + 1 + 1 := (hlw _ hW1).symm
  have hsub1 : ∀ e : Addr × Obj, ∀ p ∈ LedOf w H nd ((L + 1 + 1, oW5) :: but (L + 1 + 1) ((lw, listOf lv.toArray ln) :: rest)), p ∈ (L + 1 + 1, oW5) :: but (L + 1 + 1) (e :: led3) := fun e p hp => by
    rcases List.mem_cons.mp (put3 hapn (.tail _ hW) p hp) with rfl | hp
    · exact .head _
    · obtain ⟨a1, a2⟩ := mem_but.mp hp
      exact mem_put (.tail _ (hled3 ▸ new3 p a1)) a2
  replace N6 : News _ _ _ _ := fun p hp => N6 p (hsub1 _ p hp)
  have hlw6 : (lw, listOf lv.toArray ln) ∈ (L + 1 + 1, oW5) :: but (L + 1 + 1) ((lw, listOf lv.toArray ln) :: rest) := mem_put (.head _) hlwW
  have hcw6 : CellIs ((L + 1 + 1, oW5) :: but (L + 1 + 1) ((lw, listOf lv.toArray ln) :: rest)) (L + 1 + 1) (some (.ref lw)) := ⟨_, .head _, eW5⟩
  have hri6 : ∀ p ∈ rest, RI p.2 → p ∈ (L + 1 + 1, oW5) :: but (L + 1 + 1) ((lw, listOf lv.toArray ln) :: rest) := fun p hp hc => mem_put (.tail _ hp) fun e => by
    have := apart_eq hLS.rest_apart hp hW e
    exact hc.2 _ (by rw [this]; exact eW)
  clear hsub1 hled3 hlw4 hW4 C3 C2
  generalize (L + 1 + 1, oW5) :: but (L + 1 + 1) ((lw, listOf lv.toArray ln) :: rest) = rest1 at *
  obtain ⟨hkl, hk1', hk3'⟩ := key_len ck
  have hko := key_ok ck
  generalize keyOf ck = ws at *
  generalize keyN ck = wn at *
  subst hkl
  have hwne : ws ≠ [] := fun e => by rw [e] at hk1'; cases hk1'
  have hsum := sum_len hko
  k_dflt (refine text_spec (vs := lv) (n := ln) (ws := ws) ⟨⟨_, B1⟩, by assumption, XB1, by assumption, ⟨_, _, _, _, _, TB1⟩, D1, hk1⟩ ?_ ?_ (List.mem_append_right _ (List.mem_append_right _ hlw6)) hlv (by omega) ?_)
  · decide
  · decide
  intro h7 tk7 t7 C7
  have F7 := C7.F
  have N7 := C7.N
  clear F6 N6
  k_steps
  refine Stop.off ?_
  rename News _ _ _ _ => N8
  rename Fr _ _ _ _ => F8
  refine fr_abs F8 fun m8 hm8 F8 => ?_
  obtain ⟨bb, hmt⟩ : ∃ b, m8 "text" = some (.str (textOf ws b) t7) := ⟨_, (congrFun hm8 _).trans rfl⟩
  have hmn : m8 "number" = some (.int cc t3) := (congrFun hm8 _).trans rfl
  have hms : ∀ z : Str, z ≠ "text" → z ≠ "number" → m8 z = m z := fun z h1 h2 => by rw [hm8]; dsimp only; rw [if_neg h1, if_neg h2]
  clear hm8
  (with_unfolding_all refine value_spec (x := textOf ws bb) (c := cc) (t := t3) ⟨⟨_, B1⟩, F8, XB1, N8, ⟨_, _, _, _, _, TB1⟩, D1, hk1⟩ hmn hE ?_)
  intro h9 tk9 m9 y val C9 hval hm9 hsame9
  have F9 := C9.F
  have N9 := C9.N
  clear F8 N8
  dsimp only
  have hm9t : m9 "text" = some (.str (textOf ws bb) t7) := (hsame9 _ (by decide)).trans hmt
  have hm9r : m9 "trie" = some (.ref H.tr) := (hsame9 _ (by decide)).trans ((hms _ (by decide) (by decide)).trans hm1)
  k_steps
  refine Stop.off ?_
  have hx0 := text_ne hko hwne bb
  have hx1 := text_bound hko bb
  have hxa := text_ascii hko bb
  have hxw := words_of_text hko hwne bb
  have hxo : PyData.strOk (textOf ws bb) = true := strOk_ascii hxa
  have hyo : PyData.strOk y = true := by
    rcases hval with ⟨_, e⟩ | ⟨_, _, _, _, e⟩
    · rw [e]; exact hxo
    · exact e
  have hnO := hLS1.trie.ok
  have hoO := hLS1.trie.outs
  k_dflt (refine add_spec (y := y) (O := O) (ks := ks) ⟨⟨_, B1⟩, F9, XB1, N9, ⟨_, _, _, _, _, TB1⟩, D1, hk1⟩ ?_ ?_ (by omega) hx0 hxa (hval.imp id fun ⟨u, h1, h2, h3, _⟩ => ⟨u, h1, h2, h3⟩) hLS1.trie (by omega) (by omega) ?_)
  · decide
  · decide
  intro g10 h10 tk10 nd' okd' j ta tt u TT10 hj10 hroot10 C10 T10
  replace C10 := cx_home TT10 C9 C10
  clear TT10 F9 N9 C9
  rw [hxw] at hj10 T10
  have hLS2 := hLS1.added T10
  have hlen10 : (addAll P ws).length = P.length + (nd'.length - nd.length) := by
    have h1 := T10.ok.len
    have h2 := hnO.len
    have h3 : P.length ≤ (addAll P ws).length := by
      obtain ⟨l, hl⟩ := addAll_ext P ws
      rw [hl, List.length_append]; omega
    omega
  have hI2 := hI.put (xy := (textOf ws bb, y)) (hoO.len.trans hnO.len) hlen10 hj10 T10.ok.nodup hko hk1' hk3'
  have hPl := addFold_len ws (P, [])
  have hPok : ∀ p ∈ P, StrsOk p := fun p hp => by
    rcases (hI.mem p).mp hp with rfl | ⟨r, hr, e⟩
    · intro _ h; cases h
    · rw [← e]
      exact fun z hz => okWs_strs (hI.ok r hr).1 z (List.mem_of_mem_take hz)
  generalize nd'.length - nd.length = kk at *
  generalize addOut O kk j (textOf ws bb, y) = O' at *
  generalize hks' : ws.foldl addKnown ks = ks' at *
  have hksl : ks'.length ≤ ks.length + ws.length := hks' ▸ addKnown_len ws ks
  have F10 := C10.F
  have N10 := C10.N
  k_steps
  refine Stop.off ?_
  (with_unfolding_all refine ranks_spec (lw := lw) (lv := lv) (ln := ln) (ws := ws) ⟨⟨_, B1⟩, F10, XB1, N10, ⟨_, _, _, _, _, TB1⟩, D1, hk1⟩ hLS2 (.tail _ hlw6) hlv (let ⟨o, h1, h2⟩ := hcw6; ⟨o, .tail _ h1, h2⟩) hko hk3' (by omega) hPok hne (hlw (rk, _) (List.mem_append_right _ (List.mem_append_right _ hLS.hRk))).symm hE ?_)
  intro h11 tk11 m11 rest2 rv' rn' C11 hLS3 hkeep11 hsame11
  have F11 := C11.F
  have N11 := C11.N
  clear F10 N10
  dsimp only
  k_steps
  refine Stop.off ?_
  have hlk : lw ≠ rk := (hlw (rk, _) (List.mem_append_right _ (List.mem_append_right _ hLS.hRk))).symm
  have hlw11 := hkeep11 _ (.tail _ hlw6) hlk
  obtain ⟨oW6, hW6, eW6⟩ := hcw6
  have hW11 := hkeep11 _ (.tail _ hW6) (apart_ne2 hLS2.rest_apart (.tail _ hW6) hLS2.hRk (cell_not_list eW6 _ _))
  have hri11 : ∀ p ∈ rest, RI p.2 → p ∈ rest2 := fun p hp hr => hkeep11 p (.tail _ (hri6 p hp hr)) fun e => by
    have := apart_ne2 hLS2.rest_apart (.tail _ (hri6 p hp hr)) hLS2.hRk (fun e2 => by
      have h1 := hr.1
      rw [e2] at h1
      exact absurd (Value.type.inj h1) (by decide))
    exact this e
  have hm11t : m11 "text" = some (.str (textOf ws bb) t7) := (hsame11 _ (by decide)).trans hm9t
  have hm11v : m11 "value" = some val := (hsame11 _ (by decide)).trans hm9
  have hm11 : ∀ z : Str, z ≠ "text" → z ≠ "number" → z ≠ "value" → z ≠ "size" → m11 z = m z := fun z h1 h2 h3 h4 => by rw [hsame11 z h4, hsame9 z h3, hms z h1 h2]
  (with_unfolding_all refine table_spec (lw := lw) (lv := lv) (ln := ln) (ws := ws) (x := textOf ws bb) (y := y) (val := val) ⟨⟨_, B1⟩, F11, XB1, N11, ⟨_, _, _, _, _, TB1⟩, D1, hk1⟩ hLS3 hlw11 hlv ⟨oW6, hW11, eW6⟩ hko hk3' (by omega) (fun r hr => ⟨(hI.ok r hr).1, (hI.ok r hr).2.2⟩) hm11t hm11v hval ((hm11 _ (by decide) (by decide) (by decide) (by decide)).trans hm2) hE ?_)
  intro h12 tk12 m12 rest3 tb' tv' tn' C12 hLS4 hkeep12 hm12b hne12 hsame12
  have F12 := C12.F
  have N12 := C12.N
  clear F11 N11
  dsimp only
  have hlw12 := hkeep12 _ hlw11
  have hW12 := hkeep12 _ hW11
  have hsub12 : ∀ p ∈ rest3, p ∈ LedOf w { H with okd := okd' } nd' rest3 := fun p hp => List.mem_append_right _ (List.mem_append_right _ hp)
  have hlw13 := hsub12 _ hlw12
  have hW13 := hsub12 _ hW12
  have hm12 : ∀ z : Str, z ≠ "text" → z ≠ "number" → z ≠ "value" → z ≠ "size" → z ≠ "table" → m12 z = m z := fun z h1 h2 h3 h4 h5 => by rw [hsame12 z h5, hm11 z h1 h2 h3 h4]
  have hm12s : m12 "script" = some (.ref sl) := (hm12 _ (by decide) (by decide) (by decide) (by decide) (by decide)).trans hm3
  have hm12r : m12 "trie" = some (.ref H.tr) := (hm12 _ (by decide) (by decide) (by decide) (by decide) (by decide)).trans hm1
  have hm12t : m12 "turn" = some (.int i t) := (hm12 _ (by decide) (by decide) (by decide) (by decide) (by decide)).trans hm
  have hlvz : lv.length ≤ 1000 := by rw [strs_len hlv]; omega
  generalize hled12 : LedOf w { H with okd := okd' } nd' rest3 = led12 at *
  clear C12
  k_steps
  refine Stop.off ?_
  rename News _ _ _ _ => N13
  rename Fr _ _ _ _ => F13
  k_dflt (refine slice_list_upto (b := 1) F13 N13 hlw13 (by omega) ?_)
  intro A1' h14 F14 N14 hA1
  clear F13 N13
  k_steps
  refine Stop.off ?_
  rename News _ _ _ _ => N15
  rename Fr _ _ _ _ => F15
  k_dflt (refine add_L (us := [_]) F15 N15 (.tail _ (.tail _ hlw13)) (.head _) (by simp only [List.length_singleton]; omega) ?_)
  intro A2 h16 F16 N16 hA2
  clear F15 N15
  k_steps
  refine Stop.off ?_
  have ei3 : (i : Int) + 11 = ((i + 11 : Nat) : Int) := by omega
  rw [ei3]
  k_dflt (refine key_spec ⟨⟨_, B1⟩, by assumption, XB1, by assumption, ⟨_, _, _, _, _, TB1⟩, D1, hk1⟩ ?_ ?_ hS hIn hl (by omega) ?_)
  · decide
  · decide
  intro h17 tk17 A3 lv3 ln3 C17 hA3 hlv3
  have F17 := C17.F
  have N17 := C17.N
  clear F16 N16 C17
  have hc3 := cell_lt ns (i + 11) (by omega)
  generalize cell ns (i + 11) = c3 at *
  k_steps
  refine Stop.off ?_
  rename News _ _ _ _ => N18
  rename Fr _ _ _ _ => F18
  rename A3 < _ ∧ A2 < _ ∧ _ < _ ∧ A1' < _ ∧ AllLt _ led12 => hA4
  obtain ⟨hkl3, hk31, hk33⟩ := key_len c3
  have hko3 := key_ok c3
  generalize keyOf c3 = ws3 at *
  obtain ⟨hLS5, N19⟩ := hLS4.newsN N18 hled12 hA1 hA2 hA3 hA4
  have hko2 : OkWs (ws ++ [Str.ofString "mit"]) := fun z hz => by
    rcases List.mem_append.mp hz with hz | hz
    · exact hko z hz
    · rw [List.mem_singleton.mp hz]; exact menu_ok _ (by decide)
  have hrl' : (putRow rows ws (textOf ws bb, y)).length ≤ i + 1 := by
    unfold putRow
    rw [List.length_append]
    have := List.length_filter_le (fun r : Row => !decide (r.1 = ws)) rows
    simp only [List.length_singleton]; omega
  have hX' : ∀ r ∈ putRow rows ws (textOf ws bb, y), PyData.strOk r.2.1 = true ∧ PyData.strOk r.2.2 = true := fun r hr => by
    rcases List.mem_append.mp hr with hr | hr
    · exact hX r (List.mem_filter.mp hr).1
    · rw [List.mem_singleton.mp hr]; exact ⟨hxo, hyo⟩
  have hri12 : ∀ p ∈ rest, RI p.2 → p ∈ rest3 := fun p hp hr => hkeep12 _ (hri11 p hp hr)
  (with_unfolding_all refine asked_spec (qs := [ws, ws.take 1, ws ++ [Str.ofString "mit"], ws3]) (it := i) (t := t) ⟨⟨_, B1⟩, F18, XB1, N19, ⟨_, _, _, _, _, TB1⟩, D1, hk1⟩ hLS5 hI2 (.head _) (.cons (.tail _ (.tail _ (.tail _ (.tail _ hlw12)))) hlv (.cons (.tail _ (.tail _ (.tail _ (.head _)))) (strs_take hlv 1) (.cons (.tail _ (.tail _ (.head _))) (strs_snoc hlv _ _) (.cons (.tail _ (.head _)) hlv3 .nil)))) ?_ rfl hm12t hm12r hm12b hX' (by show 4 ≤ 10; omega) (by omega) hE ?_)
  · intro q hq
    simp only [List.mem_cons, List.not_mem_nil, or_false] at hq
    rcases hq with rfl | rfl | rfl | rfl
    · exact ⟨hko, hk1', by omega⟩
    · exact ⟨fun z hz => hko z (List.mem_of_mem_take hz), by rw [List.length_take]; omega, by rw [List.length_take]; omega⟩
    · exact ⟨hko2, by rw [List.length_append]; omega, by rw [List.length_append]; simp only [List.length_singleton]; omega⟩
    · exact ⟨hko3, by omega, by omega⟩
  · intro h20 tk20 m13 rest5 C20 hLS6 hkeep13 hsame13
    dsimp only
    k_steps
    refine hQ h20 _ m13 _ nd' (addAll P ws) O' ks' rest5 rv' rn' tb' tv' tn' _ C20 ⟨hLS6, hI2, hX', hrl', ?_, by omega, ?_, ?_, ?_, hne12, fun _ => by unfold putRow; simp⟩ fun p hp hr => hkeep13 p (.tail _ (.tail _ (.tail _ (.tail _ (hri12 p hp hr))))) ?_
    · have : (addAll P ws).length ≤ P.length + ws.length := hPl
      omega
    · exact (hsame13 _ (by decide) (by decide)).trans hm12r
    · exact (hsame13 _ (by decide) (by decide)).trans hm12b
    · exact (hsame13 _ (by decide) (by decide)).trans hm12s
    · obtain ⟨vS, oS, hS5, eS5⟩ := hLS5.cS
      refine apart_ne2 hLS5.rest_apart (.tail _ (.tail _ (.tail _ (.tail _ (hri12 p hp hr))))) hS5 fun e => hr.2 vS (by rw [e]; exact eS5)
end
end Mine
end
section
theorem Mine.switch_S17 : True := by
  w_top off
  trivial
open Lean Elab Tactic Meta PySem PySem.W PySem.Calls PyProof.Rows
set_option pp.deepTerms false
set_option pp.maxSteps 800
set_option pp.deepTerms.threshold 5
namespace Mine
local macro_rules | `(tactic| walk_at "exec For Name Name cons nil") => `(tactic| (refine Mine.Stop.on ?_))
local macro_rules | `(tactic| walk_at "exec For Name Call cons nil") => `(tactic| (refine Mine.Stop.on ?_))
local macro_rules | `(tactic| walk_at "exec Assign cons ListComp") => `(tactic| (refine Mine.Stop.on ?_))
local macro_rules | `(tactic| walk_at "LeaveC") => `(tactic| fail "here")
local macro_rules | `(tactic| k_room) => `(tactic| first | ktr_room | ((simp only [Mine.mark_depth, depth_under_make, depth_under_kw, depth_in1, depth_deeper, depth_caller]); (try dsimp only [ktrTop]); (try simp only [recursionLimit] at *); omega))
local macro_rules | `(tactic| k_all) => `(tactic| first | assumption | exact Mine.offLt (by assumption) | exact Mine.offLt2 (by assumption) (by assumption) | (refine List.forall_mem_append.mpr ⟨?a, ?b⟩; (case a => k_all); (case b => k_all)))
local macro_rules | `(tactic| walk_at "setItem ref str") => `(tactic| (k_here; k_dflt (refine' kda_setB (knd := PySem.strKind _ _) ?F ?N ?hm ?d (strKind_is _ _ _ _) ?z ?_; (case F => k_asm); (case N => k_asm); (case hm => k_mem); (case d => k_asm); (case z => k_asm)); intro h' o' F' N' hd'))
local macro_rules | `(tactic| walk_at "compareOp Is str ref") => `(tactic| (k_here; refine wpAny_is_other (by rfl) (by intro x; cases x) ?_))
local macro_rules | `(tactic| k_mem) => `(tactic| assumption)
local macro_rules | `(tactic| walk_at "eval Name") => `(tactic| (k_here; (with_reducible show wpAny _ _ (eval (Expr.Name _ _) (envOf _ _ _ _ _)) _ _ _); k_dflt (refine' ld ?k1 ?k2 ?_; (case k1 => k_asm); (case k2 => first | exact rfl | assumption); k_whole)))
local macro_rules | `(tactic| walk_at "eval Name") => `(tactic| (k_here; (with_reducible show wpAny _ _ (eval (Expr.Name _ _) (envOfC _ _ _ _ _)) _ _ _); k_dflt (refine' nameX_L ?F ?v ?_ ?a ?b; (case F => k_asm); (case a => rfl); (case b => rfl); (case v => first | rfl | assumption); k_whole)))
local macro_rules | `(tactic| walk_at "call builtin:len") => `(tactic| (k_here; (with_reducible show wpAny _ _ (call (Value.builtin "len") [Value.ref _]) _ _ _); k_dflt (first | refine len_L (by k_asm) (by k_mem) (by omega) ?_ | refine len_T (by k_asm) (by k_mem) (by omega) ?_)))
local macro_rules | `(tactic| walk_at "subscriptTail") => `(tactic| (k_here; (with_reducible show wpAny _ _ (subscriptTail _ (PySem.Expr.Slice _ _ _ _) (Value.ref _) (Value.ref _)) _ _ _); refine Mine.Stop.on ?_))
local macro_rules | `(tactic| walk_at "compareOp Eq ref ref") => `(tactic| (refine Mine.Stop.on ?_))
local macro_rules | `(tactic| walk_at "compareOp NotEq ref ref") => `(tactic| (refine Mine.Stop.on ?_))
local macro_rules | `(tactic| walk_at "call type:list") => `(tactic| (k_here; k_dflt (refine list_of_tuple (by k_asm) (by k_asm) (by k_mem) (by omega) ?_); intro D' c' h' F' N' l1; (try k_sweep)))
local macro_rules | `(tactic| walk_at "call ref") => `(tactic| ((with_reducible show wpAny _ _ (call (Value.ref 294) _) _ _ _); refine Mine.Stop.on ?_))
local macro_rules | `(tactic| walk_at "call ref") => `(tactic| ((with_reducible show wpAny _ _ (call (Value.ref 299) _) _ _ _); refine Mine.Stop.on ?_))
local macro_rules | `(tactic| walk_at "call ref") => `(tactic| ((with_reducible show wpAny _ _ (call (Value.ref 306) _) _ _ _); refine Mine.Stop.on ?_))
local macro_rules | `(tactic| walk_at "call ref") => `(tactic| ((with_reducible show wpAny _ _ (call (Value.ref 313) _) _ _ _); refine Mine.Stop.on ?_))
local macro_rules | `(tactic| walk_at "call ref") => `(tactic| ((with_reducible show wpAny _ _ (call (Value.ref 97) _) _ _ _); refine Mine.Stop.on ?_))
local macro_rules | `(tactic| walk_at "call ref") => `(tactic| ((with_reducible show wpAny _ _ (call (Value.ref 138) _) _ _ _); refine Mine.Stop.on ?_))
local macro_rules | `(tactic| walk_at "call ref") => `(tactic| ((with_reducible show wpAny _ _ (call (Value.ref 145) _) _ _ _); refine Mine.Stop.on ?_))
local macro_rules | `(tactic| walk_at "call ref") => `(tactic| ((with_reducible show wpAny _ _ (call (Value.ref 110) _) _ _ _); refine Mine.Stop.on ?_))
local macro_rules | `(tactic| walk_at "call ref") => `(tactic| ((with_reducible show wpAny _ _ (call (Value.ref 131) _) _ _ _); refine Mine.Stop.on ?_))
local macro_rules | `(tactic| walk_at "call ref") => `(tactic| ((with_reducible show wpAny _ _ (call (Value.ref 117) _) _ _ _); refine Mine.Stop.on ?_))
local macro_rules | `(tactic| walk_at "call ref") => `(tactic| ((with_reducible show wpAny _ _ (call (Value.ref 124) _) _ _ _); refine Mine.Stop.on ?_))
local macro_rules | `(tactic| walk_at "exec For") => `(tactic| (refine Mine.Stop.on ?_))
local macro_rules | `(tactic| walk_at "execs cons") => `(tactic| (refine Mine.Stop.on ?_))
section
open PyProof
variable {prog : Program} {w : World} {A : Around} {E : Value → Shared → Prop} {s : Shared} {env : Env} {h₀ : Heap} {L : Addr} {target : PySem.Expr} {body : List Stmt} {Q : Flow → Shared → Prop}
theorem iter_rangeR {r : Addr} {a₀ b₀ : Int} {t₀ u₀ v₀ : Tok} {n : Nat} {m₀ : Str → Option Value} {news : List (Addr × Obj)} (J : Nat → (Str → Option Value) → List (Addr × Obj) → Prop)
    (hh : A.handled = none) (ho : ∀ I v, letOwnedTupleGo target (.ref I) v = pure ()) (hr : IsRange s.heap r a₀ b₀ 1 t₀ u₀ v₀) (hsmall : Builtin.Range.small a₀ b₀ 1 = true) (hn : Builtin.Range.rangeSize a₀ b₀ 1 = (n : Int)) (F : Fr h₀ L s.heap m₀) (N : News h₀ L s.heap news) (hj : J 0 m₀ news)
    (turn : ∀ i u m₁ news₁ I own h tk, i < n → J i m₁ news₁ → (∀ p ∈ own, p.1 = I) → (∀ p ∈ news₁, p.1 ≠ I) → (∃ o, (I, o) ∈ own ∧ RI o) →
      Fr h₀ L h m₁ → News h₀ L h (news₁ ++ own) →
      wpAny (model prog w) A (assign target env (.int (a₀ + (i : Int)) u)) (fun _ s' => wpAny (model prog w) A (execs body env) (TurnPost h₀ L I own (J (i + 1)) { s with heap := h, toks := tk } Q) E s') E { s with heap := h, toks := tk })
    (done : ∀ m₁ news₁ h tk, J n m₁ news₁ → Fr h₀ L h m₁ → News h₀ L h news₁ → Q .next { s with heap := h, toks := tk }) :
    wpAny (model prog w) A (pyIter (.ref r)) (fun it s₂ => LoopAtA prog w A h₀ L env target body Q E it s₂) E s := by
  refine wpAny_pyIter_range hr hsmall ?_
  have hnew := next_is_new F
  have W : Walks prog w A s.heap.objs.size [s.heap.objs.size] [s.heap.objs.size] n (fun i v => i < n ∧ ∃ t, v = .int (a₀ + i * 1) t)
      (fun i h => IsRangeIter h s.heap.objs.size (a₀ + (i : Nat) * 1) ((n : Int) - (i : Nat)) 1) := (Walks.range hh _ a₀ 1 n).bound
  refine loopA J W (ho _) (by show IsRangeIter _ _ _ _ _; rw [hn]; simpa using Heap.get?_push_size _ rfl) ?_ hnew ?_ (F.push _) (fun p hp => ⟨Heap.get?_push_of_some _ (N p hp).1, (N p hp).2⟩) hj ?_ ?_
  · intro hm; exact absurd F.ns.lt ((List.mem_singleton.mp hm) ▸ Nat.lt_irrefl _)
  · intro p hp hI; exact absurd (Heap.lt_size (N p hp).1) (hI ▸ Nat.lt_irrefl _)
  · rintro i v m₁ news₁ own h tk hi ⟨_, u, rfl⟩ hJ hown hoff hall hst F₁ N₁
    have e1 : a₀ + (i : Int) * 1 = a₀ + (i : Int) := by rw [Int.mul_one]
    rw [e1]
    exact turn i u m₁ news₁ _ own h tk hi hJ (fun p hp => List.mem_singleton.mp (hown p hp)) hoff ⟨_, hall _ (.head _) hnew _ hst, rfl, fun v e => by cases e⟩ F₁ N₁
  · intro m₁ news₁ h tk hJ _ F₁ N₁
    exact done m₁ news₁ h tk hJ F₁ N₁
end
section
variable {prog : Program} {w : World} {base : Heap} {L fa : Addr} {cd : Value} {m : Str → Option Value} {s : Shared} {Q : Flow → Shared → Prop} {E : Value → Shared → Prop} {H : TrieHd} {nd : List Nd} {P : List (List Str)} {O : List (Option (Str × Str))} {ks : List Str} {rest : List (Addr × Obj)} {rk : Addr} {rv : List Value} {rn : Nat} {R : List (List Str)} {tb : Addr} {tv : List Value} {tn : Nat} {rows : List Row}
theorem LS.less {c : Addr} {o : Obj} (h : LS prog w L H nd P O ks rest rk rv rn R tb tv tn rows) (hc : (c, o) ∈ rest) (hr : RI o) : LS prog w L H nd P O ks (but c rest) rk rv rn R tb tv tn rows := by
  have hap := h.rest_apart
  have keep : ∀ p ∈ rest, p.2 ≠ o → p ∈ but c rest := fun p hp hn => mem_but.mpr ⟨hp, fun e => hn (congrArg Prod.snd (apart_eq hap hp hc e))⟩
  have hcls : ∀ {q : Obj} {x : String}, q.cls = .type x → x ≠ "range_iterator" → q ≠ o := fun hq hx e => by
    have := hr.1
    rw [← e, hq] at this
    exact hx (Value.type.inj this)
  have keepT : ∀ p ∈ rest, (∃ vs, p.2 = tupO vs) → p ∈ but c rest := fun p hp ⟨vs, ht⟩ => keep p hp (ht ▸ hcls (x := "tuple") rfl (by decide))
  have keepC : ∀ {d : Addr} {z : Option Value}, CellIs rest d z → CellIs (but c rest) d z := fun {d z} ⟨x, hx, ex⟩ => ⟨x, keep _ hx fun e => hr.2 z (by rw [← e]; exact ex), ex⟩
  have keepP : ∀ {d : Addr} {ps : Array Value}, (d, tabObj ps) ∈ rest → (d, tabObj ps) ∈ but c rest := fun {d ps} hd => keep _ hd fun e => by
    have h1 := hr.1
    rw [← e] at h1
    cases h1
  exact ⟨h.trie.keep keepT (apart_less h.trie.apart), keepC h.cR, let ⟨_, x⟩ := h.cW; ⟨_, keepC x⟩, let ⟨_, x⟩ := h.cK; ⟨_, keepC x⟩, let ⟨_, x⟩ := h.cS; ⟨_, keepC x⟩, keepP h.t1, keepP h.t2, keepP h.t3, keepP h.t4,
    keep _ h.hTb (hcls (x := "list") rfl (by decide)), rows_keep keepT h.hRows, keep _ h.hRk (hcls (x := "list") rfl (by decide)), paths_mono keepT h.hRanks⟩
set_option maxRecDepth 100000
set_option maxHeartbeats 8000000
theorem loop_spec {sl : Addr} {sv : List Value} {ns : List Int} (C : Cx (Mine.hd.heap_39 w.params) lawScope [] base base L s.heap m (LedOf w H nd rest)) (T : TurnSt prog w L sl m 0 H nd P O ks rest rk rv rn tb tv tn rows)
   (hS : base.IsList sl sv.toArray) (hIn : IntsAre sv ns) (hl : ns.length ≤ 63)
   (hE : PassesOwn (model prog w) (callerA.deeper (lawEnv L fa cd)) (lawEnv L fa cd) E)
   (hQ : ∀ h' tk' m' H' nd' P' O' ks' rest' rv' rn' tb' tv' tn' rows' n, 1 ≤ n → n ≤ 5 → Cx (Mine.hd.heap_39 w.params) lawScope [] base base L h' m' (LedOf w H' nd' rest') → TurnSt prog w L sl m' n H' nd' P' O' ks' rest' rk rv' rn' tb' tv' tn' rows' → Q .next { s with heap := h', toks := tk' }) :
   wpAny (model prog w) (callerA.deeper (lawEnv L fa cd)) (exec (lawBody.getD 1 passS) (lawEnv L fa cd)) Q E s := by
  with_unfolding_all show wpAny _ (callerA.deeper (envOfC _ ⟨_, _, _, _, _⟩ _ _ _)) (exec (Stmt.For _ _ _ _ _) (envOfC _ ⟨_, _, _, _, _⟩ _ _ _)) _ _ _
  obtain ⟨⟨A1, B1⟩, F1, XB1, N1, ⟨p1, loose1, mean1, mg1, mb1, TB1⟩, D1, hk1⟩ := id C
  have X1 := XB1.keeps B1.stays
  have T1 := TB1.keeps B1.stays
  have hm3 := T.m3
  refine For_A L base ?_ (by intro _; rfl) hE
  generalize hled : LedOf w H nd rest = led at *
  k_steps
  refine Stop.off ?_
  k_dflt (refine cell_spec (i := 0) ⟨⟨_, B1⟩, by assumption, XB1, by assumption, ⟨_, _, _, _, _, TB1⟩, D1, hk1⟩ ?_ ?_ hS hIn hl (by omega) ?_)
  · decide
  · decide
  intro h3 tk3 t3 C3
  have F3 := C3.F
  have N3 := C3.N
  clear F1 N1
  generalize cell ns 0 = cc at *
  k_steps
  rename IsRange _ _ _ _ _ _ _ _ => hRg
  rename Fr _ _ _ _ => F4
  rename News _ _ _ _ => N4
  have hb : 1 + Int.fmod (cc : Int) 5 = 0 + ((1 + cc % 5 : Nat) : Int) := by
    rw [Int.fmod_eq_emod_of_nonneg _ (by decide)]; omega
  rw [hb] at hRg
  have hn5 : 1 + cc % 5 ≤ 5 := by omega
  have hn1 : 1 ≤ 1 + cc % 5 := by omega
  generalize 1 + cc % 5 = n at *
  obtain ⟨hr1, hr2⟩ := range_facts (a := 0) (n := n) (.inl rfl) (by omega)
  subst hled
  refine iter_rangeR (fun i m' nx => ∃ H' nd' P' O' ks' rest' rv' rn' tb' tv' tn' rows', nx = LedOf w H' nd' rest' ∧ TurnSt prog w L sl m' i H' nd' P' O' ks' rest' rk rv' rn' tb' tv' tn' rows') (by rfl) (fun _ _ => rfl) hRg hr1 hr2 F4 N4 ⟨H, nd, P, O, ks, rest, rv, rn, tb, tv, tn, rows, rfl, T⟩ ?_ ?_
  · clear F4 N4 C hRg C3 T
    rintro i u m₁ nx I own h tk hi ⟨H', nd', P', O', ks', rest', rv', rn', tb', tv', tn', rows', rfl, T'⟩ hown hoff ⟨oI, hoI, hRI⟩ F₁ N₁
    have e1 : (0 + (i : Int)) = (i : Int) := by omega
    rw [e1]
    have hone := own_one N₁ (fun p hp => List.mem_append_right _ hp) hown hoI
    have hap : Apart (LedOf w H' nd' ((I, oI) :: rest')) := apart_new T'.ls.trie.apart hoff
    replace N₁ : News base L h (LedOf w H' nd' ((I, oI) :: rest')) := fun p hp => N₁ p (by
      rcases List.mem_cons.mp (new3 p hp) with rfl | hp
      · exact List.mem_append_right _ hoI
      · exact List.mem_append_left _ hp)
    k_steps
    refine Stop.off ?_
    rename Fr _ _ _ _ => F5
    rename News _ _ _ _ => N5
    (with_unfolding_all refine turn_spec (i := i) (t := u) (sv := sv) (ns := ns) (rest := (I, oI) :: rest') ⟨⟨_, B1⟩, F5, XB1, N5, ⟨_, _, _, _, _, TB1⟩, D1, hk1⟩ ⟨T'.ls.more (fun p hp => .tail _ hp) hap, T'.inv, T'.ok, T'.l1, T'.l2, T'.l3, T'.m1, T'.m2, T'.m3, T'.ne, T'.ne0⟩ (by omega) rfl hS hIn hl hE ?_)
    intro h6 tk6 m6 H6 nd6 P6 O6 ks6 rest6 rv6 rn6 tb6 tv6 tn6 rows6 C6 T6 hri6
    show TurnEnd _ _ _ _ _ _ _
    have hI6 := hri6 _ (.head _) hRI
    obtain ⟨-, -, -, -, ha5, ha6⟩ := apart3.mp T6.ls.trie.apart
    refine TurnEnd.mk (LedOf w H6 nd6 (but I rest6)) C6.F C6.N (fun p hp => by rw [hone p hp]; exact List.mem_append_right _ (List.mem_append_right _ hI6)) (fun p hp => less3 p hp) (fun p hp => ?_) ⟨H6, nd6, P6, O6, ks6, but I rest6, rv6, rn6, tb6, tv6, tn6, rows6, rfl, ⟨T6.ls.less hI6 hRI, T6.inv, T6.ok, T6.l1, T6.l2, T6.l3, T6.m1, T6.m2, T6.m3, T6.ne, T6.ne0⟩⟩
    rcases List.mem_append.mp hp with hp | hp
    · exact ha5 p hp _ hI6
    rcases List.mem_append.mp hp with hp | hp
    · exact ha6 p hp _ hI6
    · exact (mem_but.mp hp).2
  · rintro m₁ nx h tk ⟨H', nd', P', O', ks', rest', rv', rn', tb', tv', tn', rows', rfl, T'⟩ F₁ N₁
    exact hQ h tk m₁ H' nd' P' O' ks' rest' rv' rn' tb' tv' tn' rows' n hn1 hn5 ⟨⟨_, B1⟩, F₁, XB1, N₁, ⟨_, _, _, _, _, TB1⟩, D1, hk1⟩ T'
end
end Mine
end
section
theorem Mine.switch_S18 : True := by
  w_top off
  trivial
open Lean Elab Tactic Meta PySem PySem.W PySem.Calls PyProof.Rows
set_option pp.deepTerms false
set_option pp.maxSteps 800
set_option pp.deepTerms.threshold 5
namespace Mine
local macro_rules | `(tactic| walk_at "exec For Name Name cons nil") => `(tactic| (refine Mine.Stop.on ?_))
local macro_rules | `(tactic| walk_at "exec For Name Call cons nil") => `(tactic| (refine Mine.Stop.on ?_))
local macro_rules | `(tactic| walk_at "exec Assign cons ListComp") => `(tactic| (refine Mine.Stop.on ?_))
local macro_rules | `(tactic| walk_at "LeaveC") => `(tactic| fail "here")
local macro_rules | `(tactic| k_room) => `(tactic| first | ktr_room | ((simp only [Mine.mark_depth, depth_under_make, depth_under_kw, depth_in1, depth_deeper, depth_caller]); (try dsimp only [ktrTop]); (try simp only [recursionLimit] at *); omega))
local macro_rules | `(tactic| k_all) => `(tactic| first | assumption | exact Mine.offLt (by assumption) | exact Mine.offLt2 (by assumption) (by assumption) | (refine List.forall_mem_append.mpr ⟨?a, ?b⟩; (case a => k_all); (case b => k_all)))
local macro_rules | `(tactic| walk_at "setItem ref str") => `(tactic| (k_here; k_dflt (refine' kda_setB (knd := PySem.strKind _ _) ?F ?N ?hm ?d (strKind_is _ _ _ _) ?z ?_; (case F => k_asm); (case N => k_asm); (case hm => k_mem); (case d => k_asm); (case z => k_asm)); intro h' o' F' N' hd'))
local macro_rules | `(tactic| walk_at "compareOp Is str ref") => `(tactic| (k_here; refine wpAny_is_other (by rfl) (by intro x; cases x) ?_))
local macro_rules | `(tactic| k_mem) => `(tactic| assumption)
local macro_rules | `(tactic| walk_at "eval Name") => `(tactic| (k_here; (with_reducible show wpAny _ _ (eval (Expr.Name _ _) (envOf _ _ _ _ _)) _ _ _); k_dflt (refine' ld ?k1 ?k2 ?_; (case k1 => k_asm); (case k2 => first | exact rfl | assumption); k_whole)))
local macro_rules | `(tactic| walk_at "eval Name") => `(tactic| (k_here; (with_reducible show wpAny _ _ (eval (Expr.Name _ _) (envOfC _ _ _ _ _)) _ _ _); k_dflt (refine' nameX_L ?F ?v ?_ ?a ?b; (case F => k_asm); (case a => rfl); (case b => rfl); (case v => first | rfl | assumption); k_whole)))
local macro_rules | `(tactic| walk_at "call builtin:len") => `(tactic| (k_here; (with_reducible show wpAny _ _ (call (Value.builtin "len") [Value.ref _]) _ _ _); k_dflt (first | refine len_L (by k_asm) (by k_mem) (by omega) ?_ | refine len_T (by k_asm) (by k_mem) (by omega) ?_)))
local macro_rules | `(tactic| walk_at "subscriptTail") => `(tactic| (k_here; (with_reducible show wpAny _ _ (subscriptTail _ (PySem.Expr.Slice _ _ _ _) (Value.ref _) (Value.ref _)) _ _ _); refine Mine.Stop.on ?_))
local macro_rules | `(tactic| walk_at "compareOp Eq ref ref") => `(tactic| (refine Mine.Stop.on ?_))
local macro_rules | `(tactic| walk_at "compareOp NotEq ref ref") => `(tactic| (refine Mine.Stop.on ?_))
local macro_rules | `(tactic| walk_at "call type:list") => `(tactic| (k_here; k_dflt (refine list_of_tuple (by k_asm) (by k_asm) (by k_mem) (by omega) ?_); intro D' c' h' F' N' l1; (try k_sweep)))
local macro_rules | `(tactic| walk_at "call ref") => `(tactic| ((with_reducible show wpAny _ _ (call (Value.ref 294) _) _ _ _); refine Mine.Stop.on ?_))
local macro_rules | `(tactic| walk_at "call ref") => `(tactic| ((with_reducible show wpAny _ _ (call (Value.ref 299) _) _ _ _); refine Mine.Stop.on ?_))
local macro_rules | `(tactic| walk_at "call ref") => `(tactic| ((with_reducible show wpAny _ _ (call (Value.ref 306) _) _ _ _); refine Mine.Stop.on ?_))
local macro_rules | `(tactic| walk_at "call ref") => `(tactic| ((with_reducible show wpAny _ _ (call (Value.ref 313) _) _ _ _); refine Mine.Stop.on ?_))
local macro_rules | `(tactic| walk_at "call ref") => `(tactic| ((with_reducible show wpAny _ _ (call (Value.ref 97) _) _ _ _); refine Mine.Stop.on ?_))
local macro_rules | `(tactic| walk_at "call ref") => `(tactic| ((with_reducible show wpAny _ _ (call (Value.ref 138) _) _ _ _); refine Mine.Stop.on ?_))
local macro_rules | `(tactic| walk_at "call ref") => `(tactic| ((with_reducible show wpAny _ _ (call (Value.ref 145) _) _ _ _); refine Mine.Stop.on ?_))
local macro_rules | `(tactic| walk_at "call ref") => `(tactic| ((with_reducible show wpAny _ _ (call (Value.ref 110) _) _ _ _); refine Mine.Stop.on ?_))
local macro_rules | `(tactic| walk_at "call ref") => `(tactic| ((with_reducible show wpAny _ _ (call (Value.ref 131) _) _ _ _); refine Mine.Stop.on ?_))
local macro_rules | `(tactic| walk_at "call ref") => `(tactic| ((with_reducible show wpAny _ _ (call (Value.ref 117) _) _ _ _); refine Mine.Stop.on ?_))
local macro_rules | `(tactic| walk_at "call ref") => `(tactic| ((with_reducible show wpAny _ _ (call (Value.ref 124) _) _ _ _); refine Mine.Stop.on ?_))
local macro_rules | `(tactic| walk_at "exec For") => `(tactic| (refine Mine.Stop.on ?_))
local macro_rules | `(tactic| walk_at "CompSrc") => `(tactic| (refine Mine.Stop.on ?_))
local macro_rules | `(tactic| walk_at "eval ListComp") => `(tactic| (refine Mine.Stop.on ?_))
local macro_rules | `(tactic| walk_at "call builtin:list.append") => `(tactic| (refine Mine.Stop.on ?_))
local macro_rules | `(tactic| walk_at "call builtin:list.index") => `(tactic| (refine Mine.Stop.on ?_))
local macro_rules | `(tactic| walk_at "storeName") => `(tactic| (k_here; (with_reducible show wpAny _ _ (storeName _ (Str.ofString "row") _) _ _ _); refine Mine.Stop.on ?_))
theorem ints_app : ∀ {vs us : List Value} {ys zs : List Int}, IntsAre vs ys → IntsAre us zs → IntsAre (vs ++ us) (ys ++ zs)
  | _, _, _, _, .nil, h => h
  | _, _, _, _, .cons y t a, h => .cons y t (ints_app a h)
section
variable {prog : Program} {w : World} {base : Heap} {L fa : Addr} {cd : Value} {m : Str → Option Value} {s : Shared} {Q : Flow → Shared → Prop} {E : Value → Shared → Prop} {P : List (List Str)} {rk : Addr} {rv : List Value} {rn : Nat} {tb : Addr} {tv : List Value} {tn : Nat} {rows : List Row} {led b0 : List (Addr × Obj)}
set_option maxRecDepth 100000
set_option maxHeartbeats 8000000
theorem wloop_spec {wk : Addr} {wn : Nat} {oR oK : Obj} {vK : Option Value} (C : Cx (Mine.hd.heap_39 w.params) lawScope [] base base L s.heap m led) (hb0 : ∀ p ∈ b0, p ∈ led ∧ p.1 ≠ L + 1 + 1 + 1 ∧ p.1 ≠ wk)
   (hR : (L + 1, oR) ∈ b0) (eR : oR.data = .cell (some (.ref rk))) (hrk : (rk, listOf rv.toArray rn) ∈ b0) (hP : PathsIn b0 rv P) (htb : (tb, listOf tv.toArray tn) ∈ b0) (hrows : RowsIn b0 tv rows)
   (hwk : (wk, listOf #[] wn) ∈ led) (hK : (L + 1 + 1 + 1, oK) ∈ led) (eK : oK.data = .cell vK) (hwK : wk ≠ L + 1 + 1 + 1)
   (hm1 : m "walk" = some (.ref wk)) (hm2 : m "table" = some (.ref tb)) (hrl : rows.length ≤ 10) (hok : ∀ r ∈ rows, OkWs r.1 ∧ r.1.length ≤ 3) (hPn : P.Nodup) (hPl : P.length ≤ 100) (hPo : ∀ p ∈ P, StrsOk p) (hPm : ∀ r ∈ rows, ∀ k, 1 ≤ k → k ≤ r.1.length → r.1.take k ∈ P)
   (hE : PassesOwn (model prog w) (callerA.deeper (lawEnv L fa cd)) (lawEnv L fa cd) E)
   (hQ : ∀ h' tk' led' wv wn' ow, Cx (Mine.hd.heap_39 w.params) lawScope [] base base L h' m led' → (∀ p ∈ b0, p ∈ led') → (wk, listOf wv.toArray wn') ∈ led' → (∀ p ∈ ow, p ∈ led') → WRowsIn ow wv (rows.map (wrow P)) → Q .next { s with heap := h', toks := tk' }) :
   wpAny (model prog w) (callerA.deeper (lawEnv L fa cd)) (exec (lawBody.getD 3 passS) (lawEnv L fa cd)) Q E s := by
  with_unfolding_all show wpAny _ (callerA.deeper (envOfC _ ⟨_, _, _, _, _⟩ _ _ _)) (exec (Stmt.For _ _ _ _ _) (envOfC _ ⟨_, _, _, _, _⟩ _ _ _)) _ _ _
  obtain ⟨⟨A1, B1⟩, F1, XB1, N1, ⟨p1, loose1, mean1, mg1, mb1, TB1⟩, D1, hk1⟩ := id C
  have X1 := XB1.keeps B1.stays
  have T1 := TB1.keeps B1.stays
  refine For_A L base ?_ (by intro _; rfl) hE
  k_steps
  have htvl := rows_len hrows
  have htb1 := (hb0 _ htb).1
  refine iter_listA (l := tb) (vs := tv) (fun i m' nx => m' = m ∧ (∀ p ∈ b0, p ∈ nx) ∧ (∃ oK vK, (L + 1 + 1 + 1, oK) ∈ nx ∧ oK.data = .cell vK) ∧ ∃ wv wn ow, (wk, listOf wv.toArray wn) ∈ nx ∧ (∀ p ∈ ow, p ∈ nx ∧ p.1 ≠ L + 1 + 1 + 1 ∧ p.1 ≠ wk) ∧ WRowsIn ow wv ((rows.take i).map (wrow P))) (by rfl) (fun _ _ => rfl) (PySem.IsL.isList (n := tn) (N1 _ htb1).1) (N1 _ htb1).2.1 F1 N1 ⟨rfl, fun p hp => (hb0 p hp).1, ⟨_, _, hK, eK⟩, [], wn, [], hwk, (fun p hp => nomatch hp), .nil⟩ ?_ ?_
  · clear F1 N1 hwk hK eK
    rintro i v m₁ nxJ I own h tk hv ⟨rfl, hbx, ⟨oK, vK, hK, eK⟩, wv, wn, ow, hwk, how, hwr⟩ hown hoff ⟨oI, hoI, hoIc⟩ hqI F₁ N₁
    obtain ⟨r, hri, ra, wa, vv, t1, u1, rfl, hA, hB, hC⟩ := rows_at hrows hv
    have hnext : rows.take (i + 1) = rows.take i ++ [r] := by rw [List.take_add_one, hri]; rfl
    have hrm := List.mem_of_getElem? hri
    have hKl : (L + 1 + 1 + 1, oK) ∈ nxJ ++ own := List.mem_append_left _ hK
    have hIK := hoff _ hK
    generalize hled1 : nxJ ++ own = led1 at *
    k_steps
    refine Stop.off ?_
    rename Fr _ _ _ _ => F2
    rename News _ _ _ _ => N2
    refine storeX_C F2 (news_but N2 hKl) (by rfl) (UpdF.head but_off) eK ?_
    intro h3 oK3 F3 N3 eK3
    clear F2 N2
    have hkeep : ∀ p ∈ led1, p.1 ≠ L + 1 + 1 + 1 → p ∈ (L + 1 + 1 + 1, oK3) :: but (L + 1 + 1 + 1) led1 := fun p hp hn => mem_put hp hn
    have hb3 : ∀ p ∈ b0, p ∈ (L + 1 + 1 + 1, oK3) :: but (L + 1 + 1 + 1) led1 := fun p hp => hkeep p (hled1 ▸ List.mem_append_left _ (hbx p hp)) (hb0 p hp).2.1
    have hK3 : (L + 1 + 1 + 1, oK3) ∈ (L + 1 + 1 + 1, oK3) :: but (L + 1 + 1 + 1) led1 := .head _
    have hwk3 := hkeep _ (hled1 ▸ List.mem_append_left _ hwk : (wk, listOf wv.toArray wn) ∈ led1) hwK
    generalize hled3 : (L + 1 + 1 + 1, oK3) :: but (L + 1 + 1 + 1) led1 = led3 at *
    have hA3 := hb3 _ hA
    have hB3 := hb3 _ hB
    have hR3 := hb3 _ hR
    have hrk3 := hb3 _ hrk
    have hvl := strs_len hC
    have hrl3 := (hok r hrm).2
    have hvz : vv.length ≤ 1000 := by omega
    k_steps
    refine Stop.off ?_
    k_dflt (refine LCg.ListComp_U (F₀ := by k_asm) (by with_unfolding_all rfl) (by decide) (by rfl) (by decide) (by rfl) ?_)
    k_steps
    refine Stop.off ?_
    rename IsRange _ _ _ _ _ _ _ _ => hRg
    rename Fr _ _ _ _ => F4
    rename News _ _ _ _ => N4
    have hb : ((vv.length : Int) + 1) = 1 + ((vv.length : Nat) : Int) := by omega
    rw [hb] at hRg
    obtain ⟨hr1, hr2⟩ := range_facts (a := 1) (n := vv.length) (.inr rfl) (by omega)
    k_dflt (refine LCg.CompSrc.range (by rfl) F4 N4 hRg hr1 hr2 (by rw [sizeLine_eq]; omega) (fun _ => rest_ind (fun j ys nx => (∀ p ∈ led3, p ∈ nx) ∧ IntsAre ys ((List.range j).map fun s => ((P.idxOf (r.1.take (s + 1)) : Nat) : Int))) ?_ ?_ _ 0 _ _ (Nat.zero_add _) ⟨fun p hp => hp, .nil⟩))
    rotate_left
    · rintro j ys nx v I' oI' C' oC' D' m₂ h' tk' E' hj ⟨hnx, hys⟩ ⟨tv', rfl⟩ hC' hxv F N off ne
      have hA5 := hnx _ hA3
      have hB5 := hnx _ hB3
      have hR5 := hnx _ hR3
      have hrk5 := hnx _ hrk3
      have hK5 := hnx _ hK3
      have e1 : (1 + (j : Int)) = ((j + 1 : Nat) : Int) := by omega
      rw [e1] at hxv
      k_steps
      refine Stop.off ?_
      rename News _ _ _ _ => N6
      rename Fr _ _ _ _ => F6
      k_dflt (refine slice_tuple_upto (b := j + 1) F6 N6 (.tail _ (.tail _ (.tail _ hB5))) (by omega) ?_)
      intro D2 h7 nx2 F7 N7 hsub7 hD7 _
      clear F6 N6
      have hrk7 := hsub7 _ (.tail _ (.tail _ (.tail _ hrk5)))
      have hp7 : PathsIn nx2 rv P := paths_mono (fun p hp _ => hsub7 p (.tail _ (.tail _ (.tail _ (hnx p (hb3 p hp)))))) hP
      have hpm := hPm r hrm (j + 1) (by omega) (by omega)
      have hpo := hPo _ hpm
      k_steps
      refine Stop.off ?_
      generalize hpp : r.1.take (j + 1) = pp at *
      have hix : P.idxOf pp < P.length := List.idxOf_lt_length_of_mem hpm
      have hgx : P[P.idxOf pp]? = some pp := by rw [List.getElem?_eq_getElem hix]; exact congrArg some (List.getElem_idxOf hix)
      have hplain : plainAll (P.map encP) = true := plainAll_of fun d hd => by obtain ⟨p, hp, rfl⟩ := List.mem_map.mp hd; exact encP_plain (hPo p hp)
      k_dflt (refine index_rd (j := P.idxOf pp) (d := encP pp) (ds := P.map encP) N7 hrk7 (rdAll_paths hp7) (rd_tup hD7 (hpp ▸ rdAll_strs (strs_take hC (j + 1)))) (encP_plain hpo) hplain (Nat.le_trans (encP_depth _) (by omega)) (by show 4 + 3 + 64 < cLine; decide) (by rw [List.getElem?_map, hgx]; rfl) (fun k hk e => ?_) (by omega) ?_)
      · rw [List.getElem?_map] at e
        obtain ⟨p, hp, e2⟩ := Option.map_eq_some_iff.mp e
        have := encP_inj e2
        subst this
        have := idx_at hPn hp
        omega
      k_steps
      refine LCg.CompEnd.intro (by assumption) (by assumption) nx (fun p hp => hsub7 p hp) off trivial ⟨hnx, ?_⟩
      rw [List.range_succ, List.map_append, ← hpp]
      exact ints_app hys (.cons _ _ .nil)
    · rintro ys nx ⟨hnx, hys⟩ D h5 tk5 F5 N5 off5
      clear F4 N4
      dsimp only
      try k_fold
      have hA5 := hnx _ hA3
      have hK5 := hnx _ hK3
      have hwk5 := hnx _ hwk3
      k_steps
      refine Stop.off ?_
      rename News _ _ _ _ => N6
      rename Fr _ _ _ _ => F6
      have hwvl : wv.length ≤ 10 := by
        have := wrows_len hwr
        rw [this, List.length_map, List.length_take]; omega
      refine append_B F6 N6 (.tail _ (.tail _ hwk5)) (by omega) ?_
      intro h7 F7 N7
      clear F6 N6
      k_steps
      show TurnEnd _ _ _ _ _ _ _
      rename D < _ ∧ AllLt _ nx => hTT
      rename_i T _
      have hT : ∀ p ∈ nx, p.1 ≠ T := fun p hp => Nat.ne_of_lt (allLt_at hTT.2 p hp)
      have hD : ∀ p ∈ nx, p.1 ≠ D := fun p hp => off1_mem off5 p hp
      have hDT : D ≠ T := Nat.ne_of_lt hTT.1
      have hIx : (I, oI) ∈ nx := hnx _ (hkeep _ (hled1 ▸ List.mem_append_right _ hoI) hIK.symm)
      have hwkI := hoff _ hwk
      have hJn : ∀ p ∈ nxJ, p.1 ≠ L + 1 + 1 + 1 → p ∈ nx := fun p hp hn => hnx _ (hkeep _ (hled1 ▸ List.mem_append_left _ hp) hn)
      have hown2 : ∀ p ∈ own, p.1 ≠ L + 1 + 1 + 1 ∧ p.1 ≠ wk := fun p hp => by
        rcases hown p hp with e | e
        · rw [e]; exact ⟨hIK.symm, hwkI.symm⟩
        · rw [e]; exact (hb0 _ htb).2
      refine TurnEnd.mk ((wk, listOf (wv ++ [Value.ref T]).toArray (wn + 1)) :: (T, tupO [.ref D, .str r.2.1 t1, .str r.2.2 u1]) :: (D, LCg.lst ys) :: (L + 1 + 1 + 1, oK3) :: but (L + 1 + 1 + 1) (but wk nxJ)) F7 N7 (fun p hp => ?_) (fun p hp => ?_) (fun p hp => ?_) ⟨rfl, fun p hp => ?_, ⟨oK3, _, .tail _ (.tail _ (.tail _ (.head _))), eK3⟩, wv ++ [Value.ref T], wn + 1, (T, tupO [.ref D, .str r.2.1 t1, .str r.2.2 u1]) :: (D, LCg.lst ys) :: ow, .head _, fun p hp => ?_, ?_⟩
      · obtain ⟨h1, h2⟩ := hown2 p hp
        exact mem_put (.tail _ (.tail _ (hnx _ (hkeep _ (hled1 ▸ List.mem_append_right _ hp) h1)))) h2
      · rcases List.mem_cons.mp hp with rfl | hp
        · exact .head _
        rcases List.mem_cons.mp hp with rfl | hp
        · exact mem_put (.head _) (hT _ hwk5).symm
        rcases List.mem_cons.mp hp with rfl | hp
        · exact mem_put (.tail _ (.head _)) (hD _ hwk5).symm
        rcases List.mem_cons.mp hp with rfl | hp
        · exact mem_put (.tail _ (.tail _ hK5)) hwK.symm
        · obtain ⟨h1, h2⟩ := mem_but.mp hp
          obtain ⟨h3, h4⟩ := mem_but.mp h1
          exact mem_put (.tail _ (.tail _ (hJn p h3 h2))) h4
      · rcases List.mem_cons.mp hp with rfl | hp
        · exact hwkI
        rcases List.mem_cons.mp hp with rfl | hp
        · exact (hT _ hIx).symm
        rcases List.mem_cons.mp hp with rfl | hp
        · exact (hD _ hIx).symm
        rcases List.mem_cons.mp hp with rfl | hp
        · exact hIK
        · exact hoff p (mem_but.mp (mem_but.mp hp).1).1
      · obtain ⟨_, h2, h3⟩ := hb0 p hp
        exact .tail _ (.tail _ (.tail _ (.tail _ (mem_but.mpr ⟨mem_but.mpr ⟨hbx p hp, h3⟩, h2⟩))))
      · rcases List.mem_cons.mp hp with rfl | hp
        · exact ⟨.tail _ (.head _), (hT _ hK5).symm, (hT _ hwk5).symm⟩
        rcases List.mem_cons.mp hp with rfl | hp
        · exact ⟨.tail _ (.tail _ (.head _)), (hD _ hK5).symm, (hD _ hwk5).symm⟩
        · obtain ⟨h1, h2, h3⟩ := how p hp
          exact ⟨.tail _ (.tail _ (.tail _ (.tail _ (mem_but.mpr ⟨mem_but.mpr ⟨h1, h3⟩, h2⟩)))), h2, h3⟩
      · rw [hnext, List.map_append]
        refine wrows_app (wrows_mono (fun p hp => .tail _ (.tail _ hp)) hwr) (.cons ⟨T, D, ys, _, t1, u1, rfl, .head _, .tail _ (.head _), ?_⟩ .nil)
        rw [hvl] at hys
        exact hys
  · rintro m₁ nx h tk ⟨rfl, hbx, _, wv, wn', ow, hwk, how, hwr⟩ F₁ N₁
    rw [htvl, List.take_length] at hwr
    exact hQ h tk nx wv wn' ow ⟨⟨_, B1⟩, F₁, XB1, N₁, ⟨_, _, _, _, _, TB1⟩, D1, hk1⟩ hbx hwk (fun p hp => (how p hp).1) hwr
end
end Mine
end
section
theorem Mine.switch_S19 : True := by
  w_top off
  trivial
open Lean Elab Tactic Meta PySem PySem.W PySem.Calls PyProof.Rows
set_option pp.deepTerms false
set_option pp.maxSteps 800
set_option pp.deepTerms.threshold 5
namespace Mine
local macro_rules | `(tactic| walk_at "exec For Name Name cons nil") => `(tactic| (refine Mine.Stop.on ?_))
local macro_rules | `(tactic| walk_at "exec For Name Call cons nil") => `(tactic| (refine Mine.Stop.on ?_))
local macro_rules | `(tactic| walk_at "exec Assign cons ListComp") => `(tactic| (refine Mine.Stop.on ?_))
local macro_rules | `(tactic| walk_at "LeaveC") => `(tactic| fail "here")
local macro_rules | `(tactic| k_room) => `(tactic| first | ktr_room | ((simp only [Mine.mark_depth, depth_under_make, depth_under_kw, depth_in1, depth_deeper, depth_caller]); (try dsimp only [ktrTop]); (try simp only [recursionLimit] at *); omega))
local macro_rules | `(tactic| k_all) => `(tactic| first | assumption | exact Mine.offLt (by assumption) | exact Mine.offLt2 (by assumption) (by assumption) | (refine List.forall_mem_append.mpr ⟨?a, ?b⟩; (case a => k_all); (case b => k_all)))
local macro_rules | `(tactic| walk_at "setItem ref str") => `(tactic| (k_here; k_dflt (refine' kda_setB (knd := PySem.strKind _ _) ?F ?N ?hm ?d (strKind_is _ _ _ _) ?z ?_; (case F => k_asm); (case N => k_asm); (case hm => k_mem); (case d => k_asm); (case z => k_asm)); intro h' o' F' N' hd'))
local macro_rules | `(tactic| walk_at "compareOp Is str ref") => `(tactic| (k_here; refine wpAny_is_other (by rfl) (by intro x; cases x) ?_))
local macro_rules | `(tactic| k_mem) => `(tactic| assumption)
local macro_rules | `(tactic| walk_at "eval Name") => `(tactic| (k_here; (with_reducible show wpAny _ _ (eval (Expr.Name _ _) (envOf _ _ _ _ _)) _ _ _); k_dflt (refine' ld ?k1 ?k2 ?_; (case k1 => k_asm); (case k2 => first | exact rfl | assumption); k_whole)))
local macro_rules | `(tactic| walk_at "eval Name") => `(tactic| (k_here; (with_reducible show wpAny _ _ (eval (Expr.Name _ _) (envOfC _ _ _ _ _)) _ _ _); k_dflt (refine' nameX_L ?F ?v ?_ ?a ?b; (case F => k_asm); (case a => rfl); (case b => rfl); (case v => first | rfl | assumption); k_whole)))
local macro_rules | `(tactic| walk_at "call builtin:len") => `(tactic| (k_here; (with_reducible show wpAny _ _ (call (Value.builtin "len") [Value.ref _]) _ _ _); k_dflt (first | refine len_L (by k_asm) (by k_mem) (by omega) ?_ | refine len_T (by k_asm) (by k_mem) (by omega) ?_)))
local macro_rules | `(tactic| walk_at "subscriptTail") => `(tactic| (k_here; (with_reducible show wpAny _ _ (subscriptTail _ (PySem.Expr.Slice _ _ _ _) (Value.ref _) (Value.ref _)) _ _ _); refine Mine.Stop.on ?_))
local macro_rules | `(tactic| walk_at "compareOp Eq ref ref") => `(tactic| (refine Mine.Stop.on ?_))
local macro_rules | `(tactic| walk_at "compareOp NotEq ref ref") => `(tactic| (refine Mine.Stop.on ?_))
local macro_rules | `(tactic| walk_at "call type:list") => `(tactic| (k_here; k_dflt (refine list_of_tuple (by k_asm) (by k_asm) (by k_mem) (by omega) ?_); intro D' c' h' F' N' l1; (try k_sweep)))
local macro_rules | `(tactic| walk_at "call ref") => `(tactic| ((with_reducible show wpAny _ _ (call (Value.ref 294) _) _ _ _); refine Mine.Stop.on ?_))
local macro_rules | `(tactic| walk_at "call ref") => `(tactic| ((with_reducible show wpAny _ _ (call (Value.ref 299) _) _ _ _); refine Mine.Stop.on ?_))
local macro_rules | `(tactic| walk_at "call ref") => `(tactic| ((with_reducible show wpAny _ _ (call (Value.ref 306) _) _ _ _); refine Mine.Stop.on ?_))
local macro_rules | `(tactic| walk_at "call ref") => `(tactic| ((with_reducible show wpAny _ _ (call (Value.ref 313) _) _ _ _); refine Mine.Stop.on ?_))
local macro_rules | `(tactic| walk_at "call ref") => `(tactic| ((with_reducible show wpAny _ _ (call (Value.ref 97) _) _ _ _); refine Mine.Stop.on ?_))
local macro_rules | `(tactic| walk_at "call ref") => `(tactic| ((with_reducible show wpAny _ _ (call (Value.ref 138) _) _ _ _); refine Mine.Stop.on ?_))
local macro_rules | `(tactic| walk_at "call ref") => `(tactic| ((with_reducible show wpAny _ _ (call (Value.ref 145) _) _ _ _); refine Mine.Stop.on ?_))
local macro_rules | `(tactic| walk_at "call ref") => `(tactic| ((with_reducible show wpAny _ _ (call (Value.ref 110) _) _ _ _); refine Mine.Stop.on ?_))
local macro_rules | `(tactic| walk_at "call ref") => `(tactic| ((with_reducible show wpAny _ _ (call (Value.ref 131) _) _ _ _); refine Mine.Stop.on ?_))
local macro_rules | `(tactic| walk_at "call ref") => `(tactic| ((with_reducible show wpAny _ _ (call (Value.ref 117) _) _ _ _); refine Mine.Stop.on ?_))
local macro_rules | `(tactic| walk_at "call ref") => `(tactic| ((with_reducible show wpAny _ _ (call (Value.ref 124) _) _ _ _); refine Mine.Stop.on ?_))
local macro_rules | `(tactic| walk_at "CompSrc") => `(tactic| (refine Mine.Stop.on ?_))
local macro_rules | `(tactic| walk_at "call builtin:sorted") => `(tactic| (refine Mine.Stop.on ?_))
section
variable {prog : Program} {w : World} {A : Around} {E : Value → Shared → Prop} {s : Shared} {h₀ : Heap} {L l : Addr} {m : Str → Option Value} {led : List (Addr × Obj)} {vs : List Value} {n : Nat} {rows : List WRow}
theorem wrows_of {p : List Nat} {k : Nat} (hr : WRowsIn led vs rows) (hk : k = rows.length) : (∀ i ∈ p, i < k) → WRowsIn led (p.map fun i => vs.getD i Value.none) (p.map fun i => rows.getD i ([], "", "")) := by
  intro hp
  induction p with
  | nil => exact .nil
  | cons i p ih =>
    refine .cons ?_ (ih fun j hj => hp j (.tail _ hj))
    have hi := hp i (.head _)
    obtain ⟨v, hv, hw⟩ := wrows_at hr (i := i) (r := rows[i]'(by omega)) (by simp)
    have e : rows.getD i ([], "", "") = rows[i]'(by omega) := by simp [List.getD_eq_getElem?_getD, show i < rows.length by omega]
    show WRowIn led (vs.getD i Value.none) (rows.getD i ([], "", ""))
    rw [e, List.getD_eq_getElem?_getD, hv]; exact hw
theorem sorted_rows {Q : Value → Shared → Prop} (F : Fr h₀ L s.heap m) (N : News h₀ L s.heap led) (hl : (l, listOf vs.toArray n) ∈ led) (hr : WRowsIn led vs rows) (hn : (rows.map (·.1)).Nodup) (h1 : 1 ≤ rows.length) (h5 : rows.length ≤ 5) (hu : A.units + 100 < cLine)
    (hQ : ∀ D c h' us srt, Fr h₀ L h' m → News h₀ L h' ((D, listOf us.toArray c) :: led) → (∀ q ∈ led, q.1 < D) → WRowsIn led us srt → srt.Pairwise (fun a b => lexLt a.1 b.1 = true) → (∀ e, e ∈ srt ↔ e ∈ rows) → srt.length ≤ 5 → Q (.ref D) { s with heap := h' }) :
    wpAny (model prog w) A (call (.builtin "sorted") [.ref l]) Q E s := by
  rcases Nat.lt_or_ge 1 rows.length with h2 | h2
  · refine sorted_many F N hl hr hn h2 h5 hu fun D c h' p F' N' hD ⟨s1, s2, s3⟩ => ?_
    rw [List.length_map] at s1 s2
    have hat : ∀ i, i < rows.length → rows.getD i ([], "", "") ∈ rows ∧ (rows.getD i ([], "", "")).1 = (rows.map (·.1)).getD i [] := fun i hi => by
      have e : rows.getD i ([], "", "") = rows[i] := by simp [List.getD_eq_getElem?_getD, hi]
      exact ⟨by rw [e]; exact List.getElem_mem hi, by rw [e]; simp [List.getD_eq_getElem?_getD, hi]⟩
    have hpn : p.Nodup := s3.imp fun {a b} hab e => by rw [e, lex_irrefl] at hab; cases hab
    refine hQ D c h' _ (p.map fun i => rows.getD i ([], "", "")) F' N' hD (wrows_of hr rfl s1) ?_ (fun e => ?_) ?_
    · rw [List.pairwise_map]
      refine (List.Pairwise.and_mem.mp s3).imp fun {a b} ⟨ha, hb, hab⟩ => ?_
      rw [(hat a (s1 a ha)).2, (hat b (s1 b hb)).2]; exact hab
    · rw [List.mem_map]
      constructor
      · rintro ⟨i, hi, rfl⟩
        exact (hat i (s1 i hi)).1
      · intro he
        obtain ⟨i, hi⟩ := List.mem_iff_getElem?.mp he
        obtain ⟨hi', e'⟩ := List.getElem?_eq_some_iff.mp hi
        exact ⟨i, s2 i hi', by simp [List.getD_eq_getElem?_getD, hi', e']⟩
    · rw [List.length_map]
      have := List.Nodup.length_le_of_subset (l₁ := p) (l₂ := List.range rows.length) hpn fun i hi => List.mem_range.mpr (s1 i hi)
      rw [List.length_range] at this; omega
  · cases hr with
    | nil => simp at h1
    | cons hw hr' =>
      cases hr' with
      | nil =>
        refine sorted_one F N hl fun D c h' F' N' hD => hQ D c h' [_] [_] F' N' hD (.cons hw .nil) (by simp) (fun e => by simp) (by simp)
      | cons _ _ => simp at h2
theorem keyP_inj {P : List (List Str)} {p q : List Str} (hp : p ∈ P) (hq : q ∈ P) (h1 : 1 ≤ p.length) (h : keyP P p = keyP P q) : p = q := by
  have hl : p.length = q.length := by
    have := congrArg List.length h
    simpa [keyP] using this
  have hg := congrArg (·[p.length - 1]?) h
  unfold keyP at hg
  simp only [List.getElem?_map, List.getElem?_range (show p.length - 1 < p.length by omega), List.getElem?_range (show p.length - 1 < q.length by omega), Option.map_some, Option.some.injEq] at hg
  rw [show p.length - 1 + 1 = p.length by omega, List.take_length, hl, List.take_length] at hg
  have hg : P.idxOf p = P.idxOf q := by omega
  have e1 : P[P.idxOf p]'(List.idxOf_lt_length_of_mem hp) = p := List.getElem_idxOf _
  have e2 : P[P.idxOf q]'(List.idxOf_lt_length_of_mem hq) = q := List.getElem_idxOf _
  rw [← e1, ← e2]
  simp only [hg]
end
end Mine
end
section
theorem Mine.switch_S21 : True := by
  w_top off
  trivial
open Lean Elab Tactic Meta PySem PySem.W PySem.Calls PyProof.Rows
set_option pp.deepTerms false
set_option pp.maxSteps 800
set_option pp.deepTerms.threshold 5
namespace Mine
local macro_rules | `(tactic| walk_at "exec For Name Name cons nil") => `(tactic| (refine Mine.Stop.on ?_))
local macro_rules | `(tactic| walk_at "exec For Name Call cons nil") => `(tactic| (refine Mine.Stop.on ?_))
local macro_rules | `(tactic| walk_at "exec Assign cons ListComp") => `(tactic| (refine Mine.Stop.on ?_))
local macro_rules | `(tactic| walk_at "LeaveC") => `(tactic| fail "here")
local macro_rules | `(tactic| k_room) => `(tactic| first | ktr_room | ((simp only [Mine.mark_depth, depth_under_make, depth_under_kw, depth_in1, depth_deeper, depth_caller]); (try dsimp only [ktrTop]); (try simp only [recursionLimit] at *); omega))
local macro_rules | `(tactic| k_all) => `(tactic| first | assumption | exact Mine.offLt (by assumption) | exact Mine.offLt2 (by assumption) (by assumption) | (refine List.forall_mem_append.mpr ⟨?a, ?b⟩; (case a => k_all); (case b => k_all)))
local macro_rules | `(tactic| walk_at "setItem ref str") => `(tactic| (k_here; k_dflt (refine' kda_setB (knd := PySem.strKind _ _) ?F ?N ?hm ?d (strKind_is _ _ _ _) ?z ?_; (case F => k_asm); (case N => k_asm); (case hm => k_mem); (case d => k_asm); (case z => k_asm)); intro h' o' F' N' hd'))
local macro_rules | `(tactic| walk_at "compareOp Is str ref") => `(tactic| (k_here; refine wpAny_is_other (by rfl) (by intro x; cases x) ?_))
local macro_rules | `(tactic| k_mem) => `(tactic| assumption)
local macro_rules | `(tactic| walk_at "eval Name") => `(tactic| (k_here; (with_reducible show wpAny _ _ (eval (Expr.Name _ _) (envOf _ _ _ _ _)) _ _ _); k_dflt (refine' ld ?k1 ?k2 ?_; (case k1 => k_asm); (case k2 => first | exact rfl | assumption); k_whole)))
local macro_rules | `(tactic| walk_at "eval Name") => `(tactic| (k_here; (with_reducible show wpAny _ _ (eval (Expr.Name _ _) (envOfC _ _ _ _ _)) _ _ _); k_dflt (refine' nameX_L ?F ?v ?_ ?a ?b; (case F => k_asm); (case a => rfl); (case b => rfl); (case v => first | rfl | assumption); k_whole)))
local macro_rules | `(tactic| walk_at "call builtin:len") => `(tactic| (k_here; (with_reducible show wpAny _ _ (call (Value.builtin "len") [Value.ref _]) _ _ _); k_dflt (first | refine len_L (by k_asm) (by k_mem) (by omega) ?_ | refine len_T (by k_asm) (by k_mem) (by omega) ?_)))
local macro_rules | `(tactic| walk_at "subscriptTail") => `(tactic| (k_here; (with_reducible show wpAny _ _ (subscriptTail _ (PySem.Expr.Slice _ _ _ _) (Value.ref _) (Value.ref _)) _ _ _); refine Mine.Stop.on ?_))
local macro_rules | `(tactic| walk_at "compareOp Eq ref ref") => `(tactic| (refine Mine.Stop.on ?_))
local macro_rules | `(tactic| walk_at "compareOp NotEq ref ref") => `(tactic| (refine Mine.Stop.on ?_))
local macro_rules | `(tactic| walk_at "call type:list") => `(tactic| (k_here; k_dflt (refine list_of_tuple (by k_asm) (by k_asm) (by k_mem) (by omega) ?_); intro D' c' h' F' N' l1; (try k_sweep)))
local macro_rules | `(tactic| walk_at "call ref") => `(tactic| ((with_reducible show wpAny _ _ (call (Value.ref 294) _) _ _ _); refine Mine.Stop.on ?_))
local macro_rules | `(tactic| walk_at "call ref") => `(tactic| ((with_reducible show wpAny _ _ (call (Value.ref 299) _) _ _ _); refine Mine.Stop.on ?_))
local macro_rules | `(tactic| walk_at "call ref") => `(tactic| ((with_reducible show wpAny _ _ (call (Value.ref 306) _) _ _ _); refine Mine.Stop.on ?_))
local macro_rules | `(tactic| walk_at "call ref") => `(tactic| ((with_reducible show wpAny _ _ (call (Value.ref 313) _) _ _ _); refine Mine.Stop.on ?_))
local macro_rules | `(tactic| walk_at "call ref") => `(tactic| ((with_reducible show wpAny _ _ (call (Value.ref 97) _) _ _ _); refine Mine.Stop.on ?_))
local macro_rules | `(tactic| walk_at "call ref") => `(tactic| ((with_reducible show wpAny _ _ (call (Value.ref 138) _) _ _ _); refine Mine.Stop.on ?_))
local macro_rules | `(tactic| walk_at "call ref") => `(tactic| ((with_reducible show wpAny _ _ (call (Value.ref 145) _) _ _ _); refine Mine.Stop.on ?_))
local macro_rules | `(tactic| walk_at "call ref") => `(tactic| ((with_reducible show wpAny _ _ (call (Value.ref 110) _) _ _ _); refine Mine.Stop.on ?_))
local macro_rules | `(tactic| walk_at "call ref") => `(tactic| ((with_reducible show wpAny _ _ (call (Value.ref 131) _) _ _ _); refine Mine.Stop.on ?_))
local macro_rules | `(tactic| walk_at "call ref") => `(tactic| ((with_reducible show wpAny _ _ (call (Value.ref 117) _) _ _ _); refine Mine.Stop.on ?_))
local macro_rules | `(tactic| walk_at "call ref") => `(tactic| ((with_reducible show wpAny _ _ (call (Value.ref 124) _) _ _ _); refine Mine.Stop.on ?_))
local macro_rules | `(tactic| walk_at "exec For") => `(tactic| (refine Mine.Stop.on ?_))
local macro_rules | `(tactic| walk_at "CompSrc") => `(tactic| (refine Mine.Stop.on ?_))
local macro_rules | `(tactic| walk_at "eval ListComp") => `(tactic| (refine Mine.Stop.on ?_))
local macro_rules | `(tactic| walk_at "call builtin:sorted") => `(tactic| (refine Mine.Stop.on ?_))
local macro_rules | `(tactic| walk_at "call type:list") => `(tactic| (refine Mine.Stop.on ?_))
section
variable {prog : Program} {w : World} {base : Heap} {L fa : Addr} {cd : Value} {m : Str → Option Value} {s : Shared} {Q : Flow → Shared → Prop} {E : Value → Shared → Prop} {H : TrieHd} {nd : List Nd} {P : List (List Str)} {O : List (Option (Str × Str))} {ks : List Str} {rest : List (Addr × Obj)} {rk : Addr} {rv : List Value} {rn : Nat} {R : List (List Str)} {tb : Addr} {tv : List Value} {tn : Nat} {rows : List Row}
theorem LS.keepB {c : Addr} {o : Obj} {v : Option Value} (h : LS prog w L H nd P O ks rest rk rv rn R tb tv tn rows) (hc : (c, o) ∈ rest) (hod : o.data = .cell v) : ∀ p ∈ LedOf w H nd rest, p.2 ≠ o → p ∈ but c (LedOf w H nd rest) := fun p hp hn =>
  mem_but.mpr ⟨hp, fun e => hn (congrArg Prod.snd (apart_eq h.trie.apart hp (List.mem_append_right _ (List.mem_append_right _ hc)) e))⟩
theorem tabSt_mem {P : Addr} {pos : Pos} {qual : Str} {led : List (Addr × Obj)} (S : TabSt P pos qual led) : ∃ ps, (P, tabObj ps) ∈ led := by
  rcases S with h | ⟨c', oc, vs, t, h1, h2, h3, h4⟩
  · exact ⟨_, h⟩
  · exact ⟨_, h1⟩
theorem tabSt_butIt {P K l : Addr} {pos : Pos} {qual : Str} {h₀ h : Heap} {L : Addr} {led : List (Addr × Obj)} (N : News h₀ L h led) (S : TabSt P pos qual led) (hK : (K, itObj l) ∈ led) : TabSt P pos qual (but K led) := by
  have e2 := (N _ hK).1
  dsimp only at e2
  have ne : ∀ {ps : Array Value}, (P, tabObj ps) ∈ led → P ≠ K := fun {ps} hp e => by
    have e1 := (N _ hp).1
    dsimp only at e1
    rw [e, e2] at e1
    have := congrArg Obj.cls (Option.some.inj e1)
    cases this
  rcases S with h | ⟨c', oc, vs, t, h1, h2, h3, h4⟩
  · exact .inl (mem_but.mpr ⟨h, ne h⟩)
  · refine .inr ⟨c', oc, vs, t, mem_but.mpr ⟨h1, ne h1⟩, mem_but.mpr ⟨h2, fun e => ?_⟩, h3, h4⟩
    have e1 := (N _ h2).1
    dsimp only at e1 e
    rw [e, e2] at e1
    have e3 := Option.some.inj e1
    rw [← e3] at h3
    injection h3 with h3
    rw [← h3] at h4
    simp at h4
theorem compEnd_one {h₀ h' : Heap} {L I C D T : Addr} {m : Str → Option Value} {s₁ : Shared} {oI oC oD o : Obj} {S : List (Addr × Obj) → Prop} {rest : Value → List (Addr × Obj) → Prop} {y : Value} {tk : Nat} {nx : List (Addr × Obj)}
    (F : Fr h₀ L h' m) (N : News h₀ L h' ((T, o) :: (I, oI) :: (C, oC) :: (D, oD) :: nx)) (off : LCg.Off3 I C D nx) (hT : I < T ∧ C < T ∧ D < T ∧ AllLt T nx) (hS : S ((T, o) :: nx)) (r : rest y ((T, o) :: nx)) :
    LCg.CompEnd h₀ L m s₁ I oI C oC D oD S rest y { s₁ with heap := h', toks := tk } := by
  refine LCg.CompEnd.intro F N ((T, o) :: nx) (fun p hp => ?_) ⟨⟨Nat.ne_of_gt hT.1, Nat.ne_of_gt hT.2.1, Nat.ne_of_gt hT.2.2.1⟩, off⟩ hS r
  rcases List.mem_cons.mp hp with rfl | hp
  · exact .tail _ (.head _)
  rcases List.mem_cons.mp hp with rfl | hp
  · exact .tail _ (.tail _ (.head _))
  rcases List.mem_cons.mp hp with rfl | hp
  · exact .tail _ (.tail _ (.tail _ (.head _)))
  rcases List.mem_cons.mp hp with rfl | hp
  · exact .head _
  · exact .tail _ (.tail _ (.tail _ (.tail _ hp)))
set_option maxRecDepth 100000
set_option maxHeartbeats 8000000
theorem tail_spec {sl : Addr} {n : Nat} (C : Cx (Mine.hd.heap_39 w.params) lawScope [] base base L s.heap m (LedOf w H nd rest)) (T : TurnSt prog w L sl m n H nd P O ks rest rk rv rn tb tv tn rows)
   (hn1 : 1 ≤ n) (hn5 : n ≤ 5) (hg : AllBare s.gens) (hc1 : CodeHd base 130 126) (hc2 : CodeHd base 123 119) (hc3 : CodeHd base 116 112)
   (hE : PassesOwn (model prog w) (callerA.deeper (lawEnv L fa cd)) (lawEnv L fa cd) E)
   (hQ : ∀ h' tk' gs m' led', Cx (Mine.hd.heap_39 w.params) lawScope [] base base L h' m' led' → AllBare gs → (226, tabObj #[]) ∈ led' → (∃ ps, (126, tabObj ps) ∈ led') → (∃ ps, (119, tabObj ps) ∈ led') → (∃ ps, (112, tabObj ps) ∈ led') → Q (.ret (.bool true)) { s with gens := gs, heap := h', toks := tk' }) :
   wpAny (model prog w) (callerA.deeper (lawEnv L fa cd)) (execs (lawBody.drop 2) (lawEnv L fa cd)) Q E s := by
  with_unfolding_all show wpAny _ (callerA.deeper (envOfC _ ⟨_, _, _, _, _⟩ _ _ _)) (execs (Stmt.Assign _ _ _ :: _) (envOfC _ ⟨_, _, _, _, _⟩ _ _ _)) _ _ _
  obtain ⟨hLS, hI, hX, hl1, hl2, hl3, hm1, hm2, -, hne, hne0⟩ := T
  obtain ⟨⟨A1, B1⟩, F1, XB1, N1, ⟨p1, loose1, mean1, mg1, mb1, TB1⟩, D1, hk1⟩ := id C
  have X1 := XB1.keeps B1.stays
  have T1 := TB1.keeps B1.stays
  obtain ⟨oR, hR, eR⟩ := hLS.cR
  obtain ⟨vK, oK, hK, eK⟩ := hLS.cK
  have hrest : ∀ p ∈ rest, p ∈ LedOf w H nd rest := fun p hp => List.mem_append_right _ (List.mem_append_right _ hp)
  have hnO := hLS.trie.ok
  have hkb := hLS.keepB hK eK
  have hkT : ∀ p ∈ LedOf w H nd rest, (∃ vs, p.2 = tupO vs) → p ∈ but (L + 1 + 1 + 1) (LedOf w H nd rest) := fun p hp ⟨vs, ht⟩ => hkb p hp fun e => cell_not_tuple eK vs (by rw [← e, ht])
  have hbR : (L + 1, oR) ∈ but (L + 1 + 1 + 1) (LedOf w H nd rest) := mem_but.mpr ⟨hrest _ hR, Nat.ne_of_lt (Nat.lt_succ_of_lt (Nat.lt_succ_self _))⟩
  have hbrk := hkb _ (hrest _ hLS.hRk) (cell_not_list eK _ _).symm
  have hbtb := hkb _ (hrest _ hLS.hTb) (cell_not_list eK _ _).symm
  have hbP : PathsIn (but (L + 1 + 1 + 1) (LedOf w H nd rest)) rv P := paths_mono (fun p hp ht => hkT p (hrest p hp) ht) hLS.hRanks
  have hbrows : RowsIn (but (L + 1 + 1 + 1) (LedOf w H nd rest)) tv rows := rows_keep (fun p hp ht => hkT p (hrest p hp) ht) hLS.hRows
  have hKl := hrest _ hK
  have hbsub : ∀ p ∈ but (L + 1 + 1 + 1) (LedOf w H nd rest), p ∈ LedOf w H nd rest ∧ p.1 ≠ L + 1 + 1 + 1 := fun p hp => mem_but.mp hp
  have hPok : ∀ p ∈ P, StrsOk p := fun p hp => by
    rcases (hI.mem p).mp hp with rfl | ⟨r, hr, e⟩
    · intro _ h; cases h
    · rw [← e]
      exact fun z hz => okWs_strs (hI.ok r hr).1 z (List.mem_of_mem_take hz)
  have hPm : ∀ r ∈ rows, ∀ k, 1 ≤ k → k ≤ r.1.length → r.1.take k ∈ P := fun r hr k _ hk2 => (hI.mem _).mpr (.inr ⟨r, hr, by rw [List.length_take, Nat.min_eq_left hk2]⟩)
  obtain ⟨-, hapN, -, -, a5, a6⟩ := apart3.mp hLS.trie.apart
  have hra := hLS.rest_apart
  have hall : ∀ p ∈ hdObjs w.params 171 false H (adOf nd 0) ++ (objsOf 71 nd ++ but 112 (but 119 (but 126 (but (L + 1 + 1 + 1) rest)))), p ∈ but (L + 1 + 1 + 1) (LedOf w H nd rest) ∧ p.1 ≠ 126 ∧ p.1 ≠ 119 ∧ p.1 ≠ 112 := fun p hp => by
    rcases List.mem_append.mp hp with hp | hp
    · exact ⟨mem_but.mpr ⟨List.mem_append_left _ hp, a5 p hp _ hK⟩, a5 p hp _ hLS.t2, a5 p hp _ hLS.t3, a5 p hp _ hLS.t4⟩
    rcases List.mem_append.mp hp with hp | hp
    · exact ⟨mem_but.mpr ⟨List.mem_append_right _ (List.mem_append_left _ hp), a6 p hp _ hK⟩, a6 p hp _ hLS.t2, a6 p hp _ hLS.t3, a6 p hp _ hLS.t4⟩
    · obtain ⟨h1, h2⟩ := mem_but.mp hp
      obtain ⟨h3, h4⟩ := mem_but.mp h1
      obtain ⟨h5, h6⟩ := mem_but.mp h3
      obtain ⟨h7, h8⟩ := mem_but.mp h5
      exact ⟨mem_but.mpr ⟨hrest p h7, h8⟩, h6, h4, h2⟩
  have hnt : ∀ {c : Addr} {o : Obj}, (c, o) ∈ rest → (∀ vs, o ≠ tupO vs) → ∀ p ∈ rest, (∃ vs, p.2 = tupO vs) → p.1 ≠ c := fun {c o} hc ho p hp ⟨vs, ht⟩ e => by
    have := apart_eq hra hp hc e
    exact ho vs (by rw [← ht, this])
  have htabT : ∀ (ps : Array Value) vs, tabObj ps ≠ tupO vs := fun ps vs e => by
    have := congrArg Obj.cls e
    cases this
  have hout : Outs 44 nd O (but 112 (but 119 (but 126 (but (L + 1 + 1 + 1) rest)))) := outs_keep (fun p hp ht => mem_but.mpr ⟨mem_but.mpr ⟨mem_but.mpr ⟨mem_but.mpr ⟨hp, hnt hK (cell_not_tuple eK) p hp ht⟩, hnt hLS.t2 (htabT _) p hp ht⟩, hnt hLS.t3 (htabT _) p hp ht⟩, hnt hLS.t4 (htabT _) p hp ht⟩) hLS.trie.outs
  have hb226 := hkb _ (hrest _ hLS.t1) (cell_not_tab eK _).symm
  have hb126 := hkb _ (hrest _ hLS.t2) (cell_not_tab eK _).symm
  have hb119 := hkb _ (hrest _ hLS.t3) (cell_not_tab eK _).symm
  have hb112 := hkb _ (hrest _ hLS.t4) (cell_not_tab eK _).symm
  have hPl3 : ∀ q ∈ P, q.length ≤ 3 := fun q hq => by
    rcases (hI.mem q).mp hq with rfl | ⟨r, hr, e⟩
    · simp
    · rw [← e, List.length_take]
      have := (hI.ok r hr).2.2; omega
  have hPw : ∀ q ∈ P, (q.getLastD ⟨#[]⟩).length ≤ 1000 := fun q hq => by
    rcases (hI.mem q).mp hq with rfl | ⟨r, hr, e⟩
    · show (0 : Nat) ≤ 1000; omega
    · rw [List.getLastD_eq_getLast?]
      cases hg : q.getLast? with
      | none => show (0 : Nat) ≤ 1000; omega
      | some z =>
        have hz : z ∈ q := List.mem_of_getLast? hg
        rw [← e] at hz
        have := (word_len ((hI.ok r hr).1 z (List.mem_of_mem_take hz))).1
        show z.length ≤ 1000; omega
  generalize hled : LedOf w H nd rest = led at *
  generalize hb0 : but (L + 1 + 1 + 1) led = b0 at *
  k_steps
  refine Stop.off ?_
  rename ∀ p, p ∈ led → p.1 < _ => hwk'
  rename Fr _ _ _ _ => F2
  rename News _ _ _ _ => N2
  (with_unfolding_all refine wloop_spec (b0 := b0) ⟨⟨_, B1⟩, F2, XB1, N2, ⟨_, _, _, _, _, TB1⟩, D1, hk1⟩ (fun p hp => ⟨.tail _ (hbsub p hp).1, (hbsub p hp).2, Nat.ne_of_lt (hwk' p (hbsub p hp).1)⟩) hbR eR hbrk hbP hbtb hbrows (.head _) (.tail _ hKl) eK (Nat.ne_of_gt (hwk' _ hKl)) rfl hm2 (by omega) (fun r hr => ⟨(hI.ok r hr).1, (hI.ok r hr).2.2⟩) hnO.nodup (by omega) hPok hPm hE ?_)
  intro h3 tk3 led3 wv wn ow C3 hb3 hwk3 how3 hwr3
  have F3 := C3.F
  have N3 := C3.N
  clear F2 N2
  dsimp only
  k_steps
  refine Stop.off ?_
  k_dflt (refine LCg.Assign_ListComp_U (F₀ := by k_asm) (by rfl) (by with_unfolding_all rfl) (by with_unfolding_all rfl) (by decide) (by rfl) (by decide) (by rfl) (by rfl) (by rfl) ?_)
  k_steps
  refine Stop.off ?_
  rename Fr _ _ _ _ => F4
  rename News _ _ _ _ => N4
  have hwn : ((rows.map (wrow P)).map (·.1)).Nodup := by
    have hq : ∀ r ∈ rows, r.1 ∈ P := fun r hr => by
      have := hPm r hr r.1.length (hI.ok r hr).2.1 (Nat.le_refl _)
      rwa [List.take_length] at this
    have h := hI.nodup
    rw [List.map_map]
    unfold List.Nodup at *
    rw [List.pairwise_map] at *
    exact (List.Pairwise.and_mem.mp h).imp fun {a b} ⟨ha, hb, hab⟩ e => hab (keyP_inj (hq a ha) (hq b hb) (hI.ok a ha).2.1 e)
  have hr1 : 1 ≤ rows.length := by
    cases hrr : rows with
    | nil => exact absurd hrr (hne0 hn1)
    | cons _ _ => simp
  refine sorted_rows F4 N4 hwk3 (wrows_mono how3 hwr3) hwn (by rw [List.length_map]; exact hr1) (by rw [List.length_map]; omega) (by show 4 + 3 + 100 < cLine; decide) fun Ds cs h5 us srt F5 N5 hDs hus hpw hmem hsl => ?_
  clear F4 N4
  k_steps
  refine Stop.off ?_
  rename Fr _ _ _ _ => F6
  rename News _ _ _ _ => N6
  have husl := wrows_len hus
  have hDs6 : (Ds, listOf us.toArray cs) ∈ (Ds, listOf us.toArray cs) :: led3 := .head _
  k_dflt (refine LCg.CompSrc.ledger (by rfl) F6 N6 hDs6 (by rw [sizeLine_eq, List.size_toArray]; omega) (fun _ => rest_ind (fun i ys nx => (∀ p ∈ (Ds, listOf us.toArray cs) :: led3, p ∈ nx) ∧ PairsIn nx ys ((srt.take i).map fun e => (e.2.1, e.2.2))) ?_ ?_ _ 0 _ _ (Nat.zero_add _) ⟨fun p hp => hp, .nil⟩))
  rotate_left
  · rintro i ys nx v I' oI' C' oC' D' m₂ h' tk' E' hi ⟨hnx, hys⟩ hv' hC' hxv F N off ne
    obtain ⟨r, hri⟩ : ∃ r, srt[i]? = some r := ⟨srt[i]'(by rw [← husl]; simpa using hi), by simp⟩
    obtain ⟨v', hv2, ra, ka, kv, kn, t, u, rfl, hA, hB, hC⟩ := wrows_at hus hri
    have hv3 : us[i]? = some v := by simpa using hv'
    rw [hv2] at hv3
    have hv4 := Option.some.inj hv3
    subst hv4
    have hnext : srt.take (i + 1) = srt.take i ++ [r] := by rw [List.take_add_one, hri]; rfl
    have hA5 := hnx _ (.tail _ hA)
    k_steps
    rename News _ _ _ _ => N8
    rename Fr _ _ _ _ => F8
    refine compEnd_one F8 N8 off (by assumption) (.inr ⟨_, .tail _ (hnx _ (.head _)), rfl, _, rfl⟩) ⟨fun p hp => .tail _ (hnx p hp), ?_⟩
    rw [hnext, List.map_append]
    exact pairs_app (pairs_mono (fun p hp => .tail _ hp) hys) (.cons ⟨_, t, u, rfl, .head _⟩ .nil)
  · rintro ys nx ⟨hnx, hys⟩ D h7 tk7 F7 N7 off7
    rw [List.size_toArray, List.take_of_length_le (Nat.le_of_eq husl.symm)] at hys
    clear F6 N6
    dsimp only
    try k_fold
    have hdfs := dfs_sorted hI hnO.nodup hnO.root hpw hmem
    rw [← hdfs] at hys
    have hdl : (dfs P O 3 0).length ≤ 5 := by rw [hdfs, List.length_map]; exact hsl
    have hdo : ∀ e ∈ dfs P O 3 0, PyData.strOk e.1 = true ∧ PyData.strOk e.2 = true := fun e he => by
      rw [hdfs] at he
      obtain ⟨x, hx, rfl⟩ := List.mem_map.mp he
      obtain ⟨r, hr, rfl⟩ := List.mem_map.mp ((hmem x).mp hx)
      exact hX r hr
    have hb7 : ∀ p ∈ b0, p ∈ (D, LCg.lst ys) :: nx := fun p hp => .tail _ (hnx _ (.tail _ (hb3 p hp)))
    have hDn : ∀ p ∈ nx, p.1 ≠ D := fun p hp => off1_mem off7 p hp
    have hDb : ∀ p ∈ b0, p.1 ≠ D := fun p hp => hDn p (hnx _ (.tail _ (hb3 p hp)))
    obtain ⟨K0, hK0⟩ : ∃ K0, K0 = but 112 (but 119 (but 126 ((D, LCg.lst ys) :: nx))) := ⟨_, rfl⟩
    have hK0i : ∀ p ∈ K0, p ∈ (D, LCg.lst ys) :: nx ∧ p.1 ≠ 126 ∧ p.1 ≠ 119 ∧ p.1 ≠ 112 := fun p hp => by
      rw [hK0] at hp
      obtain ⟨h1, h2⟩ := mem_but.mp hp
      obtain ⟨h3, h4⟩ := mem_but.mp h1
      obtain ⟨h5, h6⟩ := mem_but.mp h3
      exact ⟨h5, h6, h4, h2⟩
    have hK0m : ∀ p ∈ (D, LCg.lst ys) :: nx, p.1 ≠ 126 → p.1 ≠ 119 → p.1 ≠ 112 → p ∈ K0 := fun p hp h1 h2 h3 => by
      rw [hK0]; exact mem_but.mpr ⟨mem_but.mpr ⟨mem_but.mpr ⟨hp, h1⟩, h2⟩, h3⟩
    have hDK : (D, LCg.lst ys) ∈ K0 := hK0m _ (.head _) (hDb _ hb126).symm (hDb _ hb119).symm (hDb _ hb112).symm
    have hysK : PairsIn K0 ys (dfs P O 3 0) := by
      rw [hK0]
      have hc : (tabObj #[]).cls ≠ .type "tuple" := by intro e; cases e
      exact pairs_but N7 (fun p hp => (mem_but.mp (mem_but.mp hp).1).1) (hb7 _ hb112) hc (pairs_but N7 (fun p hp => (mem_but.mp hp).1) (hb7 _ hb119) hc (pairs_but N7 (fun p hp => hp) (hb7 _ hb126) hc (pairs_mono (fun p hp => .tail _ hp) hys)))
    have hallK : ∀ p ∈ hdObjs w.params 171 false H (adOf nd 0) ++ (objsOf 71 nd ++ but 112 (but 119 (but 126 (but (L + 1 + 1 + 1) rest)))), p ∈ K0 := fun p hp => by
      obtain ⟨h1, h2, h3, h4⟩ := hall p hp
      exact hK0m p (hb7 p h1) h2 h3 h4
    have h226K : (226, tabObj #[]) ∈ K0 := hK0m _ (hb7 _ hb226) (by decide) (by decide) (by decide)
    have htrK : (H.tr, ({ cls := .ref 171, dict := some H.dx, data := .plain } : Obj)) ∈ K0 := hallK _ (.head _)
    have hdxK : (H.dx, dictOf (hdEnts w.params false H (adOf nd 0)) 3) ∈ K0 := hallK _ (.tail _ (.head _))
    have h6 : ∀ p ∈ hdObjs w.params 171 false H (adOf nd 0) ++ (objsOf 71 nd ++ but 112 (but 119 (but 126 (but (L + 1 + 1 + 1) rest)))), p.1 ≠ 126 := fun p hp => (hall p hp).2.1
    have hdxK' := hdxK
    unfold hdEnts at hdxK'
    have htr7 := (hK0i _ htrK).1
    have hdx7 := (hK0i _ hdxK').1
    k_steps
    refine Stop.off ?_
    k_dflt (refine items_spec ⟨⟨_, B1⟩, by assumption, XB1, by assumption, ⟨_, _, _, _, _, TB1⟩, D1, hk1⟩ ?_ ?_ (fun p hp => (hK0i p (hallK p hp)).1) h6 hnO hout hapN hPl3 (by omega) hPw hc1 (.inl (hb7 _ hb126)) ?_)
    · decide
    · decide
    intro h9 tk9 it l vs n9 news9 C9 hlit hoff9 hsub9 hS9 hp9
    have F9 := C9.F
    have N9 := C9.N
    clear F7 N7 htr7 hdx7
    k_steps
    refine Stop.off ?_
    rename Fr _ _ _ _ => F10
    rename News _ _ _ _ => N10
    refine list_of_iter (by rfl) F10 N10 (.head _) (.tail _ (.head _)) (by rw [pairs_len hp9]; omega) ?_
    intro D2 c2 h11 tk11 F11 N11 hD2
    clear F10 N10
    have s9 : ∀ p ∈ news9, p ∈ (D2, listOf vs.toArray c2) :: but it ((it, itObj l) :: (l, listOf vs.toArray n9) :: news9) := fun p hp => .tail _ (mem_but.mpr ⟨.tail _ (.tail _ hp), Nat.ne_of_lt (hoff9 p hp).2⟩)
    have k11 : ∀ p ∈ K0, p ∈ (D2, listOf vs.toArray c2) :: but it ((it, itObj l) :: (l, listOf vs.toArray n9) :: news9) := fun p hp => s9 p (hsub9 p (hK0i p hp).1 (hK0i p hp).2.1)
    have hp11 : PairsIn ((D2, listOf vs.toArray c2) :: but it ((it, itObj l) :: (l, listOf vs.toArray n9) :: news9)) vs (dfs P O 3 0) := pairs_mono s9 hp9
    have t119 := s9 _ (hsub9 _ (hb7 _ hb119) (by decide))
    have t112 := s9 _ (hsub9 _ (hb7 _ hb112) (by decide))
    have hS11 := tabSt_mono hS9 s9
    have hL2 : (D2, listOf vs.toArray c2) ∈ (D2, listOf vs.toArray c2) :: but it ((it, itObj l) :: (l, listOf vs.toArray n9) :: news9) := .head _
    generalize (D2, listOf vs.toArray c2) :: but it ((it, itObj l) :: (l, listOf vs.toArray n9) :: news9) = led11 at *
    k_steps
    refine Stop.off ?_
    rename News _ _ _ _ => N12
    have hpl : plainAll ((dfs P O 3 0).map fun r => PyData.tuple [.str r.1, .str r.2]) = true := plainAll_of fun d hd => by
      obtain ⟨e, he, rfl⟩ := List.mem_map.mp hd
      obtain ⟨h1, h2⟩ := hdo e he
      simp only [plainD, plainAll, h1, h2, Bool.and_self]
    have hdp : PyData.depthAll ((dfs P O 3 0).map fun r => PyData.tuple [.str r.1, .str r.2]) ≤ 10 := depthAll_le fun d hd => by
      obtain ⟨e, he, rfl⟩ := List.mem_map.mp hd
      simp [PyData.depth, PyData.depthAll]
    k_dflt (refine ne_rd (c := true) N12 (rd_list hL2 (rdAll_pairs hp11)) (rd_list (k11 _ hDK) (rdAll_pairs (pairs_mono k11 hysK))) (by rw [plainD]; exact hpl) (by rw [plainD]; exact hpl) (by rw [PyData.depth]; omega) (by rw [PyData.depth]; omega) (by show 4 + 3 + 64 < cLine; decide) ⟨fun _ => rfl, fun _ => rfl⟩ ?_)
    have htr12 := k11 _ htrK
    have hdx12 := k11 _ hdxK'
    k_steps
    refine Stop.off ?_
    k_dflt (refine keys_spec (P := P) (O := O) ⟨⟨_, B1⟩, by assumption, XB1, by assumption, ⟨_, _, _, _, _, TB1⟩, D1, hk1⟩ ?_ ?_ (fun p hp => k11 p (hallK p hp)) h6 hnO hout hapN hPl3 (by omega) hPw hc1 hS11 hc3 t112 ?_)
    · decide
    · decide
    intro a13 c13 g13 gs13 h13 tk13 it13 l13 vs13 n13 ps13 news13 hbare13 C13 hlit13 hoff13 hsub13 hS13 hitC13 hLC13 G13
    have F13 := C13.F
    have N13 := C13.N
    have h112i : (112 : Nat) < it13 := (hoff13 _ (hsub13 _ t112 (by decide))).2
    have hit13 : (it13, itObj l13) ∈ (112, tabObj ps13) :: but 112 ((it13, itObj l13) :: (l13, listOf vs13.toArray n13) :: news13) := .tail _ (mem_but.mpr ⟨.head _, Nat.ne_of_gt h112i⟩)
    have hN13 := N13 _ hit13
    k_steps
    refine Stop.off ?_
    rename Fr _ _ _ _ => F14
    rename News _ _ _ _ => N14
    refine list_gen (A := callerA.deeper _) G13 F14 N14 hN13.2 ⟨hLC13, fun q hq hqi => ?_⟩ (by rw [List.length_map]; omega) (hg.push hbare13) ?_
    · rcases List.mem_cons.mp hq with rfl | hq
      · exact Nat.lt_trans h112i hitC13
      rcases List.mem_cons.mp (mem_but.mp hq).1 with rfl | hq
      · exact absurd rfl hqi
      rcases List.mem_cons.mp hq with rfl | hq
      · exact Nat.lt_trans hlit13 hitC13
      · exact Nat.lt_trans (hoff13 q hq).2 hitC13
    intro l15 vs15 n15 h15 tk15 gs15 F15 N15 hl15 hvs15 hb15
    clear F14
    have s15 : ∀ p ∈ news13, p.1 ≠ 112 → p ∈ (l15, listOf vs15.toArray n15) :: but it13 ((112, tabObj ps13) :: but 112 ((it13, itObj l13) :: (l13, listOf vs13.toArray n13) :: news13)) := fun p hp h => .tail _ (mem_but.mpr ⟨.tail _ (mem_but.mpr ⟨.tail _ (.tail _ hp), h⟩), Nat.ne_of_lt (hoff13 p hp).2⟩)
    have k15 : ∀ p ∈ K0, p ∈ (l15, listOf vs15.toArray n15) :: but it13 ((112, tabObj ps13) :: but 112 ((it13, itObj l13) :: (l13, listOf vs13.toArray n13) :: news13)) := fun p hp => s15 p (hsub13 p (k11 p hp) (hK0i p hp).2.1) (hK0i p hp).2.2.2
    have t119b := s15 _ (hsub13 _ t119 (by decide)) (by decide)
    have t112b : (112, tabObj ps13) ∈ (l15, listOf vs15.toArray n15) :: but it13 ((112, tabObj ps13) :: but 112 ((it13, itObj l13) :: (l13, listOf vs13.toArray n13) :: news13)) := .tail _ (mem_but.mpr ⟨.head _, Nat.ne_of_lt h112i⟩)
    have hS15 := tabSt_mono (tabSt_butIt N14 hS13 hit13) fun p hp => (.tail (l15, listOf vs15.toArray n15) hp : p ∈ (l15, listOf vs15.toArray n15) :: _)
    have hl15m : (l15, listOf vs15.toArray n15) ∈ (l15, listOf vs15.toArray n15) :: but it13 ((112, tabObj ps13) :: but 112 ((it13, itObj l13) :: (l13, listOf vs13.toArray n13) :: news13)) := .head _
    have hl15a : l15 ≠ 126 := by
      obtain ⟨ps, hps⟩ := tabSt_mem hS13
      exact Nat.ne_of_gt (hl15 _ hps)
    have hl15b : l15 ≠ 119 := Nat.ne_of_gt (hl15 _ (.tail _ (mem_but.mpr ⟨.tail _ (.tail _ (hsub13 _ t119 (by decide))), by decide⟩)))
    clear N14 hN13 hit13 hl15
    generalize (l15, listOf vs15.toArray n15) :: but it13 ((112, tabObj ps13) :: but 112 ((it13, itObj l13) :: (l13, listOf vs13.toArray n13) :: news13)) = led15 at *
    have htr15 := k15 _ htrK
    have hdx15 := k15 _ hdxK'
    k_steps
    refine Stop.off ?_
    k_dflt (refine values_spec (P := P) (O := O) ⟨⟨_, B1⟩, by assumption, XB1, by assumption, ⟨_, _, _, _, _, TB1⟩, D1, hk1⟩ ?_ ?_ (fun p hp => k15 p (hallK p hp)) h6 hnO hout hapN hPl3 (by omega) hPw hc1 hS15 hc2 t119b ?_)
    · decide
    · decide
    intro a17 c17 g17 gs17 h17 tk17 it17 l17 vs17 n17 ps17 news17 hbare17 C17 hlit17 hoff17 hsub17 hS17 hitC17 hLC17 G17
    have F17 := C17.F
    have N17 := C17.N
    have h119i : (119 : Nat) < it17 := (hoff17 _ (hsub17 _ t119b (by decide))).2
    have hit17 : (it17, itObj l17) ∈ (119, tabObj ps17) :: but 119 ((it17, itObj l17) :: (l17, listOf vs17.toArray n17) :: news17) := .tail _ (mem_but.mpr ⟨.head _, Nat.ne_of_gt h119i⟩)
    have hN17 := N17 _ hit17
    k_steps
    refine Stop.off ?_
    rename Fr _ _ _ _ => F18
    rename News _ _ _ _ => N18
    refine list_gen (A := callerA.deeper _) G17 F18 N18 hN17.2 ⟨hLC17, fun q hq hqi => ?_⟩ (by rw [List.length_map]; omega) (hb15.push hbare17) ?_
    · rcases List.mem_cons.mp hq with rfl | hq
      · exact Nat.lt_trans h119i hitC17
      rcases List.mem_cons.mp (mem_but.mp hq).1 with rfl | hq
      · exact absurd rfl hqi
      rcases List.mem_cons.mp hq with rfl | hq
      · exact Nat.lt_trans hlit17 hitC17
      · exact Nat.lt_trans (hoff17 q hq).2 hitC17
    intro l19 vs19 n19 h19 tk19 gs19 F19 N19 hl19 hvs19 hb19
    clear F18
    have s19 : ∀ p ∈ news17, p.1 ≠ 119 → p ∈ (l19, listOf vs19.toArray n19) :: but it17 ((119, tabObj ps17) :: but 119 ((it17, itObj l17) :: (l17, listOf vs17.toArray n17) :: news17)) := fun p hp h => .tail _ (mem_but.mpr ⟨.tail _ (mem_but.mpr ⟨.tail _ (.tail _ hp), h⟩), Nat.ne_of_lt (hoff17 p hp).2⟩)
    have k19 : ∀ p ∈ K0, p ∈ (l19, listOf vs19.toArray n19) :: but it17 ((119, tabObj ps17) :: but 119 ((it17, itObj l17) :: (l17, listOf vs17.toArray n17) :: news17)) := fun p hp => s19 p (hsub17 p (k15 p hp) (hK0i p hp).2.1) (hK0i p hp).2.2.1
    have t119c : (119, tabObj ps17) ∈ (l19, listOf vs19.toArray n19) :: but it17 ((119, tabObj ps17) :: but 119 ((it17, itObj l17) :: (l17, listOf vs17.toArray n17) :: news17)) := .tail _ (mem_but.mpr ⟨.head _, Nat.ne_of_lt h119i⟩)
    have t112c := s19 _ (hsub17 _ t112b (by show (112 : Nat) ≠ 126; decide)) (by show (112 : Nat) ≠ 119; decide)
    have hS19 := tabSt_mono (tabSt_butIt N18 hS17 hit17) fun p hp => (.tail (l19, listOf vs19.toArray n19) hp : p ∈ (l19, listOf vs19.toArray n19) :: _)
    have hl19m : (l19, listOf vs19.toArray n19) ∈ (l19, listOf vs19.toArray n19) :: but it17 ((119, tabObj ps17) :: but 119 ((it17, itObj l17) :: (l17, listOf vs17.toArray n17) :: news17)) := .head _
    have hl15c := s19 _ (hsub17 _ hl15m hl15a) hl15b
    clear N18 hN17 hit17 hl19
    generalize (l19, listOf vs19.toArray n19) :: but it17 ((119, tabObj ps17) :: but 119 ((it17, itObj l17) :: (l17, listOf vs17.toArray n17) :: news17)) = led19 at *
    k_steps
    refine Stop.off ?_
    rename Fr _ _ _ _ => F20
    rename News _ _ _ _ => N20
    rename ∀ p, p ∈ led19 → p.1 < _ => hl20
    rename_i l20 _
    have hysl := pairs_len hysK
    have hk20 : ∀ p ∈ K0, p ∈ (l20, listOf #[Value.ref l15, Value.ref l19] 0) :: led19 := fun p hp => .tail _ (k19 p hp)
    have hw20 := hk20 _ hDK
    k_dflt (refine LCg.ListComp_U (F₀ := by k_asm) (by with_unfolding_all rfl) (by decide) (by rfl) (by decide) (by rfl) ?_)
    k_steps
    refine Stop.off ?_
    rename Fr _ _ _ _ => Fc20
    rename News _ _ _ _ => Nc20
    k_dflt (refine LCg.CompSrc.ledger (by rfl) Fc20 Nc20 hw20 (by rw [sizeLine_eq, List.size_toArray]; omega) (fun _ => rest_ind (fun i zs nz => (∀ p ∈ (l20, listOf #[Value.ref l15, Value.ref l19] 0) :: led19, p ∈ nz) ∧ StrsAre zs (((dfs P O 3 0).take i).map Prod.fst)) ?_ ?_ _ 0 _ _ (Nat.zero_add _) ⟨fun p hp => hp, .nil⟩))
    rotate_left
    · rintro i zs nz v I' oI' C' oC' D' m₂ h' tk' E' hi ⟨hnz, hzs⟩ hv' hC' hxv F N off ne
      have hil : i < (dfs P O 3 0).length := by rw [← hysl]; simpa using hi
      obtain ⟨r, hri⟩ : ∃ r, (dfs P O 3 0)[i]? = some r := ⟨(dfs P O 3 0)[i], by simp [hil]⟩
      obtain ⟨v', hv2, ra, t, u, rfl, hA⟩ := pairs_at hysK hri
      have hv3 : ys[i]? = some v := by simpa using hv'
      rw [hv2] at hv3
      have hv4 := Option.some.inj hv3
      subst hv4
      have hnext : (dfs P O 3 0).take (i + 1) = (dfs P O 3 0).take i ++ [r] := by rw [List.take_add_one, hri]; rfl
      have hA5 := hnz _ (hk20 _ hA)
      unfold pairObj at hA5
      k_steps
      refine LCg.CompEnd.intro (by assumption) (by assumption) nz (fun p hp => hp) off (.inr ⟨_, hnz _ hw20, rfl, _, rfl⟩) ⟨hnz, ?_⟩
      rw [hnext, List.map_append]
      exact strs_snoc hzs _ _
    · rintro zs nz ⟨hnz, hzs⟩ D21 h21 tk21 F21 N21 off21
      rw [List.size_toArray, hysl, List.take_length] at hzs
      clear Fc20 Nc20
      dsimp only
      try k_fold
      have hk21 : ∀ p ∈ K0, p ∈ (D21, LCg.lst zs) :: nz := fun p hp => .tail _ (hnz p (hk20 p hp))
      have hw21 := hk21 _ hDK
      k_steps
      refine Stop.off ?_
      k_dflt (refine LCg.ListComp_U (F₀ := by k_asm) (by with_unfolding_all rfl) (by decide) (by rfl) (by decide) (by rfl) ?_)
      k_steps
      refine Stop.off ?_
      rename Fr _ _ _ _ => Fc21
      rename News _ _ _ _ => Nc21
      k_dflt (refine LCg.CompSrc.ledger (by rfl) Fc21 Nc21 hw21 (by rw [sizeLine_eq, List.size_toArray]; omega) (fun _ => rest_ind (fun i zt nt => (∀ p ∈ (D21, LCg.lst zs) :: nz, p ∈ nt) ∧ StrsAre zt (((dfs P O 3 0).take i).map Prod.snd)) ?_ ?_ _ 0 _ _ (Nat.zero_add _) ⟨fun p hp => hp, .nil⟩))
      rotate_left
      · rintro i zt nt v I' oI' C' oC' D' m₂ h' tk' E' hi ⟨hnt, hzt⟩ hv' hC' hxv F N off ne
        have hil : i < (dfs P O 3 0).length := by rw [← hysl]; simpa using hi
        obtain ⟨r, hri⟩ : ∃ r, (dfs P O 3 0)[i]? = some r := ⟨(dfs P O 3 0)[i], by simp [hil]⟩
        obtain ⟨v', hv2, ra, t, u, rfl, hA⟩ := pairs_at hysK hri
        have hv3 : ys[i]? = some v := by simpa using hv'
        rw [hv2] at hv3
        have hv4 := Option.some.inj hv3
        subst hv4
        have hnext : (dfs P O 3 0).take (i + 1) = (dfs P O 3 0).take i ++ [r] := by rw [List.take_add_one, hri]; rfl
        have hA5 := hnt _ (hk21 _ hA)
        unfold pairObj at hA5
        k_steps
        refine LCg.CompEnd.intro (by assumption) (by assumption) nt (fun p hp => hp) off (.inr ⟨_, hnt _ hw21, rfl, _, rfl⟩) ⟨hnt, ?_⟩
        rw [hnext, List.map_append]
        exact strs_snoc hzt _ _
      · rintro xs nx2 ⟨hnx2, hxs⟩ D22 h22 tk22 F22 N22 off22
        rw [List.size_toArray, hysl, List.take_length] at hxs
        clear Fc21 Nc21
        dsimp only
        try k_fold
        k_steps
        refine Stop.off ?_
        rename Fr _ _ _ _ => F23
        rename News _ _ _ _ => N23
        have up : ∀ p ∈ led19, p ∈ nx2 := fun p hp => hnx2 _ (.tail _ (hnz _ (.tail _ hp)))
        have hos1 : StrsOk ((dfs P O 3 0).map Prod.fst) := fun z hz => by
          obtain ⟨e, he, rfl⟩ := List.mem_map.mp hz
          exact (hdo e he).1
        have hos2 : StrsOk ((dfs P O 3 0).map Prod.snd) := fun z hz => by
          obtain ⟨e, he, rfl⟩ := List.mem_map.mp hz
          exact (hdo e he).2
        have hplain : plainD (.list [.list (((dfs P O 3 0).map Prod.fst).map PyData.str), .list (((dfs P O 3 0).map Prod.snd).map PyData.str)]) = true := by
          simp only [plainD, plainAll, plainAll_strs hos1, plainAll_strs hos2, Bool.and_self]
        have hdepth : PyData.depth (.list [.list (((dfs P O 3 0).map Prod.fst).map PyData.str), .list (((dfs P O 3 0).map Prod.snd).map PyData.str)]) ≤ 60 := by
          have h1 := depth_strs ((dfs P O 3 0).map Prod.fst)
          have h2 := depth_strs ((dfs P O 3 0).map Prod.snd)
          simp only [PyData.depth, PyData.depthAll]; omega
        k_dflt (refine eq_rd (c := true) N23 (rd_list (vs := [_, _]) (.tail _ (.tail _ (hnx2 _ (.tail _ (hnz _ (.head _)))))) (rdAll_cons (rd_list (.tail _ (.tail _ (up _ hl15c))) (rdAll_strs hvs15)) (rdAll_cons (rd_list (.tail _ (.tail _ (up _ hl19m))) (rdAll_strs hvs19)) rdAll_nil))) (rd_list (vs := [_, _]) (.head _) (rdAll_cons (rd_list (.tail _ (.tail _ (hnx2 _ (.head _)))) (rdAll_strs hzs)) (rdAll_cons (rd_list (.tail _ (.head _)) (rdAll_strs hxs)) rdAll_nil))) hplain hplain hdepth hdepth (by show 4 + 3 + 64 < cLine; decide) ⟨fun _ => rfl, fun _ => rfl⟩ ?_)
        k_steps
        rename Fr _ _ _ _ => F24
        rename News _ _ _ _ => N24
        obtain ⟨ps126, h126⟩ := tabSt_mem hS19
        exact hQ _ _ gs19 _ _ ⟨⟨_, B1⟩, F24, XB1, N24, ⟨_, _, _, _, _, TB1⟩, D1, hk1⟩ hb19 (.tail _ (.tail _ (up _ (k19 _ h226K)))) ⟨_, .tail _ (.tail _ (up _ h126))⟩ ⟨_, .tail _ (.tail _ (up _ t119c))⟩ ⟨_, .tail _ (.tail _ (up _ t112c))⟩
end
end Mine
end
section
open Lean Elab Tactic Meta PySem PySem.W PySem.Calls PyProof.Rows
set_option pp.deepTerms false
set_option pp.maxSteps 800
set_option pp.deepTerms.threshold 5
namespace Mine
section
variable {prog : Program} {w : World} {base h : Heap} {m : Str → Option Value}
set_option maxRecDepth 100000
theorem law_init {L D2 l2 D1 l1 kd cc na ndx tr dx : Nat} {okd oc o4 o3 o2 o1 oD2 : Obj} {tk0 t0 t1 t2 : Tok} {v4 v3 v2 : Option Value}
    (N : News base L h [(D2, oD2), (l2, listOf #[.ref D1] 0), (D1, { cls := .type "tuple", data := .seq #[] }), (l1, listOf #[] 0), (kd, okd), (cc, oc), (na, { cls := .ref 71, dict := some ndx, slots := #[some (.ref cc), some (.ref 44), some (.ref 44), some (.str "" tk0)] }), (ndx, dictOf [] 0), (tr, instObj 171 dx), (dx, dictOf (hdEnts w.params false ⟨tr, dx, kd, okd, t0, t1, t2⟩ na) 3), (L + 1 + 1 + 1 + 1, o4), (L + 1 + 1 + 1, o3), (L + 1 + 1, o2), (L + 1, o1), (226, tabObj #[]), (126, tabObj #[]), (119, tabObj #[]), (112, tabObj #[])])
    (k1 : okd.IsDictOf (strKind prog w) []) (k2 : oc.IsDictOf (strKind prog w) []) (k3 : (cc == sysModules) = false) (e1 : o1.data = .cell (some (.ref l2))) (e2 : o2.data = .cell v2) (e3 : o3.data = .cell v3) (e4 : o4.data = .cell v4)
    (c0 : L + 1 + 1 + 1 + 1 < dx) (c1 : dx < tr) (c2 : tr < ndx) (c3 : ndx < na) (c4 : na < cc) (c5 : cc < kd) (c6 : kd < l1) (c7 : l1 < D1) (c8 : D1 < l2) (c9 : l2 < D2) (c10 : 226 < L) :
    ∃ H nd rest, H.tr = tr ∧ News base L h (LedOf w H nd rest) ∧ LS prog w L H nd [[]] [none] [] rest l2 [.ref D1] 0 [[]] l1 [] 0 [] := by
  refine ⟨⟨tr, dx, kd, okd, t0, t1, t2⟩, [⟨na, ndx, cc, oc, .str "" tk0, .ref 44, .ref 44⟩], [(l2, listOf #[.ref D1] 0), (D1, tupO []), (l1, listOf #[] 0), (L + 1 + 1 + 1 + 1, o4), (L + 1 + 1 + 1, o3), (L + 1 + 1, o2), (L + 1, o1), (226, tabObj #[]), (126, tabObj #[]), (119, tabObj #[]), (112, tabObj #[])], rfl, fun p hp => N p ?_, ?_⟩
  · simp only [LedOf, hdObjs, objsOf, List.flatMap_cons, List.flatMap_nil, Nd.objs, List.cons_append, List.nil_append, List.append_nil, List.mem_cons, List.not_mem_nil, or_false] at hp ⊢
    rcases hp with h | h | h | h | h | h | h | h | h | h | h | h | h | h | h | h | h
    all_goals (subst h; repeat (first | exact .inl rfl | exact rfl | apply Or.inr))
  · refine ⟨⟨⟨rfl, ?_, ?_, rfl, by simp, ?_, ?_⟩, k1, ⟨rfl, ?_, ?_⟩, ?_, ?_⟩, ⟨o1, by simp, e1⟩, ⟨_, o2, by simp, e2⟩, ⟨_, o3, by simp, e3⟩, ⟨_, o4, by simp, e4⟩, by simp, by simp, by simp, by simp, by simp, .nil, .head _, .cons (a := D1) (wv := []) (.tail _ (.head _)) .nil .nil⟩
    · intro i n p hn hp
      rcases i with _ | i
      · cases hn; cases hp; exact k2
      · simp at hn
    · intro n hn
      rw [List.mem_singleton.mp hn]; exact k3
    · intro p hp
      rw [List.mem_singleton.mp hp]; simp
    · intro i n p hn hp
      rcases i with _ | i
      · cases hn; cases hp; exact ⟨tk0, rfl⟩
      · simp at hn
    · intro i n hn _
      rcases i with _ | i
      · cases hn; rfl
      · simp at hn
    · intro i n x y hn hO
      rcases i with _ | i
      · simp at hO
      · simp at hn
    · intro i n hn
      rcases i with _ | i
      · cases hn; rfl
      · simp at hn
    · unfold Apart
      simp only [hdObjs, objsOf, List.flatMap_cons, List.flatMap_nil, Nd.objs, List.cons_append, List.nil_append, List.append_nil, List.map_cons, List.map_nil, List.nodup_cons, List.mem_cons, List.not_mem_nil, or_false, not_or, List.nodup_nil, not_false_eq_true, and_true]
      repeat' apply And.intro
      all_goals first | exact Nat.ne_of_gt (by omega) | exact Nat.ne_of_lt (by omega)
end
end Mine
end
section
theorem Mine.switch_S20 : True := by
  w_top off
  trivial
open Lean Elab Tactic Meta PySem PySem.W PySem.Calls PyProof.Rows
set_option pp.deepTerms false
set_option pp.maxSteps 800
set_option pp.deepTerms.threshold 5
namespace Mine
local macro_rules | `(tactic| walk_at "exec For Name Name cons nil") => `(tactic| (refine Mine.Stop.on ?_))
local macro_rules | `(tactic| walk_at "exec For Name Call cons nil") => `(tactic| (refine Mine.Stop.on ?_))
local macro_rules | `(tactic| walk_at "exec Assign cons ListComp") => `(tactic| (refine Mine.Stop.on ?_))
local macro_rules | `(tactic| walk_at "LeaveC") => `(tactic| fail "here")
local macro_rules | `(tactic| k_room) => `(tactic| first | ktr_room | ((simp only [Mine.mark_depth, depth_under_make, depth_under_kw, depth_in1, depth_deeper, depth_caller]); (try dsimp only [ktrTop]); (try simp only [recursionLimit] at *); omega))
local macro_rules | `(tactic| k_all) => `(tactic| first | assumption | exact Mine.offLt (by assumption) | exact Mine.offLt2 (by assumption) (by assumption) | (refine List.forall_mem_append.mpr ⟨?a, ?b⟩; (case a => k_all); (case b => k_all)))
local macro_rules | `(tactic| walk_at "setItem ref str") => `(tactic| (k_here; k_dflt (refine' kda_setB (knd := PySem.strKind _ _) ?F ?N ?hm ?d (strKind_is _ _ _ _) ?z ?_; (case F => k_asm); (case N => k_asm); (case hm => k_mem); (case d => k_asm); (case z => k_asm)); intro h' o' F' N' hd'))
local macro_rules | `(tactic| walk_at "compareOp Is str ref") => `(tactic| (k_here; refine wpAny_is_other (by rfl) (by intro x; cases x) ?_))
local macro_rules | `(tactic| k_mem) => `(tactic| assumption)
local macro_rules | `(tactic| walk_at "eval Name") => `(tactic| (k_here; (with_reducible show wpAny _ _ (eval (Expr.Name _ _) (envOf _ _ _ _ _)) _ _ _); k_dflt (refine' ld ?k1 ?k2 ?_; (case k1 => k_asm); (case k2 => first | exact rfl | assumption); k_whole)))
local macro_rules | `(tactic| walk_at "eval Name") => `(tactic| (k_here; (with_reducible show wpAny _ _ (eval (Expr.Name _ _) (envOfC _ _ _ _ _)) _ _ _); k_dflt (refine' nameX_L ?F ?v ?_ ?a ?b; (case F => k_asm); (case a => rfl); (case b => rfl); (case v => first | rfl | assumption); k_whole)))
local macro_rules | `(tactic| walk_at "call builtin:len") => `(tactic| (k_here; (with_reducible show wpAny _ _ (call (Value.builtin "len") [Value.ref _]) _ _ _); k_dflt (first | refine len_L (by k_asm) (by k_mem) (by omega) ?_ | refine len_T (by k_asm) (by k_mem) (by omega) ?_)))
local macro_rules | `(tactic| walk_at "subscriptTail") => `(tactic| (k_here; (with_reducible show wpAny _ _ (subscriptTail _ (PySem.Expr.Slice _ _ _ _) (Value.ref _) (Value.ref _)) _ _ _); refine Mine.Stop.on ?_))
local macro_rules | `(tactic| walk_at "compareOp Eq ref ref") => `(tactic| (refine Mine.Stop.on ?_))
local macro_rules | `(tactic| walk_at "compareOp NotEq ref ref") => `(tactic| (refine Mine.Stop.on ?_))
local macro_rules | `(tactic| walk_at "call type:list") => `(tactic| (k_here; k_dflt (refine list_of_tuple (by k_asm) (by k_asm) (by k_mem) (by omega) ?_); intro D' c' h' F' N' l1; (try k_sweep)))
local macro_rules | `(tactic| walk_at "call ref") => `(tactic| ((with_reducible show wpAny _ _ (call (Value.ref 294) _) _ _ _); refine Mine.Stop.on ?_))
local macro_rules | `(tactic| walk_at "call ref") => `(tactic| ((with_reducible show wpAny _ _ (call (Value.ref 299) _) _ _ _); refine Mine.Stop.on ?_))
local macro_rules | `(tactic| walk_at "call ref") => `(tactic| ((with_reducible show wpAny _ _ (call (Value.ref 306) _) _ _ _); refine Mine.Stop.on ?_))
local macro_rules | `(tactic| walk_at "call ref") => `(tactic| ((with_reducible show wpAny _ _ (call (Value.ref 313) _) _ _ _); refine Mine.Stop.on ?_))
local macro_rules | `(tactic| walk_at "call ref") => `(tactic| ((with_reducible show wpAny _ _ (call (Value.ref 97) _) _ _ _); refine Mine.Stop.on ?_))
local macro_rules | `(tactic| walk_at "call ref") => `(tactic| ((with_reducible show wpAny _ _ (call (Value.ref 138) _) _ _ _); refine Mine.Stop.on ?_))
local macro_rules | `(tactic| walk_at "call ref") => `(tactic| ((with_reducible show wpAny _ _ (call (Value.ref 145) _) _ _ _); refine Mine.Stop.on ?_))
local macro_rules | `(tactic| walk_at "call ref") => `(tactic| ((with_reducible show wpAny _ _ (call (Value.ref 110) _) _ _ _); refine Mine.Stop.on ?_))
local macro_rules | `(tactic| walk_at "call ref") => `(tactic| ((with_reducible show wpAny _ _ (call (Value.ref 131) _) _ _ _); refine Mine.Stop.on ?_))
local macro_rules | `(tactic| walk_at "call ref") => `(tactic| ((with_reducible show wpAny _ _ (call (Value.ref 117) _) _ _ _); refine Mine.Stop.on ?_))
local macro_rules | `(tactic| walk_at "call ref") => `(tactic| ((with_reducible show wpAny _ _ (call (Value.ref 124) _) _ _ _); refine Mine.Stop.on ?_))
local macro_rules | `(tactic| walk_at "exec For") => `(tactic| (refine Mine.Stop.on ?_))
local macro_rules | `(tactic| kn_posts) => `(tactic| refine Mine.kn_postG (by assumption) (fun _ _ => rfl) (by with_unfolding_all rfl) ?_)
local macro_rules | `(tactic| km_lay $_T $_hmg $_ho $_hd $_cd) => do
  let h8 := Lean.mkIdent `hT8
  let h9 := Lean.mkIdent `hT9
  `(tactic| (rename Frag.In _ _ => KX9
             have $h9 : TabsAt [(230, 226), (130, 126), (123, 119), (116, 112)] _ := List.forall_mem_cons.mpr ⟨⟨codeHd_of_K KX9 (by kernel_rfl), $h8 226 (by k_mem)⟩, List.forall_mem_cons.mpr ⟨⟨codeHd_of_K KX9 (by kernel_rfl), $h8 126 (by k_mem)⟩, List.forall_mem_cons.mpr ⟨⟨codeHd_of_K KX9 (by kernel_rfl), $h8 119 (by k_mem)⟩, List.forall_mem_cons.mpr ⟨⟨codeHd_of_K KX9 (by kernel_rfl), $h8 112 (by k_mem)⟩, fun _ h => nomatch h⟩⟩⟩⟩))
theorem with_own {prog : Program} {w : World} {A : Around} {env : Env} {E : Value → Shared → Prop} {s : Shared} {Q : Flow → Shared → Prop} {body : Stmt} (f : PassesOwn (model prog w) A env E → wpAny (model prog w) A (exec body env) Q E s) (h : PassesOwn (model prog w) A env E) : wpAny (model prog w) A (exec body env) Q E s := f h
set_option maxHeartbeats 8000000 in
set_option maxRecDepth 100000 in
theorem law_holds : PySem.Challenge.rw_ew0015_01.Holds := Mine.hd (by
  k_go0
  all_goals (try k_fold)
  k_steps
  refine Stop.off ?_
  rename Fr _ _ _ _ => F0
  rename News _ _ _ _ => N0
  obtain ⟨H, nd, rest, hHtr, N1, hLS⟩ := law_init (prog := PySem.Challenge.rw_ew0015_01.row.prog) N0 (by assumption) (by assumption) (by assumption) (by assumption) (by assumption) (by assumption) (by assumption) (by omega) (by omega) (by omega) (by omega) (by omega) (by omega) (by omega) (by omega) (by omega) (by omega) (by omega)
  clear N0
  refine with_own (fun hE => ?_) (by passes_own)
  (with_unfolding_all refine loop_spec (H := H) (nd := nd) (P := [[]]) (O := [none]) (ks := []) (rest := rest) (tv := []) (tn := 0) (rows := []) ⟨⟨_, by assumption⟩, F0, by assumption, N1, ⟨_, _, _, _, _, by assumption⟩, ?D, rfl⟩ ⟨hLS, Inv.nil, (fun _ h => nomatch h), Nat.zero_le _, by decide, Nat.zero_le _, ?t1, rfl, ?t3, Nat.ne_of_lt (by omega), fun h => absurd h (by decide)⟩ (by assumption) (by assumption) (by omega) hE ?_)
  case D => exact fun a ha => nomatch ha
  case t1 => rw [hHtr]; rfl
  case t3 => with_unfolding_all rfl
  intro h2 tk2 m2 H2 nd2 P2 O2 ks2 rest2 rv2 rn2 tb2 tv2 tn2 rows2 n2 hn1 hn5 C2 T2
  (with_unfolding_all refine tail_spec (n := n2) C2 T2 hn1 hn5 (AllBare.of_eq (by assumption)) (by assumption) (by assumption) (by assumption) hE ?_)
  intro h3 tk3 gs3 m3 led3 C3 hgs h226 ⟨ps1, h126⟩ ⟨ps2, h119⟩ ⟨ps3, h112⟩
  exact ⟨⟨⟨true, rfl, rfl⟩, fun b o e => C3.F.keep b o e, rfl, hgs⟩, GrownAt.of C3.N h226, GrownAt.of C3.N h126, GrownAt.of C3.N h119, GrownAt.of C3.N h112, trivial⟩)
end Mine
end
theorem PySem.Challenge.cw_ew0015_01_holds : PySem.Challenge.rw_ew0015_01.Holds := by
  exact Mine.law_holds
