import PyProof.Rows.All
import Wide.All
import OpenK.AllK
import Wide.FinOn
import PySem.Challenge.RW_fy0024_01
open PySem PySem.W PyProof.Rows PySem.Spec PySem.Calls
set_option Elab.async false
set_option maxRecDepth 100000
set_option maxHeartbeats 8000000
namespace Mine
open_top hd for PySem.Challenge.rw_fy0024_01
end Mine

-- Base
section
open PySem PySem.W PyProof.Rows PySem.Spec PySem.Calls
namespace Mine
def Tells (n : Nat) (w : World) (mean : ExcName → Option Value) (mg mb : Str → Option Value) (f : Addr) (vs : List Value) (R : Value → Prop) : Prop :=
  ∀ (dp un : Nat) (gd : Option (List Code)) (cn : Str) (cs : Scope) (a : Addr) (ccd : Value) (cl : List (Str × Addr)) (outer : List Env) (A₀ : Around) (base h₀ : Heap) (L : Addr) (m : Str → Option Value) (news : List (Addr × Obj)) (s : Shared)
    (Q E : Value → Shared → Prop),
    Below A₀ base outer h₀ → Fr h₀ L s.heap m → (hd.heap_39 w.params).In h₀ → News h₀ L s.heap news → Top hd.view_39 (looseW hd.view_39 []) mean mg mb h₀ → cs.kind = .function → dp + n < recursionLimit → un + 8 * n < cLine →
    (∀ r h' tk', Fr h₀ L h' m → News h₀ L h' news → R r → Q r { s with heap := h', toks := tk' }) →
    wpAny (model PySem.Challenge.rw_fy0024_01.row.prog w) (ktrTop dp un gd cn cs L a ccd cl outer) (call (.ref f) vs) Q E s


def Stop (P : Prop) : Prop := P
theorem stop_ {P : Prop} (h : Stop P) : P := h
theorem ret_int {x y : Int} {t : Tok} (h : x = y) : ∃ t', Value.int x t = Value.int y t' := ⟨t, by rw [h]⟩
section
variable {n : Nat} {w : World} {mean : ExcName → Option Value} {mg mb : Str → Option Value} {f : Addr} {vs : List Value} {R : Value → Prop} {dp un : Nat} {gd : Option (List Code)} {cn : Str} {cs : Scope} {a : Addr} {ccd : Value} {cl : List (Str × Addr)} {outer : List Env} {A₀ : Around} {base h₀ : Heap} {L : Addr} {m : Str → Option Value} {news : List (Addr × Obj)} {s : Shared}
  {Q E : Value → Shared → Prop}
theorem tells_use (C : Tells n w mean mg mb f vs R) (B : Below A₀ base outer h₀) (F : Fr h₀ L s.heap m) (X : (hd.heap_39 w.params).In h₀) (N : News h₀ L s.heap news) (T : Top hd.view_39 (looseW hd.view_39 []) mean mg mb h₀) (hk : cs.kind = .function)
    (hdp : dp + n < recursionLimit) (hu : un + 8 * n < cLine) (ret : ∀ r h' tk', Fr h₀ L h' m → News h₀ L h' news → R r → Q r { s with heap := h', toks := tk' }) :
    wpAny (model PySem.Challenge.rw_fy0024_01.row.prog w) (ktrTop dp un gd cn cs L a ccd cl outer) (call (.ref f) vs) Q E s := C _ _ _ _ _ _ _ _ _ _ _ _ _ _ _ _ _ _ B F X N T hk hdp hu ret
end
theorem ret_str {x y : Str} {t : Tok} (h : x = y) : ∃ t', Value.str x t = Value.str y t' := ⟨t, by rw [h]⟩
theorem ret_bool {x y : Bool} (h : x = y) : Value.bool x = Value.bool y := by rw [h]
end Mine
end

-- Loop
section
open PySem PySem.W PyProof.Rows PySem.Spec PySem.Calls
namespace Mine
def RngEnd {σ : Type} (h₀ : Heap) (L : Addr) (x : Str) (Led : σ → List (Addr × Obj)) (ps : σ → List (Str × Value)) (stored : List Str) (m₀ : Str → Option Value) (P : σ → Prop) (I : Addr) (o : Obj) (s₁ s₂ : Shared) : Prop :=
  ∃ (c' : σ) (h' : Heap) (tk : Nat) (m' : Str → Option Value) (news' : List (Addr × Obj)), s₂ = { s₁ with heap := h', toks := tk } ∧ Fr h₀ L h' m' ∧ News h₀ L h' news' ∧ (I, o) ∈ news' ∧ (∀ p ∈ Led c', p ∈ news') ∧ (∀ p ∈ Led c', p.1 ≠ I) ∧ (∀ p ∈ ps c', m' p.1 = some p.2) ∧ (∀ z, z ≠ x → (∀ p ∈ ps c', z ≠ p.1) → stored.contains z = false → m' z = m₀ z) ∧ P c'
def RngPost {σ : Type} (h₀ : Heap) (L : Addr) (x : Str) (Led : σ → List (Addr × Obj)) (ps : σ → List (Str × Value)) (stored : List Str) (m₀ : Str → Option Value) (P : σ → Prop) (I : Addr) (o : Obj) (s₁ : Shared) (Q : Flow → Shared → Prop) (f : Flow) (s₂ : Shared) : Prop :=
  match f with
  | .ret v => Q (.ret v) s₂
  | .brk => Q .next s₂
  | _ => RngEnd h₀ L x Led ps stored m₀ P I o s₁ s₂
theorem rng_end {σ : Type} {h₀ : Heap} {L : Addr} {x : Str} {Led : σ → List (Addr × Obj)} {ps : σ → List (Str × Value)} {stored : List Str} {m₀ m' : Str → Option Value} {P : σ → Prop} {I : Addr} {o : Obj} {s₁ : Shared} {h' : Heap} {tk : Nat} {news' : List (Addr × Obj)} (c' : σ)
    (F : Fr h₀ L h' m') (N : News h₀ L h' news') (hi : (I, o) ∈ news') (hn : ∀ p ∈ Led c', p ∈ news') (ho : ∀ p ∈ Led c', p.1 ≠ I) (hk : ∀ p ∈ ps c', m' p.1 = some p.2) (hr : ∀ z, z ≠ x → (∀ p ∈ ps c', z ≠ p.1) → stored.contains z = false → m' z = m₀ z) (hp : P c') :
    RngEnd h₀ L x Led ps stored m₀ P I o s₁ { s₁ with heap := h', toks := tk } := ⟨c', h', tk, m', news', rfl, F, N, hi, hn, ho, hk, hr, hp⟩
section
variable {prog : Program} {w : World} {A : Around} {E : Value → Shared → Prop} {s : Shared} {env : Env} {h₀ : Heap} {x : Str} {body : List Stmt} {Q : Flow → Shared → Prop}
/-- a loop by an invariant over a state of one's own: over an iterator that writes to itself alone -/
theorem loop_rng {σ : Type} {I : Addr} {n : Nat} {Pv : Nat → Value → Prop} {St : Nat → Heap → Prop} {m₀ : Str → Option Value} (Led : σ → List (Addr × Obj)) (ps : σ → List (Str × Value)) (stored : List Str) (P : Nat → σ → Prop) (c₀ : σ)
    (W : Walks prog w A I [I] [I] n Pv St) (hLI : env.locals ≠ I) (hI0 : h₀.get? I = none) (hob : ∀ i h, St i h → ∃ o, h.get? I = some o) (hnw : ∀ p ∈ Led c₀, p.1 ≠ I) (hst : St 0 s.heap) (F : Fr h₀ env.locals s.heap m₀) (N : News h₀ env.locals s.heap (Led c₀))
    (hk : ∀ p ∈ ps c₀, m₀ p.1 = some p.2) (hp : P 0 c₀)
    (turn : ∀ (i : Nat) (v : Value) (c : σ) (u : Str → Option Value) h tk o, i < n → Pv i v → P i c → (∀ p ∈ Led c, p.1 ≠ I) →
      Fr h₀ env.locals h (fun y => if y = x then some v else kstB (fun z => if stored.contains z then u z else m₀ z) (ps c) y) → News h₀ env.locals h ((I, o) :: Led c) →
      wpAny (model prog w) A (execs body env) (RngPost h₀ env.locals x Led ps stored m₀ (P (i + 1)) I o { s with heap := h, toks := tk } Q) E { s with heap := h, toks := tk })
    (done : ∀ (c : σ) (u : Str → Option Value) h tk, P n c → Fr h₀ env.locals h (kstB (fun z => if z = x then u z else if stored.contains z then u z else m₀ z) (ps c)) → News h₀ env.locals h (Led c) → Q .next { s with heap := h, toks := tk }) :
    LoopAtV prog w A h₀ env x body Q E (.ref I) s := by
  let J : Nat → (Str → Option Value) → List (Addr × Obj) → Prop := fun i m₁ news₁ => ∃ c : σ, news₁ = Led c ∧ (∀ p ∈ ps c, m₁ p.1 = some p.2) ∧ (∀ z, z ≠ x → (∀ p ∈ ps c, z ≠ p.1) → stored.contains z = false → m₁ z = m₀ z) ∧ P i c
  refine ⟨I, [I], [I], n, Pv, St, m₀, Led c₀, J, rfl, W, ?_, ?_, ?_, hst, F, N, ⟨c₀, rfl, hk, fun _ _ _ _ => rfl, hp⟩, ?_, ?_⟩
  · intro hm; exact hLI (List.mem_singleton.mp hm)
  · intro b hb; rw [List.mem_singleton.mp hb]; exact hI0
  · intro p hp hm; exact hnw p hp (List.mem_singleton.mp hm)
  · rintro i v m₁ news₁ s₁ own ⟨hh', tk', rfl⟩ hin hP ⟨c, rfl, h1, h2, hp'⟩ hoff hown hget hall hst' F₁ N₁
    obtain ⟨o, ho⟩ := hob _ _ hst'
    have hio : (I, o) ∈ own := hall I (List.mem_singleton.mpr rfl) hI0 o ho
    have hone : ∀ p ∈ own, p = (I, o) := by
      intro p hp
      have e1 : p.1 = I := List.mem_singleton.mp (hown p hp)
      have e2 := hget p hp
      rw [e1] at e2
      have e3 : p.2 = o := (Option.some.inj (ho.symm.trans e2)).symm
      exact Prod.ext e1 e3
    have em : (fun y => if y = x then some v else kstB (fun z => if stored.contains z then m₁ z else m₀ z) (ps c) y) = fun y => if y = x then some v else m₁ y := by
      funext y
      by_cases hy : y = x
      · simp only [if_pos hy]
      · simp only [if_neg hy]
        refine kstB_eq h1 fun hn => ?_
        show (if stored.contains y = true then m₁ y else m₀ y) = m₁ y
        cases h3 : stored.contains y with
        | true => simp
        | false => simp only [Bool.false_eq_true, if_false]; exact (h2 y hy hn h3).symm
    have N₂ : News h₀ env.locals hh' ((I, o) :: Led c) := by
      intro p hp
      rcases List.mem_cons.mp hp with rfl | hp
      · exact N₁ _ (List.mem_append_left _ hio)
      · exact N₁ _ (List.mem_append_right _ hp)
    have hoff' : ∀ p ∈ Led c, p.1 ≠ I := fun p hp e => hoff p hp (List.mem_singleton.mpr e)
    refine wpAny_mono (turn i v c m₁ hh' tk' o hin hP hp' hoff' (by rw [em]; exact F₁) N₂) (fun f s₂ p => ?_) fun _ _ e => e
    have fin : RngEnd h₀ env.locals x Led ps stored m₀ (P (i + 1)) I o { s with heap := hh', toks := tk' } s₂ → LoopStepU h₀ env.locals [I] own (J (i + 1)) { s with heap := hh', toks := tk' } .next s₂ := by
      rintro ⟨c', h', tk, m', news', e, F', N', hi, hn, ho', hk', hr', hp9⟩
      refine ⟨rfl, h', tk, m', Led c', e, F', fun p hp => ?_, fun p hp hm => ho' p hp (List.mem_singleton.mp hm), c', rfl, hk', hr', hp9⟩
      rcases List.mem_append.mp hp with hp | hp
      · rw [hone p hp]; exact N' _ hi
      · exact N' _ (hn p hp)
    cases f with
    | ret v => exact .ret p
    | brk => exact .brk p
    | next => exact .next (fin p)
    | cont => exact .cont (fin p)
  · rintro h' tk m' news' F' N' _ ⟨c, rfl, h1, h2, hp'⟩
    refine done c m' h' tk hp' ?_ N'
    have em : kstB (fun z => if z = x then m' z else if stored.contains z then m' z else m₀ z) (ps c) = m' := by
      funext y
      refine kstB_eq h1 fun hn => ?_
      show (if y = x then m' y else if stored.contains y = true then m' y else m₀ y) = m' y
      by_cases hy : y = x
      · simp only [if_pos hy]
      · simp only [if_neg hy]
        cases h3 : stored.contains y with
        | true => simp
        | false => simp only [Bool.false_eq_true, if_false]; exact (h2 y hy hn h3).symm
    rw [em]; exact F'
theorem iter_rng {σ : Type} {r : Addr} {a₀ b₀ : Int} {t₀ u₀ v₀ : Tok} {n : Nat} {m₀ : Str → Option Value} (Led : σ → List (Addr × Obj)) (ps : σ → List (Str × Value)) (stored : List Str) (P : Nat → σ → Prop) (c₀ : σ)
    (hh : A.handled = none) (hr : IsRange s.heap r a₀ b₀ 1 t₀ u₀ v₀) (hsmall : Builtin.Range.small a₀ b₀ 1 = true) (hn : Builtin.Range.rangeSize a₀ b₀ 1 = (n : Int)) (F : Fr h₀ env.locals s.heap m₀) (N : News h₀ env.locals s.heap (Led c₀))
    (hk : ∀ p ∈ ps c₀, m₀ p.1 = some p.2) (hp : P 0 c₀)
    (turn : ∀ (i : Nat) (t : Tok) (I : Addr) (c : σ) (u : Str → Option Value) h tk o, i < n → P i c → (∀ p ∈ Led c, p.1 ≠ I) →
      Fr h₀ env.locals h (fun y => if y = x then some (.int (a₀ + i) t) else kstB (fun z => if stored.contains z then u z else m₀ z) (ps c) y) → News h₀ env.locals h ((I, o) :: Led c) →
      wpAny (model prog w) A (execs body env) (RngPost h₀ env.locals x Led ps stored m₀ (P (i + 1)) I o { s with heap := h, toks := tk } Q) E { s with heap := h, toks := tk })
    (done : ∀ (c : σ) (u : Str → Option Value) h tk, P n c → Fr h₀ env.locals h (kstB (fun z => if z = x then u z else if stored.contains z then u z else m₀ z) (ps c)) → News h₀ env.locals h (Led c) → Q .next { s with heap := h, toks := tk }) :
    wpAny (model prog w) A (pyIter (.ref r)) (fun it s₂ => LoopAtV prog w A h₀ env x body Q E it s₂) E s := by
  refine wpAny_pyIter_range hr hsmall ?_
  have W : Walks prog w A s.heap.objs.size [s.heap.objs.size] [s.heap.objs.size] n (fun i v => i < n ∧ ∃ t, v = .int (a₀ + i * 1) t)
      (fun i h => IsRangeIter h s.heap.objs.size (a₀ + (i : Nat) * 1) ((n : Int) - (i : Nat)) 1) := (Walks.range hh _ a₀ 1 n).bound
  refine loop_rng Led ps stored P c₀ W (Nat.ne_of_lt F.ns.lt) (next_is_new F) (fun i h q => ⟨_, q⟩) (fun p hp => Nat.ne_of_lt (Heap.lt_size (N p hp).1)) (by show IsRangeIter _ _ _ _ _; rw [hn]; simpa using Heap.get?_push_size _ rfl) (F.push _) (fun p hp => ⟨Heap.get?_push_of_some _ (N p hp).1, (N p hp).2⟩) hk hp ?_ ?_
  · rintro i v c u h tk o hi ⟨_, t, rfl⟩ hp' hoff F₁ N₁
    rw [Int.mul_one] at F₁
    exact turn i t _ c u h tk o hi hp' hoff F₁ N₁
  · exact done
end
section
variable {prog : Program} {w : World} {A : Around} {E : Value → Shared → Prop} {s : Shared} {env : Env} {h₀ : Heap} {x : Str} {body : List Stmt} {Q : Flow → Shared → Prop}
theorem iter_txt {σ : Type} {y : Str} {ty : Tok} {m₀ : Str → Option Value} (Led : σ → List (Addr × Obj)) (ps : σ → List (Str × Value)) (stored : List Str) (P : Nat → σ → Prop) (c₀ : σ)
    (ha : y.cps.all (· < 128) = true) (hh : A.handled = none) (F : Fr h₀ env.locals s.heap m₀) (N : News h₀ env.locals s.heap (Led c₀))
    (hk : ∀ p ∈ ps c₀, m₀ p.1 = some p.2) (hp : P 0 c₀)
    (turn : ∀ (i : Nat) (d : Nat) (t : Tok) (I : Addr) (c : σ) (u : Str → Option Value) h tk o, y.cps[i]? = some d → P i c → (∀ p ∈ Led c, p.1 ≠ I) →
      Fr h₀ env.locals h (fun z => if z = x then some (.str ⟨#[d]⟩ t) else kstB (fun z => if stored.contains z then u z else m₀ z) (ps c) z) → News h₀ env.locals h ((I, o) :: Led c) →
      wpAny (model prog w) A (execs body env) (RngPost h₀ env.locals x Led ps stored m₀ (P (i + 1)) I o { s with heap := h, toks := tk } Q) E { s with heap := h, toks := tk })
    (done : ∀ (c : σ) (u : Str → Option Value) h tk, P y.cps.size c → Fr h₀ env.locals h (kstB (fun z => if z = x then u z else if stored.contains z then u z else m₀ z) (ps c)) → News h₀ env.locals h (Led c) → Q .next { s with heap := h, toks := tk }) :
    wpAny (model prog w) A (pyIter (.str y ty)) (fun it s₂ => LoopAtV prog w A h₀ env x body Q E it s₂) E s := by
  refine wpAny_pyIter_ascii ha ?_
  refine loop_rng Led ps stored P c₀ (Walks.strAscii (prog := prog) (w := w) hh s.heap.objs.size y ty) (Nat.ne_of_lt F.ns.lt) (next_is_new F) (fun i h q => ?_) (fun p hp => Nat.ne_of_lt (Heap.lt_size (N p hp).1)) ⟨_, Heap.get?_push_size _ rfl, rfl, rfl⟩ (F.push _) (fun p hp => ⟨Heap.get?_push_of_some _ (N p hp).1, (N p hp).2⟩) hk hp ?_ ?_
  · obtain ⟨o, ho, _⟩ := q
    exact ⟨o, ho⟩
  · rintro i v c u h tk o hi ⟨d, t, hd, rfl⟩ hp' hoff F₁ N₁
    exact turn i d t _ c u h tk o hd hp' hoff F₁ N₁
  · exact done
end
theorem item_menu {prog : Program} {w : World} {A : Around} {E : Value → Shared → Prop} {s : Shared} {value slice : PySem.Expr} {l : Addr} {vs : List Value} {ws : List PySem.Str} {i : Int} {u : Tok} {Q : Value → Shared → Prop}
    (ht : IsTup s.heap l vs.toArray) (hw : StrsAre vs ws) (h0 : 0 ≤ i) (h1 : i < (ws.length : Int)) (hfit : i < 2 ^ 63) (hM : ws.all (fun y => decide (y.length ≤ 4)) = true) (h : ∀ (x : Str) t', x ∈ ws → x.length ≤ 4 → Q (.str x t') s)
    (hs : subscripted slice false (.ref l) (.int i u) = operate [.ref l, .int i u] (getItem (.ref l) (.int i u)) := by with_unfolding_all rfl) :
    wpAny (model prog w) A (subscriptTail value slice (.ref l) (.int i u)) Q E s := by
  refine KTb.item_tup ht hw h0 h1 hfit (fun t' hlt => ?_) hs
  have hm : ws.getD i.toNat PySem.Str.empty ∈ ws := by
    rw [List.getD_eq_getElem?_getD, List.getElem?_eq_getElem hlt]
    exact List.getElem_mem hlt
  exact h _ t' hm (of_decide_eq_true (List.all_eq_true.mp hM _ hm))
theorem fr_pick {h₀ h : Heap} {L : Addr} {m : Str → Option Value} (ps : List (Str × Value)) (F : Fr h₀ L h m) (hp : ∀ p ∈ ps, m p.1 = some p.2) : ∃ mo, Fr h₀ L h (kstB mo ps) := by
  refine ⟨m, ?_⟩
  have : kstB m ps = m := by
    funext y
    exact kstB_eq hp (fun _ => rfl)
  rw [this]
  exact F
section
open PyProof.Rows.LCg
variable {prog : Program} {w : World} {A : Around} {h₀ : Heap} {L : Addr} {m : Str → Option Value} {env : Env} {elt : Expr} {x : Str} {scope : Scope} {cl : List (Str × Addr)} {s : Shared} {S : List (Addr × Obj) → Prop} {P : Nat → Value → Prop} {Fin : List Value → List (Addr × Obj) → Prop}
theorem comp_inv {σ : Type} {n : Nat} (Led : σ → List (Addr × Obj)) (J : Nat → List Value → σ → Prop) (c₀ : σ) (hJ : J 0 [] c₀)
    (turn : ∀ i v ys c I oI C oC D m₂ h tk (E' : Value → Shared → Prop), i < n → P i v → J i ys c → NsObj oC m₂ → m₂ x = some v → Fr h₀ L h m → News h₀ L h ((I, oI) :: (C, oC) :: (D, lst ys) :: Led c) → Off3 I C D (Led c) → ((@Ne Nat I C) ∧ (@Ne Nat I D) ∧ (@Ne Nat C D)) →
      wpAny (model prog w) A (eval elt (compEnvC scope cl C env)) (CompEnd h₀ L m { s with heap := h, toks := tk } I oI C oC D (lst ys) S (fun y news' => ∃ c', news' = Led c' ∧ J (i + 1) (ys ++ [y]) c')) E' { s with heap := h, toks := tk })
    (fin : ∀ ys c, J n ys c → Fin ys (Led c)) : CompRest prog w A h₀ L m env elt x scope cl s S P Fin n 0 [] (Led c₀) := by
  have key : ∀ (j i : Nat) (ys : List Value) (c : σ), i + j = n → J i ys c → CompRest prog w A h₀ L m env elt x scope cl s S P Fin j i ys (Led c) := by
    intro j
    induction j with
    | zero =>
      intro i ys c hi hy
      have e : i = n := by omega
      subst e
      exact CompRest.zero (fin ys c hy)
    | succ j ih =>
      intro i ys c hi hy
      refine CompRest.succ ?_
      intro v I oI C oC D m₂ h tk E' hv hC hx F N off ne
      refine wpAny_mono (turn i v ys c I oI C oC D m₂ h tk E' (by omega) hv hy hC hx F N off ne) (fun y s₂ hq => ?_) fun _ _ e => e
      obtain ⟨h', tk', nw, e, F', N', off', hS, c', rfl, hJ'⟩ := hq
      exact ⟨h', tk', Led c', e, F', N', off', hS, ih (i + 1) _ c' (by omega) hJ'⟩
  exact key n 0 [] c₀ (by omega) hJ
end
end Mine
end

-- Pl
section
open PySem PySem.W PyProof.Rows PySem.Spec PySem.Calls
namespace Mine
inductive Item where
  | one (c : Nat)
  | esc (c : Nat)
  | rng (m1 : Bool) (a : Nat) (m2 : Bool) (b : Nat)
def letters : List Nat := [97, 98, 99, 100, 101, 102, 120, 121, 122]
def escs : List Nat := [93, 45, 33, 94, 92]
def bs (m : Bool) : List Nat := if m = true then [92] else []
def Item.render : Item → List Nat
  | .one c => [c]
  | .esc c => [92, c]
  | .rng m1 a m2 b => bs m1 ++ a :: 45 :: (bs m2 ++ [b])
def Item.Ok : Item → Prop
  | .one c => c ∈ letters
  | .esc c => c ∈ escs
  | .rng _ a _ b => a ∈ letters ∧ b ∈ letters ∧ a ≤ b
def chS (c : Nat) : Str := ⟨#[c]⟩
def Item.signs : Item → List Str
  | .one c => [chS c]
  | .esc c => [chS c]
  | .rng _ a _ b => (List.range (b + 1 - a)).map fun k => chS (a + k)

theorem it_letters : ∀ v : Nat, v < 9 → Txt.item (Str.ofString "abcdefxyz") (v : Int) = chS (letters.getD v 0) := by decide +kernel
theorem it_escs : ∀ v : Nat, v < 5 → Txt.item (Str.ofString "]-!^\\") (v : Int) = chS (escs.getD v 0) := by decide +kernel
theorem letter_mem : ∀ v : Nat, v < 9 → letters.getD v 0 ∈ letters := by decide
theorem esc_mem : ∀ v : Nat, v < 5 → escs.getD v 0 ∈ escs := by decide
theorem letter_le : ∀ v : Nat, v < 9 → ∀ u : Nat, u < 9 → v ≤ u → letters.getD v 0 ≤ letters.getD u 0 := by decide
theorem letter_lo : ∀ v : Nat, v < 9 → 97 ≤ letters.getD v 0 ∧ letters.getD v 0 ≤ 122 := by decide
theorem it_letterZ {v : Int} (h0 : 0 ≤ v) (h1 : v < 9) : Txt.item (Str.ofString "abcdefxyz") v = chS (letters.getD v.toNat 0) := by
  have := it_letters v.toNat (by omega)
  rwa [Int.toNat_of_nonneg h0] at this
theorem it_escZ {v : Int} (h0 : 0 ≤ v) (h1 : v < 5) : Txt.item (Str.ofString "]-!^\\") v = chS (escs.getD v.toNat 0) := by
  have := it_escs v.toNat (by omega)
  rwa [Int.toNat_of_nonneg h0] at this
theorem mark_bs : ∀ v : Nat, v < 2 → (([Str.ofString "", Str.ofString "\\"].getD v Str.empty).cps.toList = bs (v == 1)) := by decide +kernel
theorem mark_bsZ {v : Int} (h0 : 0 ≤ v) (h1 : v < 2) : ([Str.ofString "", Str.ofString "\\"].getD v.toNat Str.empty).cps.toList = bs (v.toNat == 1) := mark_bs v.toNat (by omega)
theorem cps_chS (c : Nat) : (chS c).cps.toList = [c] := rfl
theorem cps_app (x y : Str) : (x ++ y).cps.toList = x.cps.toList ++ y.cps.toList := by rw [Str.cps_append, Array.toList_append]
theorem item_last (x : Str) (c : Nat) : Txt.item (x ++ chS c) (-1) = chS c := by
  unfold Txt.item Txt.charAt seqIndex?
  have hl : (x ++ chS c).length = x.length + 1 := by rw [Str.length_append]; rfl
  rw [hl]
  have h1 : ((-1 : Int) < 0) := by decide
  simp only [h1, if_true]
  have h2 : (decide (0 ≤ (-1 : Int) + ((x.length + 1 : Nat) : Int)) && decide ((-1 : Int) + ((x.length + 1 : Nat) : Int) < ((x.length + 1 : Nat) : Int))) = true := by
    simp only [Bool.and_eq_true, decide_eq_true_eq]; omega
  rw [if_pos h2]
  have h3 : ((-1 : Int) + ((x.length + 1 : Nat) : Int)).toNat = x.cps.size := by
    show _ = x.length
    omega
  rw [h3, Str.cps_append]
  simp [chS]
theorem item_last2 (x y : Str) (c : Nat) : Txt.item (x ++ (y ++ chS c)) (-1) = chS c := by
  rw [← Str.append_assoc]; exact item_last _ c
theorem rng_pick {v2 v3 : Int} (hl : v2 < 9 - v3) (h2 : 0 ≤ v2) (h3 : 0 ≤ v3) : ∃ A B : Nat, A ∈ letters ∧ B ∈ letters ∧ A ≤ B ∧ 97 ≤ A ∧ B ≤ 122 ∧ Txt.item (Str.ofString "abcdefxyz") v3 = chS A ∧ Txt.item (Str.ofString "abcdefxyz") (v3 + v2) = chS B :=
  ⟨letters.getD v3.toNat 0, letters.getD (v3 + v2).toNat 0, letter_mem _ (by omega), letter_mem _ (by omega), letter_le _ (by omega) _ (by omega) (by omega), (letter_lo _ (by omega)).1, (letter_lo _ (by omega)).2, it_letterZ h3 (by omega), it_letterZ (by omega) (by omega)⟩
theorem one_pick {v : Int} (h : v < 9) (h0 : 0 ≤ v) : ∃ A : Nat, A ∈ letters ∧ Txt.item (Str.ofString "abcdefxyz") v = chS A := ⟨_, letter_mem _ (by omega), it_letterZ h0 h⟩
theorem esc_pick {v : Int} (h : v < 5) (h0 : 0 ≤ v) : ∃ A : Nat, A ∈ escs ∧ Txt.item (Str.ofString "]-!^\\") v = chS A := ⟨_, esc_mem _ (by omega), it_escZ h0 h⟩
theorem cps_lit1 : (Str.ofString "-").cps.toList = [45] := by decide
theorem cps_lit2 : (Str.ofString "\\").cps.toList = [92] := by decide
theorem rng_text {text x1 x2 : Str} {items : List Item} {A B : Nat} {m1 m2 : Bool} (ht : text.cps.toList = items.flatMap Item.render) (h1 : x1.cps.toList = bs m1) (h2 : x2.cps.toList = bs m2) :
    (text ++ (x1 ++ chS A ++ Str.ofString "-" ++ x2 ++ chS B)).cps.toList = (items ++ [Item.rng m1 A m2 B]).flatMap Item.render := by
  simp only [cps_app, h1, h2, ht, cps_chS, cps_lit1, List.flatMap_append, List.flatMap_cons, List.flatMap_nil, Item.render, List.append_nil, List.append_assoc, List.cons_append, List.nil_append]
theorem one_text {text : Str} {items : List Item} {A : Nat} (ht : text.cps.toList = items.flatMap Item.render) :
    (text ++ chS A).cps.toList = (items ++ [Item.one A]).flatMap Item.render := by
  simp only [cps_app, ht, cps_chS, List.flatMap_append, List.flatMap_cons, List.flatMap_nil, Item.render, List.append_nil]
theorem esc_text {text : Str} {items : List Item} {A : Nat} (ht : text.cps.toList = items.flatMap Item.render) :
    (text ++ (Str.ofString "\\" ++ chS A)).cps.toList = (items ++ [Item.esc A]).flatMap Item.render := by
  simp only [cps_app, ht, cps_chS, cps_lit2, List.flatMap_append, List.flatMap_cons, List.flatMap_nil, Item.render, List.append_nil, List.cons_append, List.nil_append]
theorem snoc_signs {svs ys : List Value} {items : List Item} {it : Item} (h : StrsAre svs (items.flatMap Item.signs)) (hy : StrsAre ys it.signs) : StrsAre (svs ++ ys) ((items ++ [it]).flatMap Item.signs) := by
  rw [List.flatMap_append, List.flatMap_cons, List.flatMap_nil, List.append_nil]
  exact h.append' hy
theorem strs_one {A : Nat} {t : Tok} : StrsAre [.str (chS A) t] [chS A] := .cons _ _ .nil
theorem ok_snoc {items : List Item} {it : Item} (h : ∀ x ∈ items, x.Ok) (hi : it.Ok) : ∀ x ∈ items ++ [it], x.Ok := by
  intro x hx
  rcases List.mem_append.mp hx with q | q
  · exact h x q
  · rw [List.mem_singleton.mp q]; exact hi
theorem rng_done {text x1 x2 : Str} {items : List Item} {svs ys : List Value} {A B : Nat} (q1 : ∀ x ∈ items, x.Ok) (q2 : text.cps.toList = items.flatMap Item.render) (q3 : StrsAre svs (items.flatMap Item.signs)) (hA : A ∈ letters) (hB : B ∈ letters) (hAB : A ≤ B)
    (h1 : ∃ m, x1.cps.toList = bs m) (h2 : ∃ m, x2.cps.toList = bs m) (hy : StrsAre ys ((List.range (B + 1 - A)).map fun k => chS (A + k))) :
    ∃ items : List Item, (∀ x ∈ items, x.Ok) ∧ (text ++ (x1 ++ chS A ++ Str.ofString "-" ++ x2 ++ chS B)).cps.toList = items.flatMap Item.render ∧ StrsAre (svs ++ ys) (items.flatMap Item.signs) := by
  obtain ⟨m1, h1⟩ := h1
  obtain ⟨m2, h2⟩ := h2
  exact ⟨items ++ [Item.rng m1 A m2 B], ok_snoc q1 ⟨hA, hB, hAB⟩, rng_text q2 h1 h2, snoc_signs (it := Item.rng m1 A m2 B) q3 hy⟩
end Mine
end

-- RmDef
section
open PySem PySem.W PyProof.Rows PySem.Spec PySem.Calls
namespace Mine
structure RmS where
  i : Int
  ok : Int
  ti : Tok
  tk : Tok
  n : Nat
inductive Rm where
  | ret
  | brk (i ok : Int)
  | next (i ok : Int)
def rmRange (t c c2 : Str) (i ok : Int) : Rm :=
  if t.cps.toList < c.cps.toList then .next i ok else if c2.cps.toList < t.cps.toList then .next i ok else .next i 1
def rmTail (p t c : Str) (i ok : Int) : Rm :=
  if i ≠ p.length ∧ (Txt.item p i == Str.ofString "-") = true ∧ i + 1 ≠ p.length ∧ (Txt.item p (i + 1) != Str.ofString "]") = true then
    if (Txt.item p (i + 1) == Str.ofString "\\") = true then
      if i + 2 = p.length then .ret else rmRange t c (Txt.item p (i + 2)) (i + 2 + 1) ok
    else rmRange t c (Txt.item p (i + 1)) (i + 2) ok
  else if (c == t) = true then .next i 1 else .next i ok
def rmTurn (p t : Str) (i ok : Int) : Rm :=
  if i = p.length then .brk i ok else
  if (Txt.item p i == Str.ofString "]") = true then .brk (i + 1) ok else
  if (Txt.item p i == Str.ofString "\\") = true then
    if i + 1 = p.length then .ret else rmTail p t (Txt.item p (i + 1)) (i + 1 + 1) ok
  else rmTail p t (Txt.item p i) (i + 1) ok
def rmRun (p t : Str) : Nat → Int → Int → Option (Int × Int)
  | 0, _, _ => none
  | f + 1, i, ok => match rmTurn p t i ok with
    | .ret => none
    | .brk i ok => some (i, ok)
    | .next i ok => rmRun p t f i ok
def rmEnd (neg : Bool) (r : Option (Int × Int)) : Int := match r with
  | none => -1
  | some (i, ok) => if ok = (if neg = true then 1 else 0) then -1 else i
def rangeMatch (p : Str) (i : Int) (t : Str) : Int :=
  if i = p.length then -1 else
  rmEnd (Txt.item p i == Str.ofString "!" || Txt.item p i == Str.ofString "^") (rmRun p t (p.length + 1) (if (Txt.item p i == Str.ofString "!" || Txt.item p i == Str.ofString "^") = true then i + 1 else i) 0)
end Mine
end

-- PlB
section
open PySem PySem.W PyProof.Rows PySem.Spec PySem.Calls
namespace Mine
theorem item_at {p : Str} {pre post : List Nat} {d : Nat} {i : Int} (h : p.cps.toList = pre ++ d :: post) (hi : i = (pre.length : Int)) : Txt.item p i = chS d := by
  subst hi
  have hlen : p.length = pre.length + (post.length + 1) := by
    have := congrArg List.length h
    simpa [Str.length] using this
  unfold Txt.item Txt.charAt seqIndex?
  have h1 : ¬ ((pre.length : Int) < 0) := by omega
  simp only [h1, if_false]
  have h2 : (decide (0 ≤ (pre.length : Int)) && decide ((pre.length : Int) < (p.length : Int))) = true := by
    simp only [Bool.and_eq_true, decide_eq_true_eq]; omega
  rw [if_pos h2]
  simp only [Int.toNat_natCast, Option.bind_some]
  have h3 : p.cps[pre.length]? = some d := by
    rw [← Array.getElem?_toList, h]
    simp
  rw [h3]
  rfl
theorem len_of {p : Str} {l : List Nat} (h : p.cps.toList = l) : p.length = l.length := by
  subst h; simp [Str.length]
theorem chS_beq (d e : Nat) : (chS d == chS e) = (d == e) := by
  by_cases h : d = e
  · subst h; simp
  · have h1 : (d == e) = false := by simpa using h
    rw [h1]
    have h2 : chS d ≠ chS e := by
      intro q
      apply h
      have := congrArg (fun x : Str => x.cps.toList) q
      simpa [chS] using this
    simpa using h2
theorem lit_close : Str.ofString "]" = chS 93 := by decide +kernel
theorem lit_bs : Str.ofString "\\" = chS 92 := by decide +kernel
theorem lit_dash : Str.ofString "-" = chS 45 := by decide +kernel
theorem lit_ex : Str.ofString "!" = chS 33 := by decide +kernel
theorem lit_hat : Str.ofString "^" = chS 94 := by decide +kernel
theorem chS_lt (c a : Nat) : ((chS c).cps.toList < (chS a).cps.toList) ↔ c < a := by
  show ([c] < [a]) ↔ c < a
  rw [List.cons_lt_cons_iff]
  constructor
  · rintro (h | ⟨_, h⟩)
    · exact h
    · exact absurd h (List.lt_irrefl _)
  · exact Or.inl
theorem tail_plain {p t c : Str} {i ok : Int} (h : i = p.length ∨ ∃ d, Txt.item p i = chS d ∧ d ≠ 45) : rmTail p t c i ok = if (c == t) = true then .next i 1 else .next i ok := by
  unfold rmTail
  rw [if_neg]
  rintro ⟨h1, h2, _⟩
  rcases h with h | ⟨d, e, hd⟩
  · exact h1 h
  · rw [e, lit_dash, chS_beq] at h2
    exact hd (by simpa using h2)
theorem tail_dash {p t c : Str} {i ok : Int} {e : Nat} (h1 : i ≠ p.length) (h2 : Txt.item p i = chS 45) (h3 : i + 1 ≠ p.length) (h4 : Txt.item p (i + 1) = chS e) (he : e ≠ 93) :
    rmTail p t c i ok = if e = 92 then (if i + 2 = p.length then .ret else rmRange t c (Txt.item p (i + 2)) (i + 2 + 1) ok) else rmRange t c (chS e) (i + 2) ok := by
  unfold rmTail
  rw [if_pos ⟨h1, by rw [h2, lit_dash, chS_beq]; rfl, h3, by rw [h4, lit_close]; simp only [bne, chS_beq]; simpa using he⟩]
  rw [h4, lit_bs, chS_beq]
  simp only [beq_iff_eq]
def Item.hit (c : Nat) : Item → Bool
  | .one d => d == c
  | .esc d => d == c
  | .rng _ a _ b => decide (a ≤ c) && decide (c ≤ b)
theorem range_hit (c a b : Nat) (i ok : Int) : rmRange (chS c) (chS a) (chS b) i ok = .next i (if (decide (a ≤ c) && decide (c ≤ b)) = true then 1 else ok) := by
  unfold rmRange
  simp only [chS_lt]
  by_cases h1 : c < a
  · rw [if_pos h1, if_neg]; simp only [Bool.and_eq_true, decide_eq_true_eq]; omega
  · rw [if_neg h1]
    by_cases h2 : b < c
    · rw [if_pos h2, if_neg]; simp only [Bool.and_eq_true, decide_eq_true_eq]; omega
    · rw [if_neg h2, if_pos]; simp only [Bool.and_eq_true, decide_eq_true_eq]; omega
theorem letters_ne {d : Nat} (h : d ∈ letters) : d ≠ 93 ∧ d ≠ 92 ∧ d ≠ 45 ∧ d ≠ 33 ∧ d ≠ 94 := by
  simp only [letters, List.mem_cons, List.not_mem_nil, or_false] at h
  omega
def NoDash (post : List Nat) : Prop := ∀ d q, post = d :: q → d ≠ 45
theorem at_post {p : Str} {pre post : List Nat} {i : Int} (h : p.cps.toList = pre ++ post) (hi : i = (pre.length : Int)) (hp : NoDash post) : i = p.length ∨ ∃ d, Txt.item p i = chS d ∧ d ≠ 45 := by
  cases post with
  | nil => left; rw [len_of h]; simpa using hi
  | cons d q => right; exact ⟨d, item_at h hi, hp d q rfl⟩
theorem turn_item {p : Str} {pre post : List Nat} {it : Item} {c : Nat} {ok : Int} (h : p.cps.toList = pre ++ (it.render ++ post)) (hok : it.Ok) (hp : NoDash post) :
    rmTurn p (chS c) (pre.length : Int) ok = .next ((pre.length + it.render.length : Nat) : Int) (if it.hit c = true then 1 else ok) := by
  have hl := len_of h
  cases it with
  | one d =>
    obtain ⟨n1, n2, n3, n4, n5⟩ := letters_ne (show d ∈ letters from hok)
    have e0 : Txt.item p (pre.length : Int) = chS d := item_at (pre := pre) (post := post) (by rw [h]; rfl) rfl
    simp only [Item.render, List.length_append, List.length_cons, List.length_nil] at hl ⊢
    unfold rmTurn
    rw [if_neg (by omega), e0, lit_close, lit_bs, chS_beq, chS_beq, if_neg (by simpa using n1), if_neg (by simpa using n2)]
    rw [tail_plain (at_post (pre := pre ++ [d]) (post := post) (by rw [h]; simp [Item.render]) (by simp) hp), chS_beq]
    by_cases hb : (Item.one d).hit c = true
    · rw [if_pos hb, if_pos (show (d == c) = true from hb)]; congr 1
    · rw [if_neg hb, if_neg (show ¬ (d == c) = true from hb)]; congr 1
  | esc d =>
    have e0 : Txt.item p (pre.length : Int) = chS 92 := item_at (pre := pre) (post := d :: post) (by rw [h]; rfl) rfl
    have e1 : Txt.item p ((pre.length : Int) + 1) = chS d := item_at (pre := pre ++ [92]) (post := post) (by rw [h]; simp [Item.render]) (by simp)
    simp only [Item.render, List.length_append, List.length_cons, List.length_nil] at hl ⊢
    unfold rmTurn
    rw [if_neg (by omega), e0, lit_close, lit_bs, chS_beq, chS_beq, if_neg (by decide), if_pos (by decide), if_neg (by omega), e1]
    rw [tail_plain (at_post (pre := pre ++ [92, d]) (post := post) (by rw [h]; simp [Item.render]) (by simp; omega) hp), chS_beq]
    by_cases hb : (Item.esc d).hit c = true
    · rw [if_pos hb, if_pos (show (d == c) = true from hb)]; congr 1
    · rw [if_neg hb, if_neg (show ¬ (d == c) = true from hb)]; congr 1
  | rng m1 a m2 b =>
    obtain ⟨ha, hb, hab⟩ := (show a ∈ letters ∧ b ∈ letters ∧ a ≤ b from hok)
    obtain ⟨a1, a2, a3, a4, a5⟩ := letters_ne ha
    obtain ⟨b1, b2, b3, b4, b5⟩ := letters_ne hb
    have tail : ∀ (pre' : List Nat) (j : Int), p.cps.toList = pre' ++ (45 :: (bs m2 ++ b :: post)) → j = (pre'.length : Int) →
        rmTail p (chS c) (chS a) j ok = .next ((pre'.length + 1 + (bs m2).length + 1 : Nat) : Int) (if (Item.rng m1 a m2 b).hit c = true then 1 else ok) := by
      intro pre' j h' hj
      have hl' := len_of h'
      have f0 : Txt.item p j = chS 45 := item_at h' hj
      cases m2 with
      | false =>
        simp only [bs, Bool.false_eq_true, if_false, List.nil_append, List.length_append, List.length_cons, List.length_nil] at hl' h' ⊢
        have f1 : Txt.item p (j + 1) = chS b := item_at (pre := pre' ++ [45]) (post := post) (by rw [h']; simp) (by simp; omega)
        rw [tail_dash (by omega) f0 (by omega) f1 b1, if_neg b2, range_hit]
        simp only [Item.hit]
        congr 1
        omega
      | true =>
        simp only [bs, if_true, List.cons_append, List.nil_append, List.length_append, List.length_cons, List.length_nil] at hl' h' ⊢
        have f1 : Txt.item p (j + 1) = chS 92 := item_at (pre := pre' ++ [45]) (post := b :: post) (by rw [h']; simp) (by simp; omega)
        have f2 : Txt.item p (j + 2) = chS b := item_at (pre := pre' ++ [45, 92]) (post := post) (by rw [h']; simp) (by simp; omega)
        rw [tail_dash (by omega) f0 (by omega) f1 (by decide), if_pos rfl, if_neg (by omega), f2, range_hit]
        simp only [Item.hit]
        congr 1
        omega
    cases m1 with
    | false =>
      have e0 : Txt.item p (pre.length : Int) = chS a := item_at (pre := pre) (post := 45 :: (bs m2 ++ b :: post)) (by rw [h]; simp [Item.render, bs]) rfl
      have hpos : (pre.length : Int) ≠ p.length := by
        rw [hl]; simp only [Item.render, List.length_append, List.length_cons]; omega
      unfold rmTurn
      rw [if_neg hpos, e0, lit_close, lit_bs, chS_beq, chS_beq, if_neg (by simpa using a1), if_neg (by simpa using a2)]
      rw [tail (pre ++ [a]) _ (by rw [h]; simp [Item.render, bs]) (by simp)]
      simp only [Item.render, bs, Bool.false_eq_true, if_false, List.nil_append, List.length_append, List.length_cons, List.length_nil]
      congr 1
      omega
    | true =>
      have e0 : Txt.item p (pre.length : Int) = chS 92 := item_at (pre := pre) (post := a :: 45 :: (bs m2 ++ b :: post)) (by rw [h]; simp [Item.render, bs]) rfl
      have e1 : Txt.item p ((pre.length : Int) + 1) = chS a := item_at (pre := pre ++ [92]) (post := 45 :: (bs m2 ++ b :: post)) (by rw [h]; simp [Item.render, bs]) (by simp)
      have hpos : (pre.length : Int) ≠ p.length := by
        rw [hl]; simp only [Item.render, List.length_append, List.length_cons]; omega
      have hpos1 : (pre.length : Int) + 1 ≠ p.length := by
        rw [hl]; simp only [Item.render, bs, if_true, List.length_append, List.length_cons, List.length_nil]; omega
      unfold rmTurn
      rw [if_neg hpos, e0, lit_close, lit_bs, chS_beq, chS_beq, if_neg (by decide), if_pos (by decide), if_neg hpos1, e1]
      rw [tail (pre ++ [92, a]) _ (by rw [h]; simp [Item.render, bs]) (by simp; omega)]
      simp only [Item.render, bs, if_true, List.length_append, List.length_cons, List.length_nil]
      congr 1
      omega
theorem render_head {it : Item} (h : it.Ok) : ∀ q, NoDash (it.render ++ q) := by
  intro q d r e
  cases it with
  | one c =>
    have := letters_ne (show c ∈ letters from h)
    simp only [Item.render, List.cons_append, List.nil_append, List.cons.injEq] at e
    omega
  | esc c =>
    simp only [Item.render, List.cons_append, List.nil_append, List.cons.injEq] at e
    omega
  | rng m1 a m2 b =>
    have := letters_ne (show a ∈ letters from h.1)
    cases m1 with
    | false =>
      simp only [Item.render, bs, Bool.false_eq_true, if_false, List.nil_append, List.cons_append, List.cons.injEq] at e
      omega
    | true =>
      simp only [Item.render, bs, if_true, List.cons_append, List.nil_append, List.cons.injEq] at e
      omega
def Closes (post : List Nat) : Prop := post = [] ∨ ∃ q, post = 93 :: q
theorem run_items {p : Str} {c : Nat} {post : List Nat} (hpost : Closes post) : ∀ (items : List Item) (pre : List Nat) (ok : Int) (f : Nat), p.cps.toList = pre ++ (items.flatMap Item.render ++ post) → (∀ x ∈ items, x.Ok) → items.length < f →
    rmRun p (chS c) f (pre.length : Int) ok = some (((pre.length + (items.flatMap Item.render).length + (if post = [] then 0 else 1) : Nat) : Int), if items.any (Item.hit c) = true then 1 else ok) := by
  intro items
  induction items with
  | nil =>
    intro pre ok f h _ hf
    obtain ⟨f, rfl⟩ : ∃ g, f = g + 1 := ⟨f - 1, by simp only [List.length_nil] at hf; omega⟩
    have hl := len_of h
    simp only [List.flatMap_nil, List.nil_append, List.length_append, List.length_nil, List.any_nil, Bool.false_eq_true, if_false] at hl h ⊢
    rcases hpost with rfl | ⟨q, rfl⟩
    · simp only [List.length_nil] at hl
      have : rmTurn p (chS c) (pre.length : Int) ok = .brk (pre.length : Int) ok := by
        unfold rmTurn; rw [if_pos (by omega)]
      simp only [rmRun, this]
      simp
    · simp only [List.length_cons] at hl
      have e0 : Txt.item p (pre.length : Int) = chS 93 := item_at h rfl
      have : rmTurn p (chS c) (pre.length : Int) ok = .brk ((pre.length : Int) + 1) ok := by
        unfold rmTurn; rw [if_neg (by omega), e0, lit_close, chS_beq, if_pos (by decide)]
      simp only [rmRun, this]
      simp
  | cons it r ih =>
    intro pre ok f h hok hf
    obtain ⟨f, rfl⟩ : ∃ g, f = g + 1 := ⟨f - 1, by simp only [List.length_cons] at hf; omega⟩
    have hr : ∀ x ∈ r, x.Ok := fun x hx => hok x (List.mem_cons_of_mem _ hx)
    have hit := hok it List.mem_cons_self
    have hnd : NoDash (r.flatMap Item.render ++ post) := by
      cases r with
      | nil =>
        intro d q e
        simp only [List.flatMap_nil, List.nil_append] at e
        rcases hpost with rfl | ⟨q', rfl⟩
        · cases e
        · simp only [List.cons.injEq] at e; omega
      | cons it2 r2 =>
        rw [List.flatMap_cons, List.append_assoc]
        exact render_head (hr it2 List.mem_cons_self) _
    have h' : p.cps.toList = pre ++ (it.render ++ (r.flatMap Item.render ++ post)) := by rw [h, List.flatMap_cons, List.append_assoc]
    have ht := turn_item (c := c) (ok := ok) h' hit hnd
    have hi := ih (pre ++ it.render) (if it.hit c = true then 1 else ok) f (by rw [h', List.append_assoc]) hr (by simp only [List.length_cons] at hf; omega)
    simp only [rmRun, ht]
    rw [List.length_append] at hi
    rw [hi, List.flatMap_cons, List.length_append, List.any_cons]
    congr 2
    · omega
    · cases it.hit c <;> simp
end Mine
end

-- PlC
section
open PySem PySem.W PyProof.Rows PySem.Spec PySem.Calls
namespace Mine
theorem render_pos (it : Item) : 1 ≤ it.render.length := by
  cases it <;> simp [Item.render]
  omega
theorem items_le : ∀ items : List Item, items.length ≤ (items.flatMap Item.render).length
  | [] => Nat.le_refl _
  | it :: r => by
    have h1 := render_pos it
    have h2 := items_le r
    rw [List.flatMap_cons, List.length_append, List.length_cons]
    omega
theorem render_first {it : Item} (h : it.Ok) : ∃ d r, it.render = d :: r ∧ d ≠ 33 ∧ d ≠ 94 := by
  cases it with
  | one c =>
    have := letters_ne (show c ∈ letters from h)
    exact ⟨c, [], rfl, by omega, by omega⟩
  | esc c => exact ⟨92, [c], rfl, by decide, by decide⟩
  | rng m1 a m2 b =>
    have := letters_ne (show a ∈ letters from h.1)
    cases m1 with
    | false => exact ⟨a, 45 :: (bs m2 ++ [b]), rfl, by omega, by omega⟩
    | true => exact ⟨92, a :: 45 :: (bs m2 ++ [b]), rfl, by decide, by decide⟩
def post9 (closed : Bool) (B : List Nat) : List Nat := if closed = true then 93 :: B else []
theorem rm_law {p : Str} {A M B : List Nat} {items : List Item} {c : Nat} {closed : Bool} (h : p.cps.toList = A ++ (M ++ (items.flatMap Item.render ++ post9 closed B))) (hM : M = [] ∨ M = [33] ∨ M = [94])
    (hok : ∀ x ∈ items, x.Ok) :
    rangeMatch p (A.length : Int) (chS c) = if items.any (Item.hit c) = decide (M = []) then ((A.length + M.length + (items.flatMap Item.render).length + (if closed = true then 1 else 0) : Nat) : Int) else -1 := by
  have hl := len_of h
  have hle := items_le items
  have hcl : Closes (post9 closed B) := by
    unfold post9
    cases closed with
    | true => right; exact ⟨B, rfl⟩
    | false => left; rfl
  have hpe : (if post9 closed B = [] then 0 else 1 : Nat) = if closed = true then 1 else 0 := by
    unfold post9; cases closed <;> simp
  simp only [List.length_append] at hl
  unfold rangeMatch
  rcases hM with rfl | hM
  · simp only [List.nil_append, List.length_nil, Nat.zero_add, decide_true] at hl h ⊢
    by_cases hi : (A.length : Int) = p.length
    · rw [if_pos hi]
      have h0 : items = [] := by
        cases items with
        | nil => rfl
        | cons it r => simp only [List.length_cons] at hle; omega
      subst h0
      simp
    · rw [if_neg hi]
      have hneg : (Txt.item p (A.length : Int) == Str.ofString "!" || Txt.item p (A.length : Int) == Str.ofString "^") = false := by
        have : ∃ d r, items.flatMap Item.render ++ post9 closed B = d :: r ∧ d ≠ 33 ∧ d ≠ 94 := by
          cases items with
          | nil =>
            cases closed with
            | true => exact ⟨93, B, rfl, by decide, by decide⟩
            | false => simp [post9] at hl; omega
          | cons it r =>
            obtain ⟨d, q, e, h1, h2⟩ := render_first (hok it List.mem_cons_self)
            exact ⟨d, q ++ (r.flatMap Item.render ++ post9 closed B), by rw [List.flatMap_cons, e]; simp, h1, h2⟩
        obtain ⟨d, r, e, h1, h2⟩ := this
        rw [item_at (by rw [h, e]) rfl, lit_ex, lit_hat, chS_beq, chS_beq]
        simp [h1, h2]
      rw [hneg]
      simp only [Bool.false_eq_true, if_false]
      rw [run_items hcl items A 0 (p.length + 1) h hok (by omega), hpe]
      simp only [rmEnd, Bool.false_eq_true, if_false]
      cases hq : items.any (Item.hit c) <;> simp
  · have hM1 : ∃ d, M = [d] ∧ (d = 33 ∨ d = 94) := by
      rcases hM with rfl | rfl
      · exact ⟨33, rfl, .inl rfl⟩
      · exact ⟨94, rfl, .inr rfl⟩
    obtain ⟨d, rfl, hd⟩ := hM1
    simp only [List.length_cons, List.length_nil, List.cons_append, List.nil_append] at hl h ⊢
    rw [if_neg (by omega)]
    have hneg : (Txt.item p (A.length : Int) == Str.ofString "!" || Txt.item p (A.length : Int) == Str.ofString "^") = true := by
      rw [item_at h rfl, lit_ex, lit_hat, chS_beq, chS_beq]
      rcases hd with rfl | rfl <;> decide
    rw [hneg]
    simp only [if_true]
    have h' : p.cps.toList = (A ++ [d]) ++ (items.flatMap Item.render ++ post9 closed B) := by rw [h]; simp
    have := run_items (c := c) hcl items (A ++ [d]) 0 (p.length + 1) h' hok (by omega)
    rw [List.length_append, List.length_cons, List.length_nil] at this
    have e1 : ((A.length + (0 + 1) : Nat) : Int) = (A.length : Int) + 1 := by omega
    rw [e1] at this
    rw [this, hpe]
    simp only [rmEnd, if_true]
    cases hq : items.any (Item.hit c) <;> simp
theorem rm_end (p t : Str) : rangeMatch p (p.length : Int) t = -1 := by
  unfold rangeMatch; rw [if_pos rfl]
/-- membership among the signs is a hit -/
theorem mem_signs_one {it : Item} {c : Nat} : chS c ∈ it.signs ↔ it.hit c = true := by
  have inj : ∀ {a b : Nat}, chS a = chS b → a = b := fun {a b} e => by
    have := congrArg (fun x : Str => x.cps.toList) e
    simpa [chS] using this
  cases it with
  | one d =>
    simp only [Item.signs, Item.hit, List.mem_singleton, beq_iff_eq]
    exact ⟨fun e => (inj e).symm, fun e => by rw [e]⟩
  | esc d =>
    simp only [Item.signs, Item.hit, List.mem_singleton, beq_iff_eq]
    exact ⟨fun e => (inj e).symm, fun e => by rw [e]⟩
  | rng m1 a m2 b =>
    simp only [Item.signs, Item.hit, List.mem_map, List.mem_range, Bool.and_eq_true, decide_eq_true_eq]
    constructor
    · rintro ⟨k, hk, e⟩
      have := inj e
      omega
    · rintro ⟨h1, h2⟩
      exact ⟨c - a, by omega, by rw [show a + (c - a) = c by omega]⟩
theorem mem_signs {items : List Item} {c : Nat} : chS c ∈ items.flatMap Item.signs ↔ items.any (Item.hit c) = true := by
  rw [List.mem_flatMap, List.any_eq_true]
  exact ⟨fun ⟨x, hx, h⟩ => ⟨x, hx, mem_signs_one.mp h⟩, fun ⟨x, hx, h⟩ => ⟨x, hx, mem_signs_one.mpr h⟩⟩
structure SignCtx (P ah mk : Str) (en : Int) (items : List Item) : Prop where
  law : ∀ d : Nat, rangeMatch P (ah.length : Int) ⟨#[d]⟩ = if ((items.flatMap Item.signs).any (fun x => x == (⟨#[d]⟩ : Str)) == (mk == Str.ofString "")) = true then en else -1
  len : P.length ≤ 100
  alen : ah.length ≤ P.length
theorem any_hit {items : List Item} {d : Nat} : (items.flatMap Item.signs).any (fun x => x == (⟨#[d]⟩ : Str)) = items.any (Item.hit d) := by
  cases hq : items.any (Item.hit d) with
  | true =>
    have := mem_signs.mpr hq
    exact List.any_eq_true.mpr ⟨_, this, by simp [chS]⟩
  | false =>
    cases hr : (items.flatMap Item.signs).any (fun x => x == (⟨#[d]⟩ : Str)) with
    | false => rfl
    | true =>
      obtain ⟨x, hx, e⟩ := List.any_eq_true.mp hr
      have e' : x = chS d := by simpa [chS] using e
      rw [e'] at hx
      rw [mem_signs.mp hx] at hq
      cases hq
theorem mark_nil {mk : Str} (h : mk ∈ [Str.ofString "", Str.ofString "!", Str.ofString "^"]) : (mk.cps.toList = [] ∨ mk.cps.toList = [33] ∨ mk.cps.toList = [94]) ∧ (mk == Str.ofString "") = decide (mk.cps.toList = []) ∧ mk.length ≤ 1 := by
  simp only [List.mem_cons, List.not_mem_nil, or_false] at h
  rcases h with rfl | rfl | rfl <;> decide +kernel
theorem cps_close : (Str.ofString "]").cps.toList = [93] := by decide +kernel
theorem cps_nil : (Str.ofString "").cps.toList = [] := by decide +kernel
theorem len_nil : (Str.ofString "").length = 0 := by decide +kernel
theorem len_toList (x : Str) : x.cps.toList.length = x.length := by simp [Str.length]
theorem sign_closed {ah mk bh text : Str} {items : List Item} (hah : ah.length ≤ 4) (hmk : mk ∈ [Str.ofString "", Str.ofString "!", Str.ofString "^"]) (hbh : bh.length ≤ 4) (ht : text.length ≤ 24)
    (q1 : ∀ x ∈ items, x.Ok) (q2 : text.cps.toList = items.flatMap Item.render) :
    ∃ (P : Str) (en : Int), P = ah ++ mk ++ text ++ Str.ofString "]" ++ bh ∧ en = (P.length : Int) - (bh.length : Int) ∧ SignCtx P ah mk en items := by
  refine ⟨_, _, rfl, rfl, ?_, ?_, ?_⟩
  · intro d
    obtain ⟨m1, m2, m3⟩ := mark_nil hmk
    have h : (ah ++ mk ++ text ++ Str.ofString "]" ++ bh).cps.toList = ah.cps.toList ++ (mk.cps.toList ++ (items.flatMap Item.render ++ post9 true bh.cps.toList)) := by
      simp only [cps_app, cps_close, q2, post9, if_true, List.append_assoc, List.cons_append, List.nil_append]
    have := rm_law (c := d) h m1 q1
    rw [len_toList] at this
    rw [any_hit, m2]
    show rangeMatch _ _ (chS d) = _
    rw [this, len_of h]
    simp only [post9, if_true, List.length_append, List.length_cons, len_toList, beq_iff_eq]
    split
    · omega
    · rfl
  · have e1 := (mark_nil hmk).2.2
    have e2 : (Str.ofString "]").length = 1 := by decide +kernel
    simp only [Str.length_append, e2]
    omega
  · simp only [Str.length_append]
    omega
theorem sign_open {ah mk text : Str} {items : List Item} (hah : ah.length ≤ 4) (hmk : mk ∈ [Str.ofString "", Str.ofString "!", Str.ofString "^"]) (ht : text.length ≤ 24)
    (q1 : ∀ x ∈ items, x.Ok) (q2 : text.cps.toList = items.flatMap Item.render) :
    ∃ (P : Str) (en : Int), P = ah ++ mk ++ text ++ Str.ofString "" ++ Str.ofString "" ∧ en = (P.length : Int) - ((Str.ofString "").length : Int) ∧ SignCtx P ah mk en items := by
  refine ⟨_, _, rfl, rfl, ?_, ?_, ?_⟩
  · intro d
    obtain ⟨m1, m2, m3⟩ := mark_nil hmk
    have h : (ah ++ mk ++ text ++ Str.ofString "" ++ Str.ofString "").cps.toList = ah.cps.toList ++ (mk.cps.toList ++ (items.flatMap Item.render ++ post9 false [])) := by
      simp only [cps_app, cps_nil, q2, post9, Bool.false_eq_true, if_false, List.append_assoc, List.append_nil]
    have := rm_law (c := d) h m1 q1
    rw [len_toList] at this
    rw [any_hit, m2]
    show rangeMatch _ _ (chS d) = _
    rw [this, len_of h, len_nil]
    simp only [post9, Bool.false_eq_true, if_false, List.length_append, List.length_nil, len_toList, beq_iff_eq]
    split
    · omega
    · rfl
  · have e1 := (mark_nil hmk).2.2
    simp only [Str.length_append, len_nil]
    omega
  · simp only [Str.length_append]
    omega
section
variable {h₀ h : Heap} {L sg : Addr} {m : Str → Option Value} {ah mk bh text : Str} {items : List Item} {tp te ta tm : Tok}
theorem abs_closed (F : Fr h₀ L h m) (hp : m (Str.ofString "pattern") = some (.str (ah ++ mk ++ text ++ Str.ofString "]" ++ bh) tp)) (he : m (Str.ofString "end") = some (.int (((ah ++ mk ++ text ++ Str.ofString "]" ++ bh).length : Int) - (bh.length : Int)) te))
    (ha : m (Str.ofString "ahead") = some (.str ah ta)) (hm : m (Str.ofString "mark") = some (.str mk tm)) (hs : m (Str.ofString "signs") = some (.ref sg))
    (hah : ah.length ≤ 4) (hmk : mk ∈ [Str.ofString "", Str.ofString "!", Str.ofString "^"]) (hbh : bh.length ≤ 4) (ht : text.length ≤ 24) (q1 : ∀ x ∈ items, x.Ok) (q2 : text.cps.toList = items.flatMap Item.render) :
    ∃ (P : Str) (en : Int) (tp te ta tm : Tok) (mo : Str → Option Value), SignCtx P ah mk en items ∧ Fr h₀ L h (kstB mo [(Str.ofString "pattern", .str P tp), (Str.ofString "end", .int en te), (Str.ofString "ahead", .str ah ta), (Str.ofString "mark", .str mk tm), (Str.ofString "signs", .ref sg)]) := by
  obtain ⟨P, en, hP, hen, hS⟩ := sign_closed hah hmk hbh ht q1 q2
  rw [← hP] at hp he
  rw [← hen] at he
  obtain ⟨mo, hF⟩ := fr_pick [(Str.ofString "pattern", .str P tp), (Str.ofString "end", .int en te), (Str.ofString "ahead", .str ah ta), (Str.ofString "mark", .str mk tm), (Str.ofString "signs", .ref sg)] F (by
    intro p hp'
    simp only [List.mem_cons, List.not_mem_nil, or_false] at hp'
    rcases hp' with rfl | rfl | rfl | rfl | rfl
    · exact hp
    · exact he
    · exact ha
    · exact hm
    · exact hs)
  exact ⟨P, en, tp, te, ta, tm, mo, hS, hF⟩
theorem abs_open (F : Fr h₀ L h m) (hp : m (Str.ofString "pattern") = some (.str (ah ++ mk ++ text ++ Str.ofString "" ++ Str.ofString "") tp)) (he : m (Str.ofString "end") = some (.int (((ah ++ mk ++ text ++ Str.ofString "" ++ Str.ofString "").length : Int) - ((Str.ofString "").length : Int)) te))
    (ha : m (Str.ofString "ahead") = some (.str ah ta)) (hm : m (Str.ofString "mark") = some (.str mk tm)) (hs : m (Str.ofString "signs") = some (.ref sg))
    (hah : ah.length ≤ 4) (hmk : mk ∈ [Str.ofString "", Str.ofString "!", Str.ofString "^"]) (ht : text.length ≤ 24) (q1 : ∀ x ∈ items, x.Ok) (q2 : text.cps.toList = items.flatMap Item.render) :
    ∃ (P : Str) (en : Int) (tp te ta tm : Tok) (mo : Str → Option Value), SignCtx P ah mk en items ∧ Fr h₀ L h (kstB mo [(Str.ofString "pattern", .str P tp), (Str.ofString "end", .int en te), (Str.ofString "ahead", .str ah ta), (Str.ofString "mark", .str mk tm), (Str.ofString "signs", .ref sg)]) := by
  obtain ⟨P, en, hP, hen, hS⟩ := sign_open hah hmk ht q1 q2
  rw [← hP] at hp he
  rw [← hen] at he
  obtain ⟨mo, hF⟩ := fr_pick [(Str.ofString "pattern", .str P tp), (Str.ofString "end", .int en te), (Str.ofString "ahead", .str ah ta), (Str.ofString "mark", .str mk tm), (Str.ofString "signs", .ref sg)] F (by
    intro p hp'
    simp only [List.mem_cons, List.not_mem_nil, or_false] at hp'
    rcases hp' with rfl | rfl | rfl | rfl | rfl
    · exact hp
    · exact he
    · exact ha
    · exact hm
    · exact hs)
  exact ⟨P, en, tp, te, ta, tm, mo, hS, hF⟩
end
end Mine
end

-- Rm
section
open PySem PySem.W PyProof.Rows PySem.Spec PySem.Calls
namespace Mine
local macro_rules | `(tactic| walk_at "exec While Constant cons nil") => `(tactic| refine stop_ ?_)
local macro_rules | `(tactic| k_steps) => `(tactic| repeat' (first | (k_unfold; (try dsimp only)) | (k_end; wrow_close) | (walk1; (try dsimp only)) | (leave1; walk_say "STEP leave1"; try dsimp only) | fail "no step"))
local macro_rules | `(tactic| walk_at "KswEnd") => `(tactic| refine stop_ ?_)
theorem t_range_match (w : World) (mean : ExcName → Option Value) (mg mb : Str → Option Value) (x y : Str) (i : Int) (tx ty ti : Tok) (hx : x.length ≤ 1000) (hy : y.length = 1) (hi : 0 ≤ i) (hi2 : i ≤ x.length) :
    Tells 1 w mean mg mb 42 [.str x tx, .int i ti, .str y ty] (fun r => ∃ t, r = .int (rangeMatch x i y) t) := by
  unfold Tells
  k_fill
  intro dp un gd cn cs a ccd cl outer A₀ base h₀ L m news s Q E B F X N T hk hdp hu hret
  refine wpAny_call ?_
  k_dflt cell_enter
  k_steps
  all_goals first
    | (refine hret _ _ _ (by k_asm) (by k_asm) (ret_int ?_)
       simp [rangeMatch, *])
    | skip
  all_goals (
    unfold Stop
    rename Fr _ _ _ _ => lF
    rename News _ _ _ _ => lN
    with_unfolding_all refine' ksw_while (σ := RmS) (fun _ => news) (fun c => [("pattern_index", .int c.i c.ti), ("ok", .int c.ok c.tk)]) (fun _ => True) ["c", "c2"] (fun c => 0 ≤ c.i ∧ c.i ≤ x.length ∧ (x.length : Int) - c.i < c.n ∧ rangeMatch x i y = rmEnd (Txt.item x i == Str.ofString "!" || Txt.item x i == Str.ofString "^") (rmRun x y c.n c.i c.ok)) (fun c => c.n) ⟨_, _, _, _, x.length + 1⟩ lF lN trivial ?kk ?kp ?_
    case kk => kst_all
    case kp => exact ⟨by dsimp only; omega, by dsimp only; omega, by dsimp only; omega, by simp [rangeMatch, *]⟩
    clear lF lN
    rintro ⟨i1, ok1, ti1, tk1, n1⟩ u h tk - ⟨p1, p2, p3, p4⟩ F1 N1
    dsimp only at p1 p2 p3 p4 N1
    dsimp only [kstB] at F1
    obtain ⟨f1, rfl⟩ : ∃ f, n1 = f + 1 := ⟨n1 - 1, by omega⟩
    try k_fold
    k_steps
    all_goals first
      | (unfold Stop
         rename News _ _ _ _ => nE
         refine ksw_end ⟨_, _, _, _, f1⟩ (by assumption) nE (fun _ h => h) trivial (by kst_all) (by ksw_same) ?_ (Nat.lt_succ_self _)
         dsimp only
         refine ⟨by omega, by omega, by omega, ?_⟩
         rw [p4]
         clear p4
         simp [rmRun, rmTurn, rmTail, rmRange, *])
      | (refine hret _ _ _ (by k_asm) (by k_asm) (ret_int ?_)
         rw [p4]
         clear p4
         simp [rmEnd, rmRun, rmTurn, rmTail, rmRange, *] <;> (clear hret F N B X T; simp_all)))
end Mine
end

-- Km
section
open PySem PySem.W PyProof.Rows PySem.Spec PySem.Calls
namespace Mine
def kmF (x y : Str) : Bool :=
  if Txt.find y (Str.ofString "*") = -1 then x == y
  else if (x.length : Int) > Txt.find y (Str.ofString "*") then Txt.slice x none (some (Txt.find y (Str.ofString "*"))) == Txt.slice y none (some (Txt.find y (Str.ofString "*")))
  else x == Txt.slice y none (some (Txt.find y (Str.ofString "*")))
def kgF (x y : Str) : Str :=
  if Txt.find y (Str.ofString "*") = -1 then Str.ofString ""
  else if (x.length : Int) > Txt.find y (Str.ofString "*") ∧ (Txt.slice x none (some (Txt.find y (Str.ofString "*"))) == Txt.slice y none (some (Txt.find y (Str.ofString "*")))) = true then Txt.slice x (some (Txt.find y (Str.ofString "*"))) none
  else Str.ofString ""
theorem t_key_match (w : World) (mean : ExcName → Option Value) (mg mb : Str → Option Value) (x y : Str) (tx ty : Tok) (hx : x.length ≤ 1000) (hy : y.length ≤ 1000) :
    Tells 1 w mean mg mb 21 [.str x tx, .str y ty] (fun r => r = .bool (kmF x y)) := by
  unfold Tells
  k_fill
  intro dp un gd cn cs a ccd cl outer A₀ base h₀ L m news s Q E B F X N T hk hdp hu hret
  refine wpAny_call ?_
  k_dflt cell_enter
  k_steps
  all_goals (refine hret _ _ _ (by k_asm) (by k_asm) (ret_bool ?_); simp [kmF, *])
theorem t_key_get (w : World) (mean : ExcName → Option Value) (mg mb : Str → Option Value) (x y : Str) (tx ty : Tok) (hx : x.length ≤ 1000) (hy : y.length ≤ 1000) :
    Tells 1 w mean mg mb 35 [.str x tx, .str y ty] (fun r => ∃ t, r = .str (kgF x y) t) := by
  unfold Tells
  k_fill
  intro dp un gd cn cs a ccd cl outer A₀ base h₀ L m news s Q E B F X N T hk hdp hu hret
  refine wpAny_call ?_
  k_dflt cell_enter
  k_steps
  all_goals (refine hret _ _ _ (by k_asm) (by k_asm) (ret_str ?_); simp [kgF, *])
end Mine
end

-- Kf
section
open PySem PySem.W PyProof.Rows PySem.Spec PySem.Calls
namespace Mine
local macro_rules | `(tactic| walk_at "call ref") => `(tactic| (k_here; k_dflt (refine' tells_use (t_key_match _ _ _ _ _ _ _ _ ?hx ?hy) ?k1 ?k2 ?k3 ?k4 ?k5 ?kK ?kd ?ku ?kR; (case k1 => k_asm); (case k2 => k_asm); (case k3 => k_asm); (case k4 => k_asm); (case k5 => k_asm); (case kK => first | exact rfl | assumption); (case hx => omega); (case hy => omega); (case kd => ktr_room); (case ku => ktr_units)); intro r' h' tk' F' N' e'; subst e'; (try dsimp only)))
theorem t_key_match_func (w : World) (mean : ExcName → Option Value) (mg mb : Str → Option Value) (x y : Str) (tx ty : Tok) (hx : x.length ≤ 1000) (hy : y.length ≤ 1000) :
    Tells 2 w mean mg mb 28 [.str x tx, .str y ty] (fun r => r = .bool (kmF x y)) := by
  unfold Tells
  k_fill
  intro dp un gd cn cs a ccd cl outer A₀ base h₀ L m news s Q E B F X N T hk hdp hu hret
  refine wpAny_call ?_
  k_dflt (refine' kp_rest ?k1 ?k2 ?k3 ?k4 ?k5 ?kA ?kF ?kK ?k6 ?k7 ?k8 ?kV ?kP ?kG ?kB ?_ ?c2 ?c3 ?c4 ?c5; (case kA => exact rfl); (case kF => exact rfl); (case kK => assumption); (case k1 => k_asm); (case k2 => k_asm); (case k3 => k_asm); (case k4 => k_asm); (case k5 => k_asm); (case k6 => k_is); (case k7 => k_is); (case k8 => ktr_room); (case kV => kl_lit); (case kP => exact rfl); (case kG => exact fun _ => rfl); (case kB => exact fun _ => locs rfl); (case c5 => decide); (case c2 => exact rfl); (case c3 => exact rfl); (case c4 => exact rfl); k_whole; intro D' g' L' h' l1 FG' F' N' B' X' T'; (try k_lt l1); (try dsimp only); (try k_lift B'); (try k_fold))
  k_steps
  all_goals exact hret _ _ _ (by k_asm) (cb_drop (by assumption) (fun _ hp => List.Mem.tail _ hp)) rfl
end Mine
end

-- Kn
section
open PySem PySem.W PyProof.Rows PySem.Spec PySem.Calls
namespace Mine
abbrev stO (sl : Addr) (i : Int) (t : Tok) : Obj := listOf #[.ref sl, .int i t] 0
def nxt (ns : List Int) (i lim : Int) : Int := if i < ns.length then Int.fmod (ns.getD i.toNat 0) lim else 0
theorem nxt_lo {ns : List Int} {i lim : Int} (h : 0 < lim) : 0 ≤ nxt ns i lim := by
  unfold nxt; split
  · exact Int.fmod_nonneg_of_pos _ h
  · exact Int.le_refl _
theorem nxt_hi {ns : List Int} {i lim : Int} (h : 0 < lim) : nxt ns i lim < lim := by
  unfold nxt; split
  · exact Int.fmod_lt_of_pos _ h
  · exact h
def NextTells (w : World) (mean : ExcName → Option Value) (mg mb : Str → Option Value) : Prop := ∀ (st sl : Addr) (vs : List Value) (ns : List Int) (e1 : Nat) (i lim : Int) (ti tl : Tok) 
  (dp un : Nat) (gd : Option (List Code)) (cn : Str) (cs : Scope) (a : Addr) (ccd : Value) (cl : List (Str × Addr)) (outer : List Env) (A₀ : Around) (base h₀ : Heap) (L : Addr) (m : Str → Option Value) (rest : List (Addr × Obj)) (s : Shared)
    (Q E : Value → Shared → Prop)
    (_ : Below A₀ base outer h₀) (_ : Fr h₀ L s.heap m) (_ : (hd.heap_39 w.params).In h₀) (_ : News h₀ L s.heap ((st, stO sl i ti) :: (sl, listOf vs.toArray e1) :: rest)) (_ : Top hd.view_39 (looseW hd.view_39 []) mean mg mb h₀) (_ : cs.kind = .function) (_ : dp + 1 < recursionLimit) (_ : un + 8 < cLine) 
    (_ : IntsAre vs ns) (_ : ns.length ≤ 60) (_ : 0 ≤ i) (_ : i ≤ 1000) (_ : 0 < lim) (_ : lim ≤ 100) (_ : sl ≠ st) (_ : ∀ p ∈ rest, p.1 ≠ st)
    (_ : ∀ t t' h' tk', Fr h₀ L h' m → News h₀ L h' ((st, stO sl (i + 1) t') :: (sl, listOf vs.toArray e1) :: rest) → Q (.int (nxt ns i lim) t) { s with heap := h', toks := tk' }), 
    wpAny (model PySem.Challenge.rw_fy0024_01.row.prog w) (ktrTop dp un gd cn cs L a ccd cl outer) (call (.ref 49) [.ref st, .int lim tl]) Q E s
theorem next_ret {h₀ h' : Heap} {L : Addr} {m : Str → Option Value} {s : Shared} {Q : Value → Shared → Prop} {x y : Int} {t : Tok} {tk' : Nat} {N : Tok → List (Addr × Obj)} {t' : Tok}
    (hret : ∀ t t' h' tk', Fr h₀ L h' m → News h₀ L h' (N t') → Q (.int x t) { s with heap := h', toks := tk' }) (e : y = x) (F : Fr h₀ L h' m) (N' : News h₀ L h' (N t')) : Q (.int y t) { s with heap := h', toks := tk' } := by
  subst e
  exact hret t t' h' tk' F N'
local macro_rules | `(tactic| k_all) => `(tactic| assumption)
theorem t_law_next (w : World) (mean : ExcName → Option Value) (mg mb : Str → Option Value) : NextTells w mean mg mb := by
  unfold NextTells
  k_fill
  intro st sl vs ns e1 i lim ti tl dp un gd cn cs a ccd cl outer A₀ base h₀ L m rest s Q E B F X N T hk hdp hu hI hns h0 h1 hl hl2 hne hoff hret
  refine wpAny_call ?_
  k_dflt cell_enter
  k_steps
  all_goals (
    rename Fr h₀ L _ _ => kF
    rename News h₀ L _ _ => kN
    refine next_ret (s := s) (Q := Q) hret ?_ kF kN
    unfold nxt
    first
      | (rw [if_neg (by omega)])
      | (rw [if_pos (by omega), show i + 1 - 1 = i by omega]))

theorem Upd_mem {d : Addr} {o o' : Obj} {p : Addr × Obj} : ∀ {l l' : List (Addr × Obj)}, Upd d o o' l l' → p ∈ l → p.1 ≠ d → p ∈ l'
  | _, _, .head _, hp, h => by
    rcases List.mem_cons.mp hp with rfl | hp
    · exact absurd rfl h
    · exact List.mem_cons_of_mem _ hp
  | _, _, .tail _ r, hp, h => by
    rcases List.mem_cons.mp hp with rfl | hp
    · exact List.mem_cons_self ..
    · exact List.mem_cons_of_mem _ (Upd_mem r hp h)
theorem next_use {w : World} {mean : ExcName → Option Value} {mg mb : Str → Option Value} {st sl : Addr} {vs : List Value} {ns : List Int} {e1 : Nat} {i lim : Int} {ti tl : Tok}
  {dp un : Nat} {gd : Option (List Code)} {cn : Str} {cs : Scope} {a : Addr} {ccd : Value} {cl : List (Str × Addr)} {outer : List Env} {A₀ : Around} {base h₀ : Heap} {L : Addr} {m : Str → Option Value} {news : List (Addr × Obj)} {news' : Tok → List (Addr × Obj)} {s : Shared}
    {Q E : Value → Shared → Prop} (C : NextTells w mean mg mb)
    (B : Below A₀ base outer h₀) (F : Fr h₀ L s.heap m) (X : (hd.heap_39 w.params).In h₀) (N : News h₀ L s.heap news) (T : Top hd.view_39 (looseW hd.view_39 []) mean mg mb h₀) (hk : cs.kind = .function) (hdp : dp + 1 < recursionLimit) (hu : un + 8 < cLine)
    (hU : ∀ t', Upd st (stO sl i ti) (stO sl (i + 1) t') news (news' t')) (hsl : (sl, listOf vs.toArray e1) ∈ news) (hI : IntsAre vs ns) (hns : ns.length ≤ 60) (h0 : 0 ≤ i) (h1 : i ≤ 1000) (hl : 0 < lim) (hl2 : lim ≤ 100)
    (hret : ∀ (v : Int) t t' h' tk', 0 ≤ v → v < lim → Fr h₀ L h' m → News h₀ L h' (news' t') → Q (.int v t) { s with heap := h', toks := tk' }) :
    wpAny (model PySem.Challenge.rw_fy0024_01.row.prog w) (ktrTop dp un gd cn cs L a ccd cl outer) (call (.ref 49) [.ref st, .int lim tl]) Q E s := by
  obtain ⟨pre, post, rfl, e, ha, hb⟩ := (hU 0).split
  have hne : sl ≠ st := by
    intro q
    subst q
    have h2 := (N _ hsl).1
    have h3 := (N (sl, stO sl i ti) (List.mem_append.mpr (.inr (.head _)))).1
    rw [h3] at h2
    have h4 := congrArg Obj.data (Option.some.inj h2)
    have h5 : (#[Value.ref sl, .int i ti] : Array Value) = vs.toArray := by injection h4
    have h6 : vs = [Value.ref sl, .int i ti] := by
      have := congrArg Array.toList h5
      simpa using this.symm
    subst h6
    cases hI
  have hsl' : (sl, listOf vs.toArray e1) ∈ pre ++ post := by
    rcases List.mem_append.mp hsl with q | q
    · exact List.mem_append.mpr (.inl q)
    · rcases List.mem_cons.mp q with q | q
      · exact absurd (congrArg Prod.fst q) hne
      · exact List.mem_append.mpr (.inr q)
  refine C st sl vs ns e1 i lim ti tl dp un gd cn cs a ccd cl outer A₀ base h₀ L m (pre ++ post) s Q E B F X (fun p hp => N p ?_) T hk hdp hu hI hns h0 h1 hl hl2 hne ?_ ?_
  · rcases List.mem_cons.mp hp with rfl | hp
    · exact List.mem_append.mpr (.inr (.head _))
    · rcases List.mem_cons.mp hp with rfl | hp
      · exact hsl
      · rcases List.mem_append.mp hp with hp | hp
        · exact List.mem_append.mpr (.inl hp)
        · exact List.mem_append.mpr (.inr (.tail _ hp))
  · intro p hp
    rcases List.mem_append.mp hp with hp | hp
    · exact ha p hp
    · exact hb p hp
  · intro t t' h' tk' F' N'
    refine hret _ t t' h' tk' (nxt_lo hl) (nxt_hi hl) F' ?_
    obtain ⟨pre2, post2, e2, e3, ha2, hb2⟩ := (hU t').split
    rw [e3]
    intro p hp
    have key : ∀ p ∈ pre2 ++ (st, stO sl i ti) :: post2, p.1 ≠ st → p ∈ pre ++ post := by
      intro p hp hn
      rw [← e2] at hp
      rcases List.mem_append.mp hp with q | q
      · exact List.mem_append.mpr (.inl q)
      · rcases List.mem_cons.mp q with q | q
        · exact absurd (congrArg Prod.fst q) hn
        · exact List.mem_append.mpr (.inr q)
    rcases List.mem_append.mp hp with q | q
    · exact N' p (.tail _ (.tail _ (key p (List.mem_append.mpr (.inl q)) (ha2 p q))))
    · rcases List.mem_cons.mp q with rfl | q
      · exact N' _ (.head _)
      · exact N' p (.tail _ (.tail _ (key p (List.mem_append.mpr (.inr (.tail _ q))) (hb2 p q))))
end Mine
end

-- Kc
section
open PySem PySem.W PyProof.Rows PySem.Spec PySem.Calls
namespace Mine
structure CS where
  text : Str
  tt : Tok
  sg : Addr
  svs : List Value
  e2 : Nat
  i : Int
  ti : Tok
def ClassTells (w : World) (mean : ExcName → Option Value) (mg mb : Str → Option Value) : Prop := ∀ (st sl : Addr) (vs : List Value) (ns : List Int) (e1 : Nat) (i : Int) (ti : Tok) 
  (dp un : Nat) (gd : Option (List Code)) (cn : Str) (cs : Scope) (a : Addr) (ccd : Value) (cl : List (Str × Addr)) (outer : List Env) (A₀ : Around) (base h₀ : Heap) (L : Addr) (m : Str → Option Value) (rest : List (Addr × Obj)) (s : Shared)
    (Q E : Value → Shared → Prop)
    (_ : Below A₀ base outer h₀) (_ : Fr h₀ L s.heap m) (_ : (hd.heap_39 w.params).In h₀) (_ : News h₀ L s.heap ((st, stO sl i ti) :: (sl, listOf vs.toArray e1) :: rest)) (_ : Top hd.view_39 (looseW hd.view_39 []) mean mg mb h₀) (_ : cs.kind = .function) (_ : dp + 2 < recursionLimit) (_ : un + 16 < cLine) 
    (_ : IntsAre vs ns) (_ : ns.length ≤ 60) (_ : 0 ≤ i) (_ : i ≤ 10) (_ : sl ≠ st) (_ : ∀ p ∈ rest, p.1 ≠ st)
    (_ : ∀ (D sg : Addr) (items : List Item) (text : Str) (tt : Tok) (svs : List Value) (e2 : Nat) (i' : Int) (t' : Tok) h' tk', (∀ x ∈ items, x.Ok) → text.cps.toList = items.flatMap Item.render → StrsAre svs (items.flatMap Item.signs) → text.length ≤ 24 → svs.length ≤ 120 → 0 ≤ i' → i' ≤ 31 → (@Ne Nat sg st) → (@Ne Nat D st) →
      Fr h₀ L h' m → News h₀ L h' ((D, { cls := .type "tuple", data := .seq #[.str text tt, .ref sg] 0 }) :: (sg, listOf svs.toArray e2) :: (st, stO sl i' t') :: (sl, listOf vs.toArray e1) :: rest) → Q (.ref D) { s with heap := h', toks := tk' }), 
    wpAny (model PySem.Challenge.rw_fy0024_01.row.prog w) (ktrTop dp un gd cn cs L a ccd cl outer) (call (.ref 54) [.ref st]) Q E s
local macro_rules | `(tactic| k_all) => `(tactic| assumption)
local macro_rules | `(tactic| k_steps) => `(tactic| repeat' (first | (k_unfold; (try dsimp only)) | (k_end; wrow_close) | (walk1; (try dsimp only)) | (leave1; walk_say "STEP leave1"; try dsimp only) | fail "no step"))
local macro_rules | `(tactic| walk_at "pyIter ref") => `(tactic| refine stop_ ?_)
local macro_rules | `(tactic| walk_at "exec For Name Call cons nil") => `(tactic| (k_here; (rename Fr _ _ _ _ => lF'); (with_unfolding_all refine' For_invVF lF' ?k1 ?k2 ?_; (case k1 => exact rfl); (case k2 => exact rfl); k_whole)))
local macro_rules | `(tactic| walk_at "eval ListComp") => `(tactic| (k_here; k_dflt (refine LCg.ListComp_U (F₀ := by k_asm) (by with_unfolding_all rfl) (by decide) (by rfl) (by decide) (by rfl) ?_)))
local macro_rules | `(tactic| walk_at "CompSrc") => `(tactic| refine stop_ ?_)
local macro_rules | `(tactic| walk_at "RngPost") => `(tactic| (dsimp only [RngPost]))
local macro_rules | `(tactic| walk_at "RngEnd") => `(tactic| refine stop_ ?_)
local macro_rules | `(tactic| walk_at "call type:range") => `(tactic| (k_here; (rename Fr _ _ _ _ => F'); (rename News _ _ _ _ => N'); first | (with_unfolding_all refine range1_rows F' N' ?_; intro _ _ _ _ _ _ _ _ _) | (with_unfolding_all refine range2_rows F' N' ?_; intro _ _ _ _ _ _ _ _ _)))
local macro_rules | `(tactic| walk_at "inplaceOp Add str str") => `(tactic| (k_here; (refine SBL.iadd (hsz := (by simp only [PySem.Str.length_append, len_item, PySem.sizeLine_eq]; (try kopn_lits); (try kopn_tabs); omega)) ?_); intro _ _ _))
local macro_rules | `(tactic| walk_at "binaryOp Add str str") => `(tactic| (k_here; (refine SBL.add (hsz := (by simp only [PySem.Str.length_append, len_item, PySem.sizeLine_eq]; (try kopn_lits); (try kopn_tabs); omega)) ?_); intro _ _ _))
local macro_rules | `(tactic| walk_at "subscriptTail Name UnaryOp str int") => `(tactic| (k_here; (refine item_str (by decide) (by simp only [PySem.Str.length_append, len_item]; (try kopn_lits); omega) (by omega) ?_); intro _))
local macro_rules | `(tactic| walk_at "subscriptTail Name Name str int") => `(tactic| (k_here; (refine item_str (fitsSsize_of (N := 9223372036854775808) (by omega) (by omega) (Int.le_refl _)) (by (try kopn_lits); omega) (by (try kopn_lits); omega) ?_); intro _))
local macro_rules | `(tactic| walk_at "subscriptTail Constant Call str int") => `(tactic| (k_here; (refine item_str (fitsSsize_of (N := 9223372036854775808) (by omega) (by omega) (Int.le_refl _)) (by (try kopn_lits); omega) (by (try kopn_lits); omega) ?_); intro _))
local macro_rules | `(tactic| walk_at "subscriptTail Name Call str int") => `(tactic| (k_here; (refine item_str (fitsSsize_of (N := 9223372036854775808) (by omega) (by omega) (Int.le_refl _)) (by (try kopn_lits); omega) (by (try kopn_lits); omega) ?_); intro _))
local macro_rules | `(tactic| walk_at "binaryOp Add ref ref") => `(tactic| (k_here; k_dflt (refine kmk_add_lit (its := List.toArray _) (its2 := List.toArray _) (by k_asm) (by k_asm) (by kmk_list) (by kmk_list) (by exact rfl) ?_ (by simp only [List.toList_toArray, PySem.sizeLine_eq]; omega)); intro D' h' F' N' l1; (try k_lt l1); (try simp only [List.toList_toArray] at N')))
local macro_rules | `(tactic| walk_at "CompEnd") => `(tactic| refine stop_ ?_)
local macro_rules | `(tactic| walk_at "call builtin:list.append") => `(tactic| (k_here; k_dflt (refine append_K (by k_asm) (by k_asm) (by k_upd) ?_ (by rw [List.size_toArray, PySem.sizeLine_eq]; omega)); intro h' F' N'))
local macro_rules | `(tactic| walk_at "subscriptTail") => `(tactic| (k_here; (with_reducible show wpAny _ _ (subscriptTail _ _ (Value.ref _) (Value.int _ _)) _ _ _); ktb_letter; k_dflt (refine KTb.item_tup (News.isTup (by k_asm) (by k_mem)) (by repeat constructor) (by omega) (by (try simp only [List.length_cons, List.length_nil]); omega) (by omega) ?_); intro _ _))
local macro_rules | `(tactic| walk_at "call ref") => `(tactic| (k_here; k_dflt (refine next_use (t_law_next _ _ _ _) (by k_asm) (by k_asm) (by k_asm) (by k_asm) (by k_asm) (by first | exact rfl | assumption) (by ktr_room) (by ktr_units) (by intro t'; k_upd) (by k_mem) (by assumption) (by assumption) (by omega) (by omega) (by omega) (by omega) ?_); intro v' t' u' h' tk' hv0' hv1' F' N'; (try dsimp only)))
theorem t_law_class (w : World) (mean : ExcName → Option Value) (mg mb : Str → Option Value) : ClassTells w mean mg mb := by
  unfold ClassTells
  k_fill
  intro st sl vs ns e1 i ti dp un gd cn cs a ccd cl outer A₀ base h₀ L m rest s Q E B F X N T hk hdp hu hI hns h0 h1 hne hoff hret
  refine wpAny_call ?_
  k_dflt cell_enter
  k_steps
  unfold Stop
  rename Fr _ _ _ _ => lF
  rename News _ _ _ _ => lN
  rename IsRange _ _ _ _ _ _ _ _ => lR
  rename (0 : Int) ≤ _ => v0
  rename _ < (4 : Int) => v1
  rename Int => nv
  with_unfolding_all refine' iter_rng (σ := CS) (n := (1 + nv).toNat) (fun c => (c.sg, listOf c.svs.toArray c.e2) :: (st, stO sl c.i c.ti) :: (sl, listOf vs.toArray e1) :: rest) (fun c => [("text", .str c.text c.tt), ("signs", .ref c.sg)]) ["pick", "first", "last", "mark"] (fun j c => (c.text.length ≤ 6 * j ∧ c.svs.length ≤ 30 * j) ∧ 0 ≤ c.i ∧ c.i ≤ i + 1 + 5 * j ∧ c.sg ≠ st ∧ sl ≠ c.sg ∧ (∀ p ∈ rest, p.1 ≠ c.sg) ∧ ∃ items : List Item, (∀ x ∈ items, x.Ok) ∧ c.text.cps.toList = items.flatMap Item.render ∧ StrsAre c.svs (items.flatMap Item.signs)) ⟨_, _, _, _, _, _, _⟩ (by exact rfl) lR (small_one (by omega) (by omega) (by omega) (by omega)) (by rw [rangeSize_one]; (split <;> omega)) lF lN ?kk ?kp ?turn ?done
  case kk => kst_all
  case kp => exact ⟨⟨Nat.zero_le _, Nat.zero_le _⟩, by dsimp only; omega, by dsimp only; omega, by (rename _ < _ ∧ _ < _ ∧ _ => l1; refine neN ?_; dsimp only; omega), by (rename _ < _ ∧ _ < _ ∧ _ => l1; refine neN ?_; dsimp only; omega), by (rename _ < _ ∧ _ < _ ∧ _ => l1; exact fun p hp => Nat.ne_of_lt (ktn_ltOf l1.2.2 p hp)), [], (fun _ h => nomatch h), by rfl, .nil⟩
  case turn =>
    clear lF lN
    rintro j tj I ⟨text, tt, sg, svs, e2, ij, tij⟩ u h tk o hj ⟨⟨p1, p5⟩, p2, p3, p4, p6, p7, items, q1, q2, q3⟩ hoffI F1 N1
    dsimp only at p1 p2 p3 p4 p5 p6 p7 q2 q3 hoffI
    dsimp only [envOf] at N1
    dsimp only [kstB, envOf] at F1
    have hI1 := neN (hoffI _ (.head _))
    have hI2 := neN (hoffI _ (.tail _ (.head _)))
    have hI3 := neN (hoffI _ (.tail _ (.tail _ (.head _))))
    have hI4 : ∀ p ∈ rest, p.1 ≠ I := fun p hp => hoffI p (.tail _ (.tail _ (.tail _ hp)))
    have p4' := neN p4
    have p6' := neN p6
    have hne' := neN hne
    clear hoffI p4 p6
    dsimp only at hI1 hI2 hI3
    try k_fold
    k_steps
    · unfold Stop
      rename IsRange _ _ _ _ _ _ _ _ => lR2
      rename _ < 9 - _ => hlast
      obtain ⟨A, B, hA, hB, hAB, hA1, hB1, eA, eB⟩ := rng_pick hlast (by omega) (by omega)
      rw [eA, eB] at lR2
      have lR3 : IsRange _ _ (A : Int) ((B : Int) + 1) 1 _ _ _ := lR2
      clear lR2
      k_dflt (refine LCg.CompSrc.range (by rfl) (by k_asm) (by k_asm) lR3 (small_one (by omega) (by omega) (by omega) (by omega)) (rangeSize_nat _ _) (by rw [PySem.sizeLine_eq]; omega) ?_)
      intro g9
      refine comp_inv (σ := Unit) (fun _ => _) (fun i ys _ => StrsAre ys ((List.range i).map fun k => chS (A + k))) () .nil ?turn2 ?fin2
      case turn2 =>
        rintro i2 v2 ys2 ⟨⟩ I2 oI2 C2 oC2 D2 m2 h2 tk2 E2 hi2 ⟨t2, rfl⟩ hJ2 hC2 hx2 F2 N2 off2 ne2
        k_steps
        unfold Stop
        rename Fr _ _ h2 _ => F3
        rename News _ _ h2 _ => N3
        have e9 : ((A : Int) + (i2 : Int)).toNat = A + i2 := by omega
        refine LCg.CompEnd.intro F3 N3 _ (fun p hp => hp) off2 trivial ⟨(), rfl, ?_⟩
        rw [e9, List.range_succ, List.map_append]
        exact hJ2.append' strs_one
      case fin2 =>
        rintro ys2 ⟨⟩ hJ2
        intro D2 h2 tk2 F2 N2 off2
        have hy2 : ys2.length ≤ 26 := by
          have := hJ2.length
          rw [List.length_map, List.length_range] at this
          omega
        try k_fold
        k_steps
        unfold Stop
        rename News _ _ _ _ => nE
        rename _ < _ ∧ _ < _ ∧ _ => l9
        have hn9 : ((B : Int) + 1 - (A : Int)).toNat = B + 1 - A := by omega
        rw [hn9] at hJ2
        refine rng_end ⟨_, _, _, _, _, _, _⟩ (by assumption) nE (by k_mem) (List.forall_mem_cons.mpr ⟨by k_mem, List.forall_mem_cons.mpr ⟨by k_mem, List.forall_mem_cons.mpr ⟨by k_mem, (by intro p hp; repeat (first | assumption | refine List.mem_cons_of_mem _ ?_))⟩⟩⟩) (List.forall_mem_cons.mpr ⟨neN (by dsimp only; omega), List.forall_mem_cons.mpr ⟨hI2, List.forall_mem_cons.mpr ⟨hI3, hI4⟩⟩⟩) (by kst_all) (by intro z hx hq hs; simp only [List.forall_mem_cons, List.not_mem_nil, false_implies, implies_true, and_true, ne_eq] at hq; simp only [List.contains_cons, List.contains_nil, Bool.or_false, Bool.or_eq_false_iff, beq_eq_false_iff_ne, ne_eq] at hs; simp [hx, hq, hs]) ?_
        dsimp only
        refine ⟨⟨?_, ?_⟩, by omega, by omega, neN (by omega), neN (by omega), fun p hp => Nat.ne_of_lt (ktn_ltOf l9.2.2.2.2.2.2.2 p hp), ?_⟩
        · simp only [PySem.Str.length_append, len_item]; (try kopn_lits); (try kopn_tabs); omega
        · simp only [List.length_append]; omega
        · rw [eA, eB]
          exact rng_done q1 q2 q3 hA hB hAB ⟨_, mark_bsZ (by omega) (by omega)⟩ ⟨_, mark_bsZ (by omega) (by omega)⟩ hJ2
    · unfold Stop
      rename News _ _ _ _ => nE
      rename _ < (5 : Int) => h5
      obtain ⟨A, hA, eA⟩ := esc_pick h5 (by omega)
      rw [eA, item_last2] at nE
      simp only [List.push_toArray] at nE
      refine rng_end ⟨_, _, _, _, _, _, _⟩ (by assumption) nE (by k_mem) (List.forall_mem_cons.mpr ⟨by k_mem, List.forall_mem_cons.mpr ⟨by k_mem, List.forall_mem_cons.mpr ⟨by k_mem, (by intro p hp; repeat (first | assumption | refine List.mem_cons_of_mem _ ?_))⟩⟩⟩) (List.forall_mem_cons.mpr ⟨hI1, List.forall_mem_cons.mpr ⟨hI2, List.forall_mem_cons.mpr ⟨hI3, hI4⟩⟩⟩) (by kst_all) (by intro z hx hq hs; simp only [List.forall_mem_cons, List.not_mem_nil, false_implies, implies_true, and_true, ne_eq] at hq; simp only [List.contains_cons, List.contains_nil, Bool.or_false, Bool.or_eq_false_iff, beq_eq_false_iff_ne, ne_eq] at hs; simp [hx, hq, hs]) ?_
      dsimp only
      refine ⟨⟨?_, ?_⟩, by omega, by omega, p4', p6', p7, items ++ [Item.esc A], ok_snoc q1 hA, ?_, snoc_signs q3 strs_one⟩
      · simp only [PySem.Str.length_append, len_item]; (try kopn_lits); (try kopn_tabs); omega
      · simp only [List.length_append, List.length_cons, List.length_nil]; omega
      · rw [eA]
        exact esc_text q2
    · unfold Stop
      rename News _ _ _ _ => nE
      rename _ < (9 : Int) => h9
      obtain ⟨A, hA, eA⟩ := one_pick h9 (by omega)
      rw [eA] at nE
      simp only [List.push_toArray] at nE
      refine rng_end ⟨_, _, _, _, _, _, _⟩ (by assumption) nE (by k_mem) (List.forall_mem_cons.mpr ⟨by k_mem, List.forall_mem_cons.mpr ⟨by k_mem, List.forall_mem_cons.mpr ⟨by k_mem, (by intro p hp; repeat (first | assumption | refine List.mem_cons_of_mem _ ?_))⟩⟩⟩) (List.forall_mem_cons.mpr ⟨hI1, List.forall_mem_cons.mpr ⟨hI2, List.forall_mem_cons.mpr ⟨hI3, hI4⟩⟩⟩) (by kst_all) (by intro z hx hq hs; simp only [List.forall_mem_cons, List.not_mem_nil, false_implies, implies_true, and_true, ne_eq] at hq; simp only [List.contains_cons, List.contains_nil, Bool.or_false, Bool.or_eq_false_iff, beq_eq_false_iff_ne, ne_eq] at hs; simp [hx, hq, hs]) ?_
      dsimp only
      refine ⟨⟨?_, ?_⟩, by omega, by omega, p4', p6', p7, items ++ [Item.one A], ok_snoc q1 hA, ?_, snoc_signs q3 strs_one⟩
      · simp only [PySem.Str.length_append, len_item]; (try kopn_lits); (try kopn_tabs); omega
      · simp only [List.length_append, List.length_cons, List.length_nil]; omega
      · rw [eA]
        exact one_text q2
  case done =>
    clear lF lN
    rintro ⟨text, tt, sg, svs, e2, ij, tij⟩ u h tk ⟨⟨p1, p5⟩, p2, p3, p4, p6, p7, items, q1, q2, q3⟩ F1 N1
    dsimp only at p1 p2 p3 p4 p5 p6 p7 q2 q3
    dsimp only [envOf] at N1
    dsimp only [kstB, envOf] at F1
    try k_fold
    k_steps
    rename _ < _ ∧ _ < _ ∧ _ => l9
    exact hret _ _ items text tt svs _ _ _ _ _ q1 q2 q3 (by omega) (by omega) (by omega) (by omega) (neN p4) (neN (by omega)) (by assumption) (by assumption)
theorem class_use {w : World} {mean : ExcName → Option Value} {mg mb : Str → Option Value} {st sl : Addr} {vs : List Value} {ns : List Int} {e1 : Nat} {i : Int} {ti : Tok}
  {dp un : Nat} {gd : Option (List Code)} {cn : Str} {cs : Scope} {a : Addr} {ccd : Value} {cl : List (Str × Addr)} {outer : List Env} {A₀ : Around} {base h₀ : Heap} {L : Addr} {m : Str → Option Value} {news : List (Addr × Obj)} {news' : Int → Tok → List (Addr × Obj)} {s : Shared}
    {Q E : Value → Shared → Prop} (C : ClassTells w mean mg mb)
    (B : Below A₀ base outer h₀) (F : Fr h₀ L s.heap m) (X : (hd.heap_39 w.params).In h₀) (N : News h₀ L s.heap news) (T : Top hd.view_39 (looseW hd.view_39 []) mean mg mb h₀) (hk : cs.kind = .function) (hdp : dp + 2 < recursionLimit) (hu : un + 16 < cLine)
    (hU : ∀ i' t', Upd st (stO sl i ti) (stO sl i' t') news (news' i' t')) (hsl : (sl, listOf vs.toArray e1) ∈ news) (hI : IntsAre vs ns) (hns : ns.length ≤ 60) (h0 : 0 ≤ i) (h1 : i ≤ 10)
    (hret : ∀ (D sg : Addr) (items : List Item) (text : Str) (tt : Tok) (svs : List Value) (e2 : Nat) (i' : Int) (t' : Tok) h' tk', (∀ x ∈ items, x.Ok) → text.cps.toList = items.flatMap Item.render → StrsAre svs (items.flatMap Item.signs) → text.length ≤ 24 → svs.length ≤ 120 → 0 ≤ i' → i' ≤ 31 → (@Ne Nat sg st) → (@Ne Nat D st) →
      Fr h₀ L h' m → News h₀ L h' ((D, { cls := .type "tuple", data := .seq #[.str text tt, .ref sg] 0 }) :: (sg, listOf svs.toArray e2) :: news' i' t') → Q (.ref D) { s with heap := h', toks := tk' }) :
    wpAny (model PySem.Challenge.rw_fy0024_01.row.prog w) (ktrTop dp un gd cn cs L a ccd cl outer) (call (.ref 54) [.ref st]) Q E s := by
  obtain ⟨pre, post, rfl, e, ha, hb⟩ := (hU 0 0).split
  have hne : sl ≠ st := by
    intro q
    subst q
    have h2 := (N _ hsl).1
    have h3 := (N (sl, stO sl i ti) (List.mem_append.mpr (.inr (.head _)))).1
    rw [h3] at h2
    have h4 := congrArg Obj.data (Option.some.inj h2)
    have h5 : (#[Value.ref sl, .int i ti] : Array Value) = vs.toArray := by injection h4
    have h6 : vs = [Value.ref sl, .int i ti] := by
      have := congrArg Array.toList h5
      simpa using this.symm
    subst h6
    cases hI
  have hsl' : (sl, listOf vs.toArray e1) ∈ pre ++ post := by
    rcases List.mem_append.mp hsl with q | q
    · exact List.mem_append.mpr (.inl q)
    · rcases List.mem_cons.mp q with q | q
      · exact absurd (congrArg Prod.fst q) hne
      · exact List.mem_append.mpr (.inr q)
  refine C st sl vs ns e1 i ti dp un gd cn cs a ccd cl outer A₀ base h₀ L m (pre ++ post) s Q E B F X (fun p hp => N p ?_) T hk hdp hu hI hns h0 h1 hne ?_ ?_
  · rcases List.mem_cons.mp hp with rfl | hp
    · exact List.mem_append.mpr (.inr (.head _))
    · rcases List.mem_cons.mp hp with rfl | hp
      · exact hsl
      · rcases List.mem_append.mp hp with hp | hp
        · exact List.mem_append.mpr (.inl hp)
        · exact List.mem_append.mpr (.inr (.tail _ hp))
  · intro p hp
    rcases List.mem_append.mp hp with hp | hp
    · exact ha p hp
    · exact hb p hp
  · intro D sg items text tt svs e2 i' t' h' tk' g1 g2 g3 g4 g5 g6 g7 g8 g9 F' N'
    refine hret D sg items text tt svs e2 i' t' h' tk' g1 g2 g3 g4 g5 g6 g7 g8 g9 F' ?_
    obtain ⟨pre2, post2, e2', e3, ha2, hb2⟩ := (hU i' t').split
    rw [e3]
    have key : ∀ p ∈ pre2 ++ (st, stO sl i ti) :: post2, p.1 ≠ st → p ∈ pre ++ post := by
      intro p hp hn
      rw [← e2'] at hp
      rcases List.mem_append.mp hp with q | q
      · exact List.mem_append.mpr (.inl q)
      · rcases List.mem_cons.mp q with q | q
        · exact absurd (congrArg Prod.fst q) hn
        · exact List.mem_append.mpr (.inr q)
    intro p hp
    rcases List.mem_cons.mp hp with rfl | hp
    · exact N' _ (.head _)
    · rcases List.mem_cons.mp hp with rfl | hp
      · exact N' _ (.tail _ (.head _))
      · rcases List.mem_append.mp hp with q | q
        · exact N' p (.tail _ (.tail _ (.tail _ (.tail _ (key p (List.mem_append.mpr (.inl q)) (ha2 p q))))))
        · rcases List.mem_cons.mp q with rfl | q
          · exact N' _ (.tail _ (.tail _ (.head _)))
          · exact N' p (.tail _ (.tail _ (.tail _ (.tail _ (key p (List.mem_append.mpr (.inr (.tail _ q))) (hb2 p q))))))
end Mine
end

-- PlK
section
open PySem PySem.W PyProof.Rows PySem.Spec PySem.Calls PySem.Builtin PySem.Builtin.Str
namespace Mine
theorem str_ext {x y : PySem.Str} (h : x.cps.toList = y.cps.toList) : x = y := Str.ext' (Array.toList_inj.mp h)
theorem slice_to_min (x : PySem.Str) (j : Nat) : Txt.slice x none (some (j : Int)) = Txt.slice x none (some ((min j x.length : Nat) : Int)) := by
  have e : strSliceIndices none (some (j : Int)) 1 x.length = strSliceIndices none (some ((min j x.length : Nat) : Int)) 1 x.length := by
    unfold strSliceIndices
    have h1 : ¬ ((j : Int) < 0) := by omega
    have h2 : ¬ (((min j x.length : Nat) : Int) < 0) := by omega
    simp only [h1, h2, if_false, show (1 : Int) > 0 by decide, if_true]
    have h3 : max 0 (min (j : Int) (x.length : Int)) = max 0 (min ((min j x.length : Nat) : Int) (x.length : Int)) := by omega
    rw [h3]
  unfold Txt.slice
  rw [e]
theorem slice_from_min (x : PySem.Str) (j : Nat) : Txt.slice x (some (j : Int)) none = Txt.slice x (some ((min j x.length : Nat) : Int)) none := by
  have e : strSliceIndices (some (j : Int)) none 1 x.length = strSliceIndices (some ((min j x.length : Nat) : Int)) none 1 x.length := by
    unfold strSliceIndices
    have h1 : ¬ ((j : Int) < 0) := by omega
    have h2 : ¬ (((min j x.length : Nat) : Int) < 0) := by omega
    simp only [h1, h2, if_false, show (1 : Int) > 0 by decide, if_true]
    have h3 : max 0 (min (j : Int) (x.length : Int)) = max 0 (min ((min j x.length : Nat) : Int) (x.length : Int)) := by omega
    rw [h3]
  unfold Txt.slice
  rw [e]
theorem slice_take (x : PySem.Str) (j : Nat) : (Txt.slice x none (some (j : Int))).cps.toList = x.cps.toList.take j := by
  rw [slice_to_min]
  have h := slice_closes_to (x := x) (j := ((min j x.length : Nat) : Int)) ⟨by omega, by rw [len_toList]; omega⟩
  rw [eq_of_beq h]
  simp only [Int.toNat_zero, List.drop_zero, Int.sub_zero, Int.toNat_natCast]
  rw [← len_toList x]
  rcases Nat.le_total j x.cps.toList.length with q | q
  · rw [Nat.min_eq_left q]
  · rw [Nat.min_eq_right q, List.take_length, List.take_of_length_le q]
theorem slice_drop (x : PySem.Str) (j : Nat) : (Txt.slice x (some (j : Int)) none).cps.toList = x.cps.toList.drop j := by
  rw [slice_from_min]
  have h := slice_closes_from (x := x) (i := ((min j x.length : Nat) : Int)) ⟨by omega, by rw [len_toList]; omega⟩
  rw [eq_of_beq h]
  simp only [Int.toNat_natCast]
  rw [← len_toList x]
  rw [List.take_of_length_le (by rw [List.length_drop]; omega)]
  rcases Nat.le_total j x.cps.toList.length with q | q
  · rw [Nat.min_eq_left q]
  · rw [Nat.min_eq_right q, List.drop_length, List.drop_of_length_le q]
theorem find_part (O y : PySem.Str) (hy : y.length = 1) : (Txt.find O y = -1 ∧ (Txt.partition O y).2.1.length = 0) ∨
    ∃ i : Nat, Txt.find O y = (i : Int) ∧ (Txt.partition O y).1.cps.toList = O.cps.toList.take i ∧ (Txt.partition O y).1.length = i ∧ (Txt.partition O y).2.1.length = 1 := by
  unfold Txt.find Txt.partition
  rcases StrLaws.occ_head O y 1 (Nat.le_refl 1) with ⟨h0, hn⟩ | ⟨i, r, h0, hi, hn⟩
  · rw [h0]; exact .inl ⟨rfl, rfl⟩
  · rw [h0]
    have hb : i + y.length ≤ O.length := (StrLaws.occ_spec O y 0 O.length 1 i (by rw [h0]; exact List.mem_cons_self ..)).1
    have e : (strSub O 0 i).cps.toList = O.cps.toList.take i := by
      rw [StrLaws.strSub_toList, List.drop_zero, Nat.sub_zero]
    refine .inr ⟨i, rfl, e, ?_, hy⟩
    rw [← len_toList]
    show (strSub O 0 i).cps.toList.length = i
    rw [e, List.length_take, len_toList]
    omega
abbrev st9 : PySem.Str := PySem.Str.ofString "*"
theorem st9_len : st9.length = 1 := by decide +kernel
theorem empty_lit : (PySem.Str.ofString "").cps.toList = [] := by decide +kernel
theorem key_star {K O : PySem.Str} (h : ((Txt.partition O st9).2.1.length : Int) ≠ 0) :
    ((Txt.slice K none (some ((Txt.partition O st9).1.length : Int)) == (Txt.partition O st9).1) = true ∧ kmF K O = true ∧ kgF K O = Txt.slice K (some ((Txt.partition O st9).1.length : Int)) none ∧ (Txt.partition O st9).1 ++ Txt.slice K (some ((Txt.partition O st9).1.length : Int)) none = K ∧ (Txt.slice K (some ((Txt.partition O st9).1.length : Int)) none).length ≤ K.length) ∨
    ((Txt.slice K none (some ((Txt.partition O st9).1.length : Int)) == (Txt.partition O st9).1) = false ∧ kmF K O = false ∧ kgF K O = PySem.Str.ofString "") := by
  rcases find_part O st9 st9_len with ⟨h1, h2⟩ | ⟨i, h1, h2, h3, h4⟩
  · rw [h2] at h; exact absurd rfl h
  · rw [h3]
    generalize (Txt.partition O st9).1 = bg at h2 h3
    have hb : Txt.slice O none (some (i : Int)) = bg := str_ext (by rw [slice_take, h2])
    have hm : kmF K O = (Txt.slice K none (some (i : Int)) == bg) := by
      unfold kmF
      rw [h1, if_neg (by omega), hb]
      by_cases q : (K.length : Int) > (i : Int)
      · rw [if_pos q]
      · rw [if_neg q]
        have : Txt.slice K none (some (i : Int)) = K := str_ext (by rw [slice_take, List.take_of_length_le (by rw [len_toList]; omega)])
        rw [this]
    have hg : kgF K O = if (Txt.slice K none (some (i : Int)) == bg) = true then Txt.slice K (some (i : Int)) none else PySem.Str.ofString "" := by
      unfold kgF
      rw [h1, if_neg (by omega), hb]
      by_cases q : (K.length : Int) > (i : Int)
      · by_cases r : (Txt.slice K none (some (i : Int)) == bg) = true
        · rw [if_pos ⟨q, r⟩, if_pos r]
        · rw [if_neg (fun z => r z.2), if_neg r]
      · rw [if_neg (fun z => q z.1)]
        have : Txt.slice K (some (i : Int)) none = PySem.Str.ofString "" := str_ext (by rw [slice_drop, List.drop_of_length_le (by rw [len_toList]; omega), empty_lit])
        rw [this]
        split <;> rfl
    rw [hm, hg]
    cases hq : (Txt.slice K none (some (i : Int)) == bg) with
    | false => exact .inr ⟨rfl, rfl, rfl⟩
    | true =>
      refine .inl ⟨rfl, rfl, rfl, ?_, Txt.slice_le _ _ _⟩
      have e : Txt.slice K none (some (i : Int)) = bg := eq_of_beq hq
      refine str_ext ?_
      rw [cps_app, slice_drop, ← e, slice_take, List.take_append_drop]
theorem key_plain {K O : PySem.Str} (h : ((Txt.partition O st9).2.1.length : Int) = 0) :
    ((K == O) = true ∧ kmF K O = true ∧ kgF K O = PySem.Str.ofString "") ∨ ((K == O) = false ∧ kmF K O = false ∧ kgF K O = PySem.Str.ofString "") := by
  rcases find_part O st9 st9_len with ⟨h1, h2⟩ | ⟨i, h1, h2, h3, h4⟩
  · have hm : kmF K O = (K == O) := by unfold kmF; rw [if_pos h1]
    have hg : kgF K O = PySem.Str.ofString "" := by unfold kgF; rw [if_pos h1]
    rw [hm, hg]
    cases (K == O)
    · exact .inr ⟨rfl, rfl, rfl⟩
    · exact .inl ⟨rfl, rfl, rfl⟩
  · rw [h4] at h; exact absurd h (by decide)
end Mine
end

-- LaU
section
open PySem PySem.W PyProof.Rows PySem.Spec PySem.Calls
namespace Mine
section
variable {w : World} {mean : ExcName → Option Value} {mg mb : Str → Option Value} {dp un : Nat} {gd : Option (List Code)} {cn : Str} {cs : Scope} {a : Addr} {ccd : Value} {cl : List (Str × Addr)} {outer : List Env} {A₀ : Around} {base h₀ : Heap} {L : Addr} {m : Str → Option Value} {news : List (Addr × Obj)} {s : Shared}
  {Q E : Value → Shared → Prop} {P ah mk y : Str} {en : Int} {items : List Item} {d : Nat} {tx ti ty : Tok}
theorem sign_yes (C : SignCtx P ah mk en items) (hb : ((items.flatMap Item.signs).any (fun x => x == (⟨#[d]⟩ : Str)) == (mk == Str.ofString "")) = true) (B : Below A₀ base outer h₀) (F : Fr h₀ L s.heap m) (X : (hd.heap_39 w.params).In h₀) (N : News h₀ L s.heap news) (T : Top hd.view_39 (looseW hd.view_39 []) mean mg mb h₀) (hk : cs.kind = .function)
    (hdp : dp + 1 < recursionLimit) (hu : un + 8 * 1 < cLine) (ret : ∀ t h' tk', Fr h₀ L h' m → News h₀ L h' news → Q (.int en t) { s with heap := h', toks := tk' }) :
    wpAny (model PySem.Challenge.rw_fy0024_01.row.prog w) (ktrTop dp un gd cn cs L a ccd cl outer) (call (.ref 42) [.str P tx, .int (ah.length : Int) ti, .str ⟨#[d]⟩ ty]) Q E s := by
  have h1 := C.len
  have h2 := C.alen
  refine tells_use (t_range_match w mean mg mb P ⟨#[d]⟩ (ah.length : Int) tx ty ti (by omega) rfl (by omega) (by omega)) B F X N T hk hdp hu ?_
  rintro r h' tk' F' N' ⟨t, rfl⟩
  rw [C.law d, if_pos hb]
  exact ret t h' tk' F' N'
theorem sign_no (C : SignCtx P ah mk en items) (hb : ((items.flatMap Item.signs).any (fun x => x == (⟨#[d]⟩ : Str)) == (mk == Str.ofString "")) = false) (B : Below A₀ base outer h₀) (F : Fr h₀ L s.heap m) (X : (hd.heap_39 w.params).In h₀) (N : News h₀ L s.heap news) (T : Top hd.view_39 (looseW hd.view_39 []) mean mg mb h₀) (hk : cs.kind = .function)
    (hdp : dp + 1 < recursionLimit) (hu : un + 8 * 1 < cLine) (ret : ∀ t h' tk', Fr h₀ L h' m → News h₀ L h' news → Q (.int (-1) t) { s with heap := h', toks := tk' }) :
    wpAny (model PySem.Challenge.rw_fy0024_01.row.prog w) (ktrTop dp un gd cn cs L a ccd cl outer) (call (.ref 42) [.str P tx, .int (ah.length : Int) ti, .str ⟨#[d]⟩ ty]) Q E s := by
  have h1 := C.len
  have h2 := C.alen
  refine tells_use (t_range_match w mean mg mb P ⟨#[d]⟩ (ah.length : Int) tx ty ti (by omega) rfl (by omega) (by omega)) B F X N T hk hdp hu ?_
  rintro r h' tk' F' N' ⟨t, rfl⟩
  rw [C.law d, if_neg (by rw [hb]; decide)]
  exact ret t h' tk' F' N'
theorem sign_end (C : SignCtx P ah mk en items) (hy : y.length = 1) (B : Below A₀ base outer h₀) (F : Fr h₀ L s.heap m) (X : (hd.heap_39 w.params).In h₀) (N : News h₀ L s.heap news) (T : Top hd.view_39 (looseW hd.view_39 []) mean mg mb h₀) (hk : cs.kind = .function)
    (hdp : dp + 1 < recursionLimit) (hu : un + 8 * 1 < cLine) (ret : ∀ t h' tk', Fr h₀ L h' m → News h₀ L h' news → Q (.int (-1) t) { s with heap := h', toks := tk' }) :
    wpAny (model PySem.Challenge.rw_fy0024_01.row.prog w) (ktrTop dp un gd cn cs L a ccd cl outer) (call (.ref 42) [.str P tx, .int (P.length : Int) ti, .str y ty]) Q E s := by
  have h1 := C.len
  refine tells_use (t_range_match w mean mg mb P y (P.length : Int) tx ty ti (by omega) hy (by omega) (by omega)) B F X N T hk hdp hu ?_
  rintro r h' tk' F' N' ⟨t, rfl⟩
  rw [rm_end]
  exact ret t h' tk' F' N'
end
def KeyOk (n : Nat) (ys : List Value) : Prop := ∃ ws9 : List Str, StrsAre ys ws9 ∧ ws9.length = n ∧ ∀ a ∈ ws9, a.length = 1
theorem KeyOk.nil : KeyOk 0 [] := ⟨[], .nil, rfl, fun _ h => nomatch h⟩
theorem KeyOk.snoc {n : Nat} {ys : List Value} {x : Str} {t : Tok} (h : KeyOk n ys) (hx : x.length = 1) : KeyOk (n + 1) (ys ++ [.str x t]) := by
  obtain ⟨ws9, h1, h2, h3⟩ := h
  refine ⟨ws9 ++ [x], h1.append' (.cons _ _ .nil), by rw [List.length_append, h2]; rfl, ?_⟩
  intro a ha
  rcases List.mem_append.mp ha with q | q
  · exact h3 a q
  · rw [List.mem_singleton.mp q]; exact hx
theorem key_join {prog : Program} {w : World} {A : Around} {E : Value → Shared → Prop} {s : Shared} {D : Addr} {ys : List Value} {n : Nat} {t : Tok} {Q : Value → Shared → Prop} (hl : s.heap.IsList D ys.toArray) (hK : KeyOk n ys) (hn : n ≤ 5)
    (h : ∀ (K : Str) t' k, K.length ≤ 5 → Q (.str K t') { s with toks := k }) : wpAny (model prog w) A (call (.builtin "str.join") [.str (PySem.Str.ofString "") t, .ref D]) Q E s := by
  obtain ⟨ws9, h1, h2, h3⟩ := hK
  refine KT.join_1 (g := fun a : Str => a) (l := ws9) hl h1.carried h3 (by omega) ?_
  intro t' k e
  refine h _ t' k ?_
  rw [e, h2]
  exact hn
structure NeF (a b : Nat) : Prop where
  out : a ≠ b
structure Hidd (P : Prop) : Prop where
  out : P
def CutS (h₀ h : Heap) (L ca : Addr) : Prop :=
  ∃ (P ah mk : Str) (en : Int) (items : List Item) (tp te ta tm : Tok) (mo : Str → Option Value) (sg : Addr) (svs : List Value) (e2 : Nat) (st sl : Addr) (i0 : Int) (t0 : Tok) (vs : List Value) (ns : List Int) (e1 : Nat) (oc : Obj), SignCtx P ah mk en items ∧
    Fr h₀ L h (kstB mo [(Str.ofString "pattern", .str P tp), (Str.ofString "end", .int en te), (Str.ofString "ahead", .str ah ta), (Str.ofString "mark", .str mk tm), (Str.ofString "signs", .ref sg)]) ∧
    oc.data = .cell (some (.ref st)) ∧ News h₀ L h [(sg, listOf svs.toArray e2), (st, stO sl i0 t0), (sl, listOf vs.toArray e1), (ca, oc)] ∧ StrsAre svs (items.flatMap Item.signs) ∧ IntsAre vs ns ∧ ns.length ≤ 60 ∧
    NeF sg st ∧ NeF sl st ∧ NeF ca st ∧ 0 ≤ i0 ∧ i0 ≤ 40 ∧ svs.length ≤ 120
section
variable {h₀ h : Heap} {L sg ca st sl : Addr} {m : Str → Option Value} {ah mk bh text : Str} {items : List Item} {tp te ta tm t0 : Tok} {svs vs : List Value} {ns : List Int} {e1 e2 : Nat} {i0 : Int} {oc : Obj} {news : List (Addr × Obj)}
theorem four_of (N : News h₀ L h news) {p1 p2 p3 p4 : Addr × Obj} (m1 : p1 ∈ news) (m2 : p2 ∈ news) (m3 : p3 ∈ news) (m4 : p4 ∈ news) : News h₀ L h [p1, p2, p3, p4] := by
  intro p hp
  simp only [List.mem_cons, List.not_mem_nil, or_false] at hp
  rcases hp with rfl | rfl | rfl | rfl
  · exact N _ m1
  · exact N _ m2
  · exact N _ m3
  · exact N _ m4
theorem cut_closed (F : Fr h₀ L h m) (hp : m (Str.ofString "pattern") = some (.str (ah ++ mk ++ text ++ Str.ofString "]" ++ bh) tp)) (he : m (Str.ofString "end") = some (.int (((ah ++ mk ++ text ++ Str.ofString "]" ++ bh).length : Int) - (bh.length : Int)) te))
    (ha : m (Str.ofString "ahead") = some (.str ah ta)) (hm : m (Str.ofString "mark") = some (.str mk tm)) (hs : m (Str.ofString "signs") = some (.ref sg))
    (hah : ah.length ≤ 4) (hmk : mk ∈ [Str.ofString "", Str.ofString "!", Str.ofString "^"]) (hbh : bh.length ≤ 4) (ht : text.length ≤ 24) (q1 : ∀ x ∈ items, x.Ok) (q2 : text.cps.toList = items.flatMap Item.render)
    (N : News h₀ L h news) (hoc : oc.data = .cell (some (.ref st))) (m1 : (sg, listOf svs.toArray e2) ∈ news) (m2 : (st, stO sl i0 t0) ∈ news) (m3 : (sl, listOf vs.toArray e1) ∈ news) (m4 : (ca, oc) ∈ news) (hsv : StrsAre svs (items.flatMap Item.signs)) (hsl : svs.length ≤ 120) (hI : IntsAre vs ns) (hns : ns.length ≤ 60)
    (d1 : @Ne Nat sg st) (d2 : @Ne Nat sl st) (d3 : @Ne Nat ca st) (b1 : 0 ≤ i0) (b2 : i0 ≤ 40) : CutS h₀ h L ca := by
  obtain ⟨P, en, tp, te, ta, tm, mo, hS, hF⟩ := abs_closed F hp he ha hm hs hah hmk hbh ht q1 q2
  exact ⟨P, ah, mk, en, items, tp, te, ta, tm, mo, sg, svs, e2, st, sl, i0, t0, vs, ns, e1, oc, hS, hF, hoc, four_of N m1 m2 m3 m4, hsv, hI, hns, ⟨d1⟩, ⟨d2⟩, ⟨d3⟩, b1, b2, hsl⟩
theorem cut_open (F : Fr h₀ L h m) (hp : m (Str.ofString "pattern") = some (.str (ah ++ mk ++ text ++ Str.ofString "" ++ Str.ofString "") tp)) (he : m (Str.ofString "end") = some (.int (((ah ++ mk ++ text ++ Str.ofString "" ++ Str.ofString "").length : Int) - ((Str.ofString "").length : Int)) te))
    (ha : m (Str.ofString "ahead") = some (.str ah ta)) (hm : m (Str.ofString "mark") = some (.str mk tm)) (hs : m (Str.ofString "signs") = some (.ref sg))
    (hah : ah.length ≤ 4) (hmk : mk ∈ [Str.ofString "", Str.ofString "!", Str.ofString "^"]) (ht : text.length ≤ 24) (q1 : ∀ x ∈ items, x.Ok) (q2 : text.cps.toList = items.flatMap Item.render)
    (N : News h₀ L h news) (hoc : oc.data = .cell (some (.ref st))) (m1 : (sg, listOf svs.toArray e2) ∈ news) (m2 : (st, stO sl i0 t0) ∈ news) (m3 : (sl, listOf vs.toArray e1) ∈ news) (m4 : (ca, oc) ∈ news) (hsv : StrsAre svs (items.flatMap Item.signs)) (hsl : svs.length ≤ 120) (hI : IntsAre vs ns) (hns : ns.length ≤ 60)
    (d1 : @Ne Nat sg st) (d2 : @Ne Nat sl st) (d3 : @Ne Nat ca st) (b1 : 0 ≤ i0) (b2 : i0 ≤ 40) : CutS h₀ h L ca := by
  obtain ⟨P, en, tp, te, ta, tm, mo, hS, hF⟩ := abs_open F hp he ha hm hs hah hmk ht q1 q2
  exact ⟨P, ah, mk, en, items, tp, te, ta, tm, mo, sg, svs, e2, st, sl, i0, t0, vs, ns, e1, oc, hS, hF, hoc, four_of N m1 m2 m3 m4, hsv, hI, hns, ⟨d1⟩, ⟨d2⟩, ⟨d3⟩, b1, b2, hsl⟩
end
section
variable {w : World} {mean : ExcName → Option Value} {mg mb : Str → Option Value} {dp un : Nat} {gd : Option (List Code)} {cn : Str} {cs : Scope} {a : Addr} {ccd : Value} {cl : List (Str × Addr)} {outer : List Env} {A₀ : Around} {base h₀ : Heap} {L : Addr} {m : Str → Option Value} {news : List (Addr × Obj)} {s : Shared}
  {Q E : Value → Shared → Prop} {K O r : Str} {b : Bool} {tx ty : Tok}
theorem use21 (hv : kmF K O = b) (hK : K.length ≤ 1000) (hO : O.length ≤ 1000) (B : Below A₀ base outer h₀) (F : Fr h₀ L s.heap m) (X : (hd.heap_39 w.params).In h₀) (N : News h₀ L s.heap news) (T : Top hd.view_39 (looseW hd.view_39 []) mean mg mb h₀) (hk : cs.kind = .function)
    (hdp : dp + 1 < recursionLimit) (hu : un + 8 * 1 < cLine) (ret : ∀ (_ : Tok) h' tk', Fr h₀ L h' m → News h₀ L h' news → Q (.bool b) { s with heap := h', toks := tk' }) :
    wpAny (model PySem.Challenge.rw_fy0024_01.row.prog w) (ktrTop dp un gd cn cs L a ccd cl outer) (call (.ref 21) [.str K tx, .str O ty]) Q E s := by
  refine tells_use (t_key_match w mean mg mb K O tx ty hK hO) B F X N T hk hdp hu ?_
  rintro r h' tk' F' N' rfl
  rw [hv]
  exact ret 0 h' tk' F' N'
theorem use28 (hv : kmF K O = b) (hK : K.length ≤ 1000) (hO : O.length ≤ 1000) (B : Below A₀ base outer h₀) (F : Fr h₀ L s.heap m) (X : (hd.heap_39 w.params).In h₀) (N : News h₀ L s.heap news) (T : Top hd.view_39 (looseW hd.view_39 []) mean mg mb h₀) (hk : cs.kind = .function)
    (hdp : dp + 2 < recursionLimit) (hu : un + 8 * 2 < cLine) (ret : ∀ (_ : Tok) h' tk', Fr h₀ L h' m → News h₀ L h' news → Q (.bool b) { s with heap := h', toks := tk' }) :
    wpAny (model PySem.Challenge.rw_fy0024_01.row.prog w) (ktrTop dp un gd cn cs L a ccd cl outer) (call (.ref 28) [.str K tx, .str O ty]) Q E s := by
  refine tells_use (t_key_match_func w mean mg mb K O tx ty hK hO) B F X N T hk hdp hu ?_
  rintro r h' tk' F' N' rfl
  rw [hv]
  exact ret 0 h' tk' F' N'
theorem use35 (hv : kgF K O = r) (hK : K.length ≤ 1000) (hO : O.length ≤ 1000) (B : Below A₀ base outer h₀) (F : Fr h₀ L s.heap m) (X : (hd.heap_39 w.params).In h₀) (N : News h₀ L s.heap news) (T : Top hd.view_39 (looseW hd.view_39 []) mean mg mb h₀) (hk : cs.kind = .function)
    (hdp : dp + 1 < recursionLimit) (hu : un + 8 * 1 < cLine) (ret : ∀ t h' tk', Fr h₀ L h' m → News h₀ L h' news → Q (.str r t) { s with heap := h', toks := tk' }) :
    wpAny (model PySem.Challenge.rw_fy0024_01.row.prog w) (ktrTop dp un gd cn cs L a ccd cl outer) (call (.ref 35) [.str K tx, .str O ty]) Q E s := by
  refine tells_use (t_key_get w mean mg mb K O tx ty hK hO) B F X N T hk hdp hu ?_
  rintro r' h' tk' F' N' ⟨t, rfl⟩
  rw [hv]
  exact ret t h' tk' F' N'
end
theorem ol9 {K x : Str} {j : Option Int} (hK : K.length ≤ 5) (hx : x.length ≤ 4) : (Txt.slice K none j ++ x).length ≤ 1000 := by
  have := Txt.slice_le K none j
  rw [Str.length_append]
  omega
theorem ne_same {prog : Program} {w : World} {A : Around} {E : Value → Shared → Prop} {s : Shared} {x y : Str} {t u : Tok} {Q : Value → Shared → Prop} (e : x = y) (h : Q (.bool false) s) : wpAny (model prog w) A (compareOp .NotEq (.str x t) (.str y u)) Q E s := by
  subst e
  refine ne_str ?_
  have : (x != x) = false := by simp
  rw [this]
  exact h
end Mine
end

-- the law
open Mine
local macro_rules | `(tactic| walk_at "eval ListComp") => `(tactic| (k_here; k_dflt (refine LCg.ListComp_U (F₀ := by k_asm) (by with_unfolding_all rfl) (by decide) (by rfl) (by decide) (by rfl) ?_)))
local macro_rules | `(tactic| walk_at "CompSrc") => `(tactic| refine stop_ ?_)
local macro_rules | `(tactic| walk_at "pyIter ref") => `(tactic| refine stop_ ?_)
local macro_rules | `(tactic| walk_at "pyIter str") => `(tactic| refine stop_ ?_)
local macro_rules | `(tactic| walk_at "RngPost") => `(tactic| (dsimp only [RngPost]))
local macro_rules | `(tactic| walk_at "RngEnd") => `(tactic| refine stop_ ?_)
local macro_rules | `(tactic| walk_at "CompEnd") => `(tactic| refine stop_ ?_)
local macro_rules | `(tactic| walk_at "exec For Name Call cons nil") => `(tactic| (k_here; (rename Fr _ _ _ _ => lF'); (with_unfolding_all refine For_invVF lF' (by exact rfl) (by exact rfl) ?_)))
local macro_rules | `(tactic| walk_at "exec For Name BinOp cons nil") => `(tactic| (k_here; (rename Fr _ _ _ _ => lF'); (with_unfolding_all refine For_invVF lF' (by exact rfl) (by exact rfl) ?_)))
local macro_rules | `(tactic| walk_at "call type:range") => `(tactic| (k_here; (rename Fr _ _ _ _ => F'); (rename News _ _ _ _ => N'); first | (with_unfolding_all refine range1_rows F' N' ?_; intro _ _ _ _ _ _ _ _ _) | (with_unfolding_all refine range2_rows F' N' ?_; intro _ _ _ _ _ _ _ _ _)))
local macro_rules | `(tactic| walk_at "inplaceOp Add str str") => `(tactic| (k_here; (refine SBL.iadd (hsz := (by simp only [PySem.Str.length_append, len_item, PySem.sizeLine_eq]; (try kopn_lits); (try kopn_tabs); omega)) ?_); intro _ _ _; (try dsimp only)))
local macro_rules | `(tactic| walk_at "binaryOp Add str str") => `(tactic| (k_here; (refine SBL.add (hsz := (by simp only [PySem.Str.length_append, len_item, PySem.sizeLine_eq]; (try kopn_lits); (try kopn_tabs); omega)) ?_); intro _ _ _; (try dsimp only)))
local macro_rules | `(tactic| walk_at "subscriptTail") => `(tactic| (k_here; (with_reducible show wpAny _ _ (subscriptTail _ _ (Value.ref _) (Value.int _ _)) _ _ _); ktb_letter; k_dflt (refine item_menu (News.isTup (by k_asm) (by k_mem)) (by repeat constructor) (by omega) (by (try simp only [List.length_cons, List.length_nil]); omega) (by omega) (by decide +kernel) ?_); intro x' t' hm' hl'))
local macro_rules | `(tactic| walk_at "subscriptTail Constant Call str int") => `(tactic| (k_here; (refine item_str (fitsSsize_of (N := 9223372036854775808) (by omega) (by omega) (Int.le_refl _)) (by (try kopn_lits); omega) (by (try kopn_lits); omega) ?_); intro _; (try dsimp only)))
local macro_rules | `(tactic| walk_at "call builtin:len") => `(tactic| (k_here; (with_reducible show wpAny _ _ (call (Value.builtin "len") [Value.str _ _]) _ _ _); (refine P.len_str (by (try simp only [PySem.Str.length_append, len_item]); (try kopn_lits); (try kopn_tabs); omega) ?_); (try dsimp only)))
local macro_rules | `(tactic| walk_at "call ref") => `(tactic| (k_here; k_dflt (refine class_use (t_law_class _ _ _ _) (by k_asm) (by k_asm) (by k_asm) (by k_asm) (by k_asm) (by first | exact rfl | assumption) (by ktr_room) (by ktr_units) (by intro i' t'; k_upd) (by k_mem) (by assumption) (by omega) (by omega) (by omega) ?_); intro D' sg' items' text' tt' svs' e2' i' t' h' tk' c1' c2' c3' c4' c5' c6' c7' c8' c9' F' N'; (try dsimp only)))
local macro_rules | `(tactic| walk_at "call ref") => `(tactic| (k_here; k_dflt (refine next_use (t_law_next _ _ _ _) (by k_asm) (by k_asm) (by k_asm) (by k_asm) (by k_asm) (by first | exact rfl | assumption) (by ktr_room) (by ktr_units) (by intro t'; k_upd) (by k_mem) (by assumption) (by omega) (by omega) (by omega) (by omega) (by omega) ?_); intro v' t' u' h' tk' hv0' hv1' F' N'; (try dsimp only)))
local macro_rules | `(tactic| walk_at "call ref") => `(tactic| (k_here; k_dflt (first | refine sign_yes (by assumption) (by assumption) (by k_asm) (by k_asm) (by k_asm) (by k_asm) (by k_asm) (by first | exact rfl | assumption) (by ktr_room) (by ktr_units) ?_ | refine sign_no (by assumption) (by assumption) (by k_asm) (by k_asm) (by k_asm) (by k_asm) (by k_asm) (by first | exact rfl | assumption) (by ktr_room) (by ktr_units) ?_ | refine sign_end (by assumption) (by decide +kernel) (by k_asm) (by k_asm) (by k_asm) (by k_asm) (by k_asm) (by first | exact rfl | assumption) (by ktr_room) (by ktr_units) ?_); intro t' h' tk' F' N'; (try dsimp only)))
local macro_rules | `(tactic| walk_at "call builtin:str.join") => `(tactic| (k_here; k_dflt (refine key_join (by kmk_list) (by assumption) (by omega) ?_); intro K' t' k' hK'; (try dsimp only)))
local macro_rules | `(tactic| k_ne) => `(tactic| ((try dsimp only); first | exact NeF.out (by assumption) | exact Ne.symm (NeF.out (by assumption))))
local macro_rules | `(tactic| walk_at "call ref") => `(tactic| (k_here; (with_reducible show wpAny _ _ (call (Value.ref 21) _) _ _ _); refine stop_ ?_))
local macro_rules | `(tactic| walk_at "call ref") => `(tactic| (k_here; (with_reducible show wpAny _ _ (call (Value.ref 21) _) _ _ _); k_dflt (refine use21 (by assumption) (by omega) (ol9 (by assumption) (by assumption)) (by k_asm) (by k_asm) (by k_asm) (by k_asm) (by k_asm) (by first | exact rfl | assumption) (by ktr_room) (by ktr_units) ?_); intro t' h' tk' F' N'; (try dsimp only)))
local macro_rules | `(tactic| walk_at "call ref") => `(tactic| (k_here; (with_reducible show wpAny _ _ (call (Value.ref 28) _) _ _ _); k_dflt (refine use28 (by assumption) (by omega) (ol9 (by assumption) (by assumption)) (by k_asm) (by k_asm) (by k_asm) (by k_asm) (by k_asm) (by first | exact rfl | assumption) (by ktr_room) (by ktr_units) ?_); intro t' h' tk' F' N'; (try dsimp only)))
local macro_rules | `(tactic| walk_at "call ref") => `(tactic| (k_here; (with_reducible show wpAny _ _ (call (Value.ref 35) _) _ _ _); k_dflt (refine use35 (by assumption) (by omega) (ol9 (by assumption) (by assumption)) (by k_asm) (by k_asm) (by k_asm) (by k_asm) (by k_asm) (by first | exact rfl | assumption) (by ktr_room) (by ktr_units) ?_); intro t' h' tk' F' N'; (try dsimp only)))
local macro_rules | `(tactic| walk_at "compareOp NotEq str str") => `(tactic| (k_here; refine ne_same (by first | rfl | assumption) ?_))
set_option maxHeartbeats 100000000 in
theorem PySem.Challenge.cw_fy0024_01_holds : PySem.Challenge.rw_fy0024_01.Holds := by
  refine Mine.hd ?_
  k_go0
  all_goals try k_fold
  k_steps
  all_goals (
    unfold Stop
    rename Fr _ _ _ _ => lF
    rename News _ _ _ _ => lN
    first
      | (have hC := cut_closed lF (by with_unfolding_all rfl) (by with_unfolding_all rfl) (by with_unfolding_all rfl) (by with_unfolding_all rfl) (by with_unfolding_all rfl) (by assumption) (by assumption) (by assumption) (by assumption) (by assumption) (by assumption) lN (by assumption) (by k_mem) (by k_mem) (by k_mem) (by k_mem) (by assumption) (by assumption) (by assumption) (by omega) (by first | assumption | omega) (by omega) (by omega) (by omega) (by omega))
      | (have hC := cut_open lF (by with_unfolding_all rfl) (by with_unfolding_all rfl) (by with_unfolding_all rfl) (by with_unfolding_all rfl) (by with_unfolding_all rfl) (by assumption) (by assumption) (by assumption) (by assumption) (by assumption) lN (by assumption) (by k_mem) (by k_mem) (by k_mem) (by k_mem) (by assumption) (by assumption) (by assumption) (by omega) (by first | assumption | omega) (by omega) (by omega) (by omega) (by omega))
    obtain ⟨P, ah, mk, en, items, tp, te, ta, tm, mo, sg, svs, e2, st, sl, i0, t0, vs, ns, e1, oc, hS, lF2, hoc, lN2, hsv, hI, hns, d1, d2, d3, b1, b2, b3⟩ := hC
    clear lF lN
    repeat (rename PySem.Str.length _ + PySem.Str.length _ ≤ _ ∧ _ => x9; clear x9)
    have hP1 := hS.len
    have hP2 := hS.alen
    dsimp only [kstB] at lF2
    with_unfolding_all refine iter_txt (σ := Unit) (fun _ => _) (fun _ => []) ["due"] (fun _ _ => True) () (by decide +kernel) (by exact rfl) lF2 lN2 (fun _ h => nomatch h) trivial ?_ ?_
    · clear lF2 lN2
      rintro j d tj I ⟨⟩ u h tk o hj - hoffI F1 N1
      dsimp only [envOfC] at N1
      dsimp only [kstB, envOfC] at F1
      try k_fold
      k_steps
      all_goals (
        unfold Stop
        rename News _ _ _ _ => nE
        exact rng_end () (by assumption) nE (by k_mem) (by intro p hp; repeat (first | assumption | refine List.mem_cons_of_mem _ ?_)) hoffI (fun _ h => nomatch h) (by intro z hx hq hs; simp only [List.forall_mem_cons, List.not_mem_nil, false_implies, implies_true, and_true, ne_eq] at hq; simp only [List.contains_cons, List.contains_nil, Bool.or_false, Bool.or_eq_false_iff, beq_eq_false_iff_ne, ne_eq] at hs; simp [hx, hq, hs]) trivial)
    · clear lF2 lN2
      rintro ⟨⟩ u h tk - F1 N1
      dsimp only [envOfC] at N1
      dsimp only [kstB, envOfC] at F1
      obtain ⟨mo2, F2⟩ := fr_pick [(Str.ofString "pattern", .str P tp)] F1 (by kst_all)
      clear F1
      dsimp only [kstB] at F2
      try k_fold
      k_steps
      unfold Stop
      rename IsRange _ _ _ _ _ _ _ _ => lR
      rename Fr _ _ _ _ => lF
      rename News _ _ _ _ => lN
      rename Int => nv
      k_dflt (refine LCg.CompSrc.range (by rfl) lF lN lR (small_one (by omega) (by omega) (by omega) (by omega)) (rangeSize_nat _ _) (by rw [PySem.sizeLine_eq]; omega) ?_)
      intro g9
      clear lF lN lR
      refine comp_inv (σ := Int × Tok) (fun c => [(sg, PySem.W.listOf svs.toArray e2), (st, stO sl c.1 c.2), (sl, PySem.W.listOf vs.toArray e1), (_, oc)]) (fun i ys c => KeyOk i ys ∧ 0 ≤ c.1 ∧ c.1 ≤ i0 + 1 + i) (_, _) ⟨.nil, by dsimp only; omega, by dsimp only; omega⟩ ?_ ?_
      · rintro i2 v2 ys2 ⟨c1, c2⟩ I2 oI2 C2 oC2 D2 m2 h2 tk2 E2 hi2 ⟨t2, rfl⟩ ⟨hJ2, hJ3, hJ4⟩ hC2 hx2 F2 N2 off2 ne2
        dsimp only at hJ3 hJ4 N2 off2
        have o1 : NeF I2 st := ⟨(Ne.symm off2.2.1.1)⟩
        have o2 : NeF C2 st := ⟨(Ne.symm off2.2.1.2.1)⟩
        have o3 : NeF D2 st := ⟨(Ne.symm off2.2.1.2.2)⟩
        have off9 := Hidd.mk off2
        clear off2 ne2
        k_steps
        unfold Stop
        rename Fr _ _ _ _ => F3
        rename News _ _ _ _ => N3
        exact LCg.CompEnd.intro F3 N3 [(sg, PySem.W.listOf svs.toArray e2), (st, stO sl (c1 + 1) _), (sl, PySem.W.listOf vs.toArray e1), (_, oc)] (fun p hp => hp) off9.out trivial ⟨(c1 + 1, _), rfl, hJ2.snoc rfl, by dsimp only; omega, by dsimp only; omega⟩
      · rintro ys2 ⟨c1, c2⟩ ⟨hJ2, hJ3, hJ4⟩
        intro D2 h2 tk2 F2 N2 off2
        dsimp only at hJ3 hJ4 N2
        have o4 : NeF D2 st := ⟨Ne.symm off2.2.1⟩
        clear off2
        try k_fold
        k_steps
        unfold Stop
        rename IsRange _ _ _ _ _ _ _ _ => lR
        rename Fr _ _ _ _ => lF
        rename News _ _ _ _ => lN
        rename Int => nv2
        rename Str => K
        obtain ⟨mo3, lF3⟩ := fr_pick [(Str.ofString "key", .str K _)] lF (by kst_all)
        clear lF
        dsimp only [kstB] at lF3
        with_unfolding_all refine iter_rng (σ := Int × Tok) (n := (1 + nv2).toNat) (fun c => [(sg, PySem.W.listOf svs.toArray e2), (st, stO sl c.1 c.2), (sl, PySem.W.listOf vs.toArray e1), (_, oc)]) (fun c => []) ["other", "beginning", "star", "rest", "fits"] (fun j c => 0 ≤ c.1 ∧ c.1 ≤ 60 + 2 * (j : Int)) (_, _) (by exact rfl) lR (small_one (by omega) (by omega) (by omega) (by omega)) (by rw [rangeSize_one]; (split <;> omega)) lF3 (cb_drop lN (fun p hp => List.mem_cons_of_mem _ hp)) (fun _ h => nomatch h) ⟨by dsimp only; omega, by dsimp only; omega⟩ ?_ ?_
        · clear lF3 lN lR
          rintro j tj I ⟨c1, c2⟩ u h tk o hj ⟨p1, p2⟩ hoffI F1 N1
          dsimp only at p1 p2 hoffI
          dsimp only [envOfC] at N1
          dsimp only [kstB, envOfC] at F1
          have o5 : NeF I st := ⟨Ne.symm (hoffI _ (.tail _ (.head _)))⟩
          try k_fold
          k_steps
          · unfold Stop
            rename Fr _ _ _ _ => lF
            rename ((Txt.partition _ _).2.1.length : Int) ≠ 0 => hne
            rcases key_star (K := K) hne with ⟨f1, f2, f3, f4, f5⟩ | ⟨f1, f2, f3⟩
            all_goals (
              rw [f1] at lF
              clear f1
              k_steps
              all_goals (
                unfold Stop
                rename News _ _ _ _ => nE
                exact rng_end (c1 + 1 + 1, _) (by assumption) nE (by k_mem) (List.forall_mem_cons.mpr ⟨by k_mem, List.forall_mem_cons.mpr ⟨by k_mem, List.forall_mem_cons.mpr ⟨by k_mem, List.forall_mem_cons.mpr ⟨by k_mem, List.forall_mem_nil _⟩⟩⟩⟩) (List.forall_mem_cons.mpr ⟨hoffI (sg, PySem.W.listOf svs.toArray e2) (.head _), List.forall_mem_cons.mpr ⟨hoffI (st, stO sl c1 c2) (.tail _ (.head _)), List.forall_mem_cons.mpr ⟨hoffI (sl, PySem.W.listOf vs.toArray e1) (.tail _ (.tail _ (.head _))), List.forall_mem_cons.mpr ⟨hoffI (_, oc) (.tail _ (.tail _ (.tail _ (.head _)))), List.forall_mem_nil _⟩⟩⟩⟩) (fun _ h => nomatch h) (by intro z hx hq hs; simp only [List.forall_mem_cons, List.not_mem_nil, false_implies, implies_true, and_true, ne_eq] at hq; simp only [List.contains_cons, List.contains_nil, Bool.or_false, Bool.or_eq_false_iff, beq_eq_false_iff_ne, ne_eq] at hs; simp [hx, hq, hs]) ⟨by dsimp only; omega, by dsimp only; omega⟩))
          · unfold Stop
            rename Fr _ _ _ _ => lF
            rename ((Txt.partition _ _).2.1.length : Int) = 0 => hne
            rcases key_plain (K := K) hne with ⟨f1, f2, f3⟩ | ⟨f1, f2, f3⟩
            all_goals (
              rw [f1] at lF
              clear f1
              k_steps
              all_goals (
                unfold Stop
                rename News _ _ _ _ => nE
                exact rng_end (c1 + 1 + 1, _) (by assumption) nE (by k_mem) (List.forall_mem_cons.mpr ⟨by k_mem, List.forall_mem_cons.mpr ⟨by k_mem, List.forall_mem_cons.mpr ⟨by k_mem, List.forall_mem_cons.mpr ⟨by k_mem, List.forall_mem_nil _⟩⟩⟩⟩) (List.forall_mem_cons.mpr ⟨hoffI (sg, PySem.W.listOf svs.toArray e2) (.head _), List.forall_mem_cons.mpr ⟨hoffI (st, stO sl c1 c2) (.tail _ (.head _)), List.forall_mem_cons.mpr ⟨hoffI (sl, PySem.W.listOf vs.toArray e1) (.tail _ (.tail _ (.head _))), List.forall_mem_cons.mpr ⟨hoffI (_, oc) (.tail _ (.tail _ (.tail _ (.head _)))), List.forall_mem_nil _⟩⟩⟩⟩) (fun _ h => nomatch h) (by intro z hx hq hs; simp only [List.forall_mem_cons, List.not_mem_nil, false_implies, implies_true, and_true, ne_eq] at hq; simp only [List.contains_cons, List.contains_nil, Bool.or_false, Bool.or_eq_false_iff, beq_eq_false_iff_ne, ne_eq] at hs; simp [hx, hq, hs]) ⟨by dsimp only; omega, by dsimp only; omega⟩))
        · clear lF3 lN lR
          rintro ⟨c1, c2⟩ u h tk ⟨p1, p2⟩ F1 N1
          dsimp only [envOfC] at N1
          dsimp only [kstB, envOfC] at F1
          try k_fold
          k_steps)
