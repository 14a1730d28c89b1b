import PyProof.Rows.All
import Wide.All
import OpenK.AllK
import Wide.FinOn
import Lean
import PySem.Challenge.RW_nb0300_01
set_option Elab.async false
set_option maxRecDepth 100000
set_option maxHeartbeats 0
section
open PySem PySem.W PyProof.Rows
namespace Mine
noncomputable def two (n : Nat) : Nat := n + n
theorem two_a (_ : OpenRow.Holds { PySem.Challenge.rw_nb0300_01.row with writes := !PySem.Challenge.rw_nb0300_01.row.writes }) : two 1 = 2 := rfl
theorem two_b : two 1 = 2 := rfl
theorem hd : two 1 = 2 := by
  simp (disch := (w_on; k_head)) only [↓two_a, two_b]
end Mine
end
set_option Elab.async false
set_option maxRecDepth 100000
set_option maxHeartbeats 0
section

namespace Mine
theorem n_le {a b c : Nat} (h : a ≤ b) (k : Nat.ble b c = true) : a ≤ c := Nat.le_trans h (Nat.le_of_ble_eq_true k)
theorem n_sub {i n : Nat} (h : i < n) : n - (i + 1) < n - i := Nat.sub_lt_sub_left h (Nat.lt_succ_self i)
theorem n_end {i n : Nat} (h : i ≤ n) (k : ¬ i < n) : i = n := Nat.le_antisymm h (Nat.le_of_not_lt k)
theorem n_all {i n : Nat} (h : i ≤ n) (k : n - i = 0) : i = n := Nat.le_antisymm h (Nat.le_of_sub_eq_zero k)
theorem n_succ {i n : Nat} (h : i < n) : n - i = n - (i + 1) + 1 := (Nat.sub_add_cancel (Nat.sub_pos_of_lt h)).symm
theorem n_back {i n : Nat} (h : i < n) : n - (n - i - 1 + 1) = i := by rw [Nat.sub_add_cancel (Nat.sub_pos_of_lt h), Nat.sub_sub_self (Nat.le_of_lt h)]
theorem n_pred {i n k : Nat} (h : n - i = k + 1) : n - (i + 1) = k := by rw [← Nat.sub_sub, h]; rfl
theorem n_more {s a w : Nat} (h : s ≤ a) : a + w - s = a - s + w := Nat.sub_add_comm h
theorem n_cast1 {n : Nat} (h : 0 < n) : ((n : Int) - 1) = ((n - 1 : Nat) : Int) := (Int.natCast_sub h).symm
theorem n_cast1' {n : Nat} (h : ¬ n = 0) : ((n : Int) - 1) = ((n - 1 : Nat) : Int) := n_cast1 (Nat.pos_of_ne_zero h)
theorem n_min {a b : Nat} {i c : Nat} (h : a = min i b) (hb : b ≤ c) : a ≤ c := Nat.le_trans (Nat.le_of_eq h) (Nat.le_trans (Nat.min_le_right ..) hb)
theorem n_mod {a : Int} {n : Nat} (h : 0 < n) : (a.fmod n).toNat < n := by
  have h1 := Int.fmod_nonneg_of_pos a (b := n) (Int.natCast_pos.mpr h)
  have h2 := Int.fmod_lt_of_pos a (b := n) (Int.natCast_pos.mpr h)
  exact (Int.toNat_lt h1).mpr h2
theorem n_63 {l : List α} (h : l.length ≤ 100000) : ((l.toArray.size : Nat) : Int) < 2 ^ 63 := by
  rw [List.size_toArray]
  exact Int.lt_of_le_of_lt (Int.ofNat_le.mpr h) (by decide)
end Mine
end
section
open PySem PySem.W PyProof.Rows PySem.Calls
namespace Mine
section
variable {prog : Program} {w : World} {A : Around} {E : Value → Shared → Prop} {s : Shared} {h₀ : Heap} {L D : Addr} {m : Str → Option Value} {news news' : List (Addr × Obj)}
theorem append_L {l : List Value} {n : Nat} {x : Value} {Q : Value → Shared → Prop} (F : Fr h₀ L s.heap m) (N : News h₀ L s.heap news) (U : Upd D (W.listOf (List.toArray l) n) (W.listOf (List.toArray (l ++ [x])) (n + 1)) news news') (hsz : l.length ≤ 1000000)
    (h : ∀ h', Fr h₀ L h' m → News h₀ L h' news' → Q .none { s with heap := h' }) : wpAny (model prog w) A (call (.builtin "list.append") [.ref D, x]) Q E s := by
  refine append_K (its := List.toArray l) (n := n) F N ?_ h (by rw [List.size_toArray, sizeLine_eq]; (first | lia | omega))
  rw [List.push_toArray]; exact U
end
end Mine
end
section
open PySem PySem.W PyProof.Rows PySem.Calls
namespace Mine
section
variable {prog : Program} {w : World} {A : Around} {s : Shared} {env : Env} {h₀ : Heap}
noncomputable abbrev Nay : Value → Shared → Prop := fun _ _ => False

theorem ok_mono {α : Type} {M : Model} {A : Around} {t : Sem α} {Q Q' : α → Shared → Prop} {E : Value → Shared → Prop} {s : Shared} (h : wpAny M A t Q Nay s) (hq : ∀ a s', Q a s' → Q' a s') : wpAny M A t Q' E s :=
  wpAny_mono h hq fun _ _ x => x.elim
theorem ok_any {α : Type} {M : Model} {A : Around} {t : Sem α} {Q : α → Shared → Prop} {E : Value → Shared → Prop} {s : Shared} (h : wpAny M A t Q Nay s) : wpAny M A t Q E s := ok_mono h fun _ _ x => x

noncomputable def TurnP (h₀ : Heap) (L : Addr) (s : Shared) (It : Nat) (oI : Obj) (J : (Str → Option Value) → List (Addr × Obj) → Nat → Prop) (Q : Flow → Shared → Prop) (f : Flow) (s₃ : Shared) : Prop := match f with
  | .ret v => Q (.ret v) s₃
  | .brk => Q .next s₃
  | _ => ∃ m' news' h' tk', s₃ = { s with heap := h', toks := tk' } ∧ Fr h₀ L h' m' ∧ News h₀ L h' ((It, oI) :: news') ∧ (∀ p ∈ news', p.1 ≠ It) ∧ J m' news' tk'
theorem TurnP.next {L : Addr} {It : Nat} {oI : Obj} {J : (Str → Option Value) → List (Addr × Obj) → Nat → Prop} {Q : Flow → Shared → Prop} {m' : Str → Option Value} {news' : List (Addr × Obj)} {h' : Heap} {tk' : Nat}
    (F : Fr h₀ L h' m') (N : News h₀ L h' ((It, oI) :: news')) (hne : ∀ p ∈ news', p.1 ≠ It) (hj : J m' news' tk') : TurnP h₀ L s It oI J Q .next { s with heap := h', toks := tk' } := ⟨m', news', h', tk', rfl, F, N, hne, hj⟩

theorem owned_list {M : Model} {E : Value → Shared → Prop} {target : PySem.Expr} {It : Addr} {v : Value} {oI : Obj} {l : Addr} {i : Nat} {Q : Unit → Shared → Prop} (ho : s.heap.get? It = some oI) (hc : oI.cls = .type "list_iterator") (hd : oI.data = .fields #[.ref l, .int i 0]) (h : Q () s) :
    wpAny M A (letOwnedTupleGo target (.ref It) v) Q E s := by
  have key : wpAny M A (do
      let (.ref r, .ref a) := (Value.ref It, v) | return
      let o ← load r
      match o.cls, o.data with
      | .type n, .fields vs =>
        if ["enumerate", "zip", "dict_itemiterator", "dict_reverseitemiterator", "odict_iterator", "itertools.zip_longest", "itertools.pairwise"].contains n && vs[0]? == some (rawInt a) then
          rule "for.unpacks-the-owned-tuple"
          updateField r 0 .none
      | _, _ => pure ()) Q E s := by
    cases v <;> first | exact wpAny_pure h | skip
    refine wpAny_bind (wpAny_load ho ?_)
    rw [hc, hd]
    dsimp only
    rw [if_neg (by simp)]
    exact wpAny_pure h
  unfold letOwnedTupleGo
  split
  · exact key
  · exact key
  · exact wpAny_pure h

noncomputable def TurnD (h₀ : Heap) (L : Addr) (s : Shared) (It : Nat) (oI : Obj) (J : (Str → Option Value) → List (Addr × Obj) → Drawn → Nat → Prop) (Q : Flow → Shared → Prop) (f : Flow) (s₃ : Shared) : Prop := match f with
  | .ret v => Q (.ret v) s₃
  | .brk => Q .next s₃
  | _ => ∃ m' news' h' d' tk', s₃ = { s with heap := h', drawn := d', toks := tk' } ∧ Fr h₀ L h' m' ∧ News h₀ L h' ((It, oI) :: news') ∧ (∀ p ∈ news', p.1 ≠ It) ∧ J m' news' d' tk'
theorem TurnD.next {L : Addr} {It : Nat} {oI : Obj} {J : (Str → Option Value) → List (Addr × Obj) → Drawn → Nat → Prop} {Q : Flow → Shared → Prop} {m' : Str → Option Value} {news' : List (Addr × Obj)} {h' : Heap} {d' : Drawn} {tk' : Nat}
    (F : Fr h₀ L h' m') (N : News h₀ L h' ((It, oI) :: news')) (hne : ∀ p ∈ news', p.1 ≠ It) (hj : J m' news' d' tk') : TurnD h₀ L s It oI J Q .next { s with heap := h', drawn := d', toks := tk' } := ⟨m', news', h', d', tk', rfl, F, N, hne, hj⟩

noncomputable def ListInv (h₀ : Heap) (L : Addr) (s : Shared) (It : Nat) (l : Addr) (vs : List Value) (J : Nat → (Str → Option Value) → List (Addr × Obj) → Drawn → Nat → Prop) (k : Nat) (s' : Shared) : Prop := ∃ i m₁ news₁ h d tk oI, s' = { s with heap := h, drawn := d, toks := tk } ∧ k = vs.length - i ∧ i ≤ vs.length ∧ J i m₁ news₁ d tk ∧ oI.cls = .type "list_iterator" ∧ oI.data = .fields #[.ref l, .int ((i : Nat) : Int) 0] ∧ Fr h₀ L h m₁ ∧ News h₀ L h ((It, oI) :: news₁) ∧ ∀ p ∈ news₁, p.1 ≠ It
theorem for_listD {target : PySem.Expr} {body : List Stmt} {l : Addr} {vs : List Value} {m : Str → Option Value} {news : List (Addr × Obj)} {Q : Flow → Shared → Prop} (J : Nat → (Str → Option Value) → List (Addr × Obj) → Drawn → Nat → Prop)
    (hh : A.handled = none) (F : Fr h₀ env.locals s.heap m) (N : News h₀ env.locals s.heap news) (hj : J 0 m news s.drawn s.toks)
    (hl : ∀ i m₁ news₁ d tk h, J i m₁ news₁ d tk → Fr h₀ env.locals h m₁ → News h₀ env.locals h news₁ → h.IsList l vs.toArray)
    (turn : ∀ i v m₁ news₁ h d tk (It : Nat) oI, vs[i]? = some v → J i m₁ news₁ d tk → oI.cls = .type "list_iterator" → oI.data = .fields #[.ref l, .int ((i + 1 : Nat) : Int) 0] → (∀ p ∈ news, @LT.lt Nat _ p.1 It) → (∀ p ∈ news₁, @Ne Nat p.1 It) → Fr h₀ env.locals h m₁ → News h₀ env.locals h ((It, oI) :: news₁) →
      wpAny (model prog w) A (assign target env v) (fun _ s₂ => wpAny (model prog w) A (execs body env) (TurnD h₀ env.locals s It oI (J (i + 1)) Q) Nay s₂) Nay { s with heap := h, drawn := d, toks := tk })
    (done : ∀ m₁ news₁ h d tk, J vs.length m₁ news₁ d tk → Fr h₀ env.locals h m₁ → News h₀ env.locals h news₁ → Q .next { s with heap := h, drawn := d, toks := tk }) :
    wpAny (model prog w) A (pyIter (.ref l)) (fun it s₂ => codeAny (model prog w) A (.forLoop target it body [] env) (fun r s' => match r with | .ok f => Q f s' | .error _ => False) s₂) Nay s := by
  refine wpAny_pyIter_list (hl 0 m news s.drawn s.toks s.heap hj F N) ?_
  let It : Nat := s.heap.objs.size
  have hItlt : ∀ p ∈ news, p.1 < It := fun p hp => Heap.lt_size (N p hp).1
  refine codeAny_forLoop_any (ListInv h₀ env.locals s It l vs J) ?_ vs.length ?_
  · rintro k s' ⟨i, m₁, news₁, h, d, tk, oI, rfl, rfl, hle, hJ, hc, hd, F₁, N₁, hne⟩
    have hIt := N₁ (It, oI) (.head _)
    have N₁' : News h₀ env.locals h news₁ := fun p hp => N₁ p (.tail _ hp)
    have hls := hl i m₁ news₁ d tk h hJ F₁ N₁'
    have hit : h.IsListIter It l i := ⟨oI, hIt.1, hc, hd⟩
    have keepF : ∀ h', Heap.ExtBut It h h' → Fr h₀ env.locals h' m₁ := fun h' hs' => by
      obtain ⟨oL, es, ep, hL, r⟩ := F₁.ns
      refine ⟨⟨oL, es, ep, hs' _ _ hIt.2.1.symm hL, r⟩, fun b o e => hs' b o (fun q => ?_) (F₁.keep b o e), F₁.above⟩
      rw [q, hIt.2.2] at e; cases e
    have keepN : ∀ h', Heap.ExtBut It h h' → News h₀ env.locals h' news₁ := fun h' hs' p hp => ⟨hs' _ _ (hne p hp) (N₁' p hp).1, (N₁' p hp).2⟩
    by_cases hlt : i < vs.length
    · have hx : vs.toArray[i]? = some vs[i] := by simp [hlt]
      refine ok_mono (wpAny_pyNext_list_item (s := { s with heap := h, drawn := d, toks := tk }) hit hls hx fun h' hit' hs' => ?_) (Q := fun r s₁ => ∃ h' oI', r = some vs[i] ∧ s₁ = { s with heap := h', drawn := d, toks := tk } ∧ oI'.cls = .type "list_iterator" ∧ oI'.data = .fields #[.ref l, .int ((i + 1 : Nat) : Int) 0] ∧ h'.get? It = some oI' ∧ Heap.SameBut It h h') ?_
      · obtain ⟨o', ho', hc', hd'⟩ := hit'
        exact ⟨h', o', rfl, rfl, hc', hd', ho', hs'⟩
      · rintro r s₁ ⟨h', oI', rfl, rfl, hc', hd', ho', hs'⟩
        dsimp only
        have N' : News h₀ env.locals h' ((It, oI') :: news₁) := by
          intro p hp
          rcases List.mem_cons.mp hp with rfl | hp
          · exact ⟨ho', hIt.2⟩
          · exact keepN h' hs'.extBut p hp
        refine owned_list (s := { s with heap := h', drawn := d, toks := tk }) ho' hc' hd' ?_
        refine ok_mono (turn i vs[i] m₁ news₁ h' d tk It oI' (by simp [hlt]) hJ hc' hd' hItlt hne (keepF h' hs'.extBut) N') fun _ s₂ h₂ => ok_mono h₂ fun f s₃ h₃ => ?_
        have fin : (∃ m' news' h' d' tk', s₃ = { s with heap := h', drawn := d', toks := tk' } ∧ Fr h₀ env.locals h' m' ∧ News h₀ env.locals h' ((It, oI') :: news') ∧ (∀ p ∈ news', p.1 ≠ It) ∧ J (i + 1) m' news' d' tk') →
            ∃ m, m < vs.length - i ∧ ListInv h₀ env.locals s It l vs J m s₃ := by
          rintro ⟨m', news', h'', d', tk', e, F', N', hne', hJ'⟩
          exact ⟨vs.length - (i + 1), n_sub hlt, i + 1, m', news', h'', d', tk', oI', e, rfl, hlt, hJ', hc', hd', F', N', hne'⟩
        cases f with
        | next => exact fin h₃
        | cont => exact fin h₃
        | brk => exact h₃
        | ret v => exact h₃
    · have e : i = vs.length := n_end (by assumption) (by assumption)
      subst e
      refine ok_mono (wpAny_pyNext_list_end (s := { s with heap := h, drawn := d, toks := tk }) hh hit hls (by simp) fun h' hs' => ?_) (Q := fun r s₁ => ∃ h', r = none ∧ s₁ = { s with heap := h', drawn := d, toks := tk } ∧ Heap.ExtBut It h h') ?_
      · exact ⟨h', rfl, rfl, hs'⟩
      · rintro r s₁ ⟨h', rfl, rfl, hs'⟩
        exact wpAny_execs_nil (done m₁ news₁ h' d tk hJ (keepF h' hs') (keepN h' hs'))
  · refine ⟨0, m, news, _, s.drawn, s.toks, _, rfl, rfl, Nat.zero_le _, hj, rfl, rfl, F.push _, N.push F _, fun p hp => Nat.ne_of_lt (hItlt p hp)⟩

theorem for_list {target : PySem.Expr} {body : List Stmt} {l : Addr} {vs : List Value} {m : Str → Option Value} {news : List (Addr × Obj)} {Q : Flow → Shared → Prop} (J : Nat → (Str → Option Value) → List (Addr × Obj) → Nat → Prop)
    (hh : A.handled = none) (F : Fr h₀ env.locals s.heap m) (N : News h₀ env.locals s.heap news) (hj : J 0 m news s.toks)
    (hl : ∀ i m₁ news₁ tk h, J i m₁ news₁ tk → Fr h₀ env.locals h m₁ → News h₀ env.locals h news₁ → h.IsList l vs.toArray)
    (turn : ∀ i v m₁ news₁ h tk (It : Nat) oI, vs[i]? = some v → J i m₁ news₁ tk → oI.cls = .type "list_iterator" → (∀ p ∈ news, @LT.lt Nat _ p.1 It) → (∀ p ∈ news₁, @Ne Nat p.1 It) → Fr h₀ env.locals h m₁ → News h₀ env.locals h ((It, oI) :: news₁) →
      wpAny (model prog w) A (assign target env v) (fun _ s₂ => wpAny (model prog w) A (execs body env) (TurnP h₀ env.locals s It oI (J (i + 1)) Q) Nay s₂) Nay { s with heap := h, toks := tk })
    (done : ∀ m₁ news₁ h tk, J vs.length m₁ news₁ tk → Fr h₀ env.locals h m₁ → News h₀ env.locals h news₁ → Q .next { s with heap := h, toks := tk }) :
    wpAny (model prog w) A (pyIter (.ref l)) (fun it s₂ => codeAny (model prog w) A (.forLoop target it body [] env) (fun r s' => match r with | .ok f => Q f s' | .error _ => False) s₂) Nay s := by
  refine for_listD (fun i m n d tk => d = s.drawn ∧ J i m n tk) hh F N ⟨rfl, hj⟩ (fun i m₁ news₁ d tk h hJ => hl i m₁ news₁ tk h hJ.2) ?_ ?_
  · rintro i v m₁ news₁ h d tk It oI hv ⟨rfl, hJ⟩ hc _ hlt hne F₁ N₁
    refine ok_mono (turn i v m₁ news₁ h tk It oI hv hJ hc hlt hne F₁ N₁) fun _ s₂ h₂ => ok_mono h₂ fun f s₃ h₃ => ?_
    have fin : (∃ m' news' h' tk', s₃ = { s with heap := h', toks := tk' } ∧ Fr h₀ env.locals h' m' ∧ News h₀ env.locals h' ((It, oI) :: news') ∧ (∀ p ∈ news', p.1 ≠ It) ∧ J (i + 1) m' news' tk') → TurnD h₀ env.locals s It oI (fun m n d tk => d = s.drawn ∧ J (i + 1) m n tk) Q .next s₃ := by
      rintro ⟨m', n', h', tk', rfl, a, b, c, e⟩
      exact ⟨m', n', h', _, tk', rfl, a, b, c, rfl, e⟩
    cases f with
    | next => exact fin h₃
    | cont => exact fin h₃
    | brk => exact h₃
    | ret v => exact h₃
  · rintro m₁ news₁ h d tk ⟨rfl, hJ⟩
    exact done m₁ news₁ h tk hJ

theorem For_go {target iter : PySem.Expr} {body : List Stmt} {pos : Pos} {Q : Flow → Shared → Prop} {E : Value → Shared → Prop}
    (he : wpAny (model prog w) A (eval iter env) (fun x s₁ => wpAny (model prog w) A (pyIter x) (fun it s₂ => codeAny (model prog w) A (.forLoop target it body [] env) (fun r s' => match r with | .ok f => Q f s' | .error _ => False) s₂) Nay s₁) Nay s)
    (hs : ∀ x, foldedSetIterable iter env x = pure x := by intro _; rfl) :
    wpAny (model prog w) A (exec (.For target iter body [] pos) env) Q E s := by
  refine wpAny_For ?_ hs
  refine ok_mono he fun x s₁ h => ok_mono h fun it s₂ h₂ => codeAny_mono h₂ fun r s' hr => ?_
  cases r with
  | ok f => exact hr
  | error e => exact hr.elim
end
end Mine
end
section
open PySem PySem.W PyProof.Rows PySem.Calls
namespace Mine
noncomputable abbrev thePr : Program := PySem.Challenge.rw_nb0300_01.row.prog
structure Cx (k : Nat) (w : World) (p : Program) (loose : List Str) (mean : ExcName → Option Value) (mg mb : Str → Option Value) (dp un : Nat) (cs : Scope) (outer : List Env) (A₀ : Around) (base h₀ : Heap) : Prop where
  B : Below A₀ base outer h₀
  T : Top p loose mean mg mb h₀
  hk : cs.kind = .function
  hd : dp + k < recursionLimit
  hu : un + 8 * k < cLine
theorem fr_pin {h₀ h : Heap} {L : Addr} {m : Str → Option Value} {x : Str} {v : Value} (F : Fr h₀ L h m) (hx : m x = some v) : Fr h₀ L h (fun y => if y = x then some v else m y) := by
  have e : (fun y => if y = x then some v else m y) = m := by
    funext y
    by_cases hy : y = x
    · rw [if_pos hy, hy, hx]
    · rw [if_neg hy]
  rw [e]; exact F
noncomputable def Pins (m : Str → Option Value) : List (Str × Value) → Prop
  | [] => True
  | p :: r => m p.1 = some p.2 ∧ Pins m r
noncomputable def pinned (m : Str → Option Value) : List (Str × Value) → Str → Option Value
  | [], y => m y
  | p :: r, y => if y = p.1 then some p.2 else pinned m r y
theorem pinned_eq {m : Str → Option Value} : ∀ {ps : List (Str × Value)}, Pins m ps → pinned m ps = m
  | [], _ => rfl
  | p :: r, h => by
    funext y
    show (if y = p.1 then some p.2 else pinned m r y) = m y
    by_cases e : y = p.1
    · rw [if_pos e, e, h.1]
    · rw [if_neg e, pinned_eq h.2]
theorem fr_pins {h₀ h : Heap} {L : Addr} {m : Str → Option Value} {ps : List (Str × Value)} (F : Fr h₀ L h m) (hp : Pins m ps) : Fr h₀ L h (fun y => pinned m ps y) := by
  show Fr h₀ L h (pinned m ps)
  rw [pinned_eq hp]; exact F
theorem News.swap {h₀ h : Heap} {L : Addr} {p q : Addr × Obj} {news : List (Addr × Obj)} (N : News h₀ L h (p :: q :: news)) : News h₀ L h (q :: p :: news) := fun x hx => N x (by
  rcases List.mem_cons.mp hx with rfl | hx
  · exact .tail _ (.head _)
  · rcases List.mem_cons.mp hx with rfl | hx
    · exact .head _
    · exact .tail _ (.tail _ hx))
theorem News.sub {h₀ h : Heap} {L : Addr} {l l' : List (Addr × Obj)} (N : News h₀ L h l) (hs : ∀ p ∈ l', p ∈ l) : News h₀ L h l' := fun p hp => N p (hs p hp)
theorem lt_of_all {d : Nat} : ∀ {l : List (Addr × Obj)}, AllLt d l → ∀ p ∈ l, p.1 < d
  | [], _, _, hp => nomatch hp
  | q :: r, h, p, hp => by
    rcases List.mem_cons.mp hp with rfl | hp
    · exact h.1
    · exact lt_of_all h.2 p hp
section
variable {prog : Program} {w : World} {A : Around} {E : Value → Shared → Prop} {s : Shared} {h₀ : Heap} {L a b : Addr} {m : Str → Option Value} {news : List (Addr × Obj)} {Q : Value → Shared → Prop} {l₁ l₂ : List Value}
theorem add_L (F : Fr h₀ L s.heap m) (N : News h₀ L s.heap news) (ha : s.heap.IsList a (List.toArray l₁)) (hb : s.heap.IsList b (List.toArray l₂)) (hz : l₁.length + l₂.length ≤ 1000000)
    (h : ∀ D h', Fr h₀ L h' m → News h₀ L h' ((D, W.listOf (List.toArray (l₁ ++ l₂)) 0) :: news) → (∀ p ∈ news, p.1 < D) → Q (.ref D) { s with heap := h' }) : wpAny (model prog w) A (binaryOp .Add (.ref a) (.ref b)) Q E s :=
  kmk_add_lit F N ha hb rfl h (by rw [sizeLine_eq]; simp only [List.toList_toArray]; (first | lia | omega))
end
end Mine
end
section
open PySem PySem.W PyProof.Rows PySem.Calls
namespace Mine
section
variable {prog : Program} {w : World} {A : Around} {E : Value → Shared → Prop} {s : Shared} {K : Frag} {x C L : Addr} {h₀ : Heap} {m : Str → Option Value} {ox : Obj} {es : List DictEntry} {n : Nat} {name : Str} {v : Value} {f : Addr}
theorem method_shadow {pl : Sem Bool} {g : Value} {Q : Value × List Value → Shared → Prop} (F : Fr h₀ L s.heap m) (X₀ : K.In h₀) (I : InstAt s.heap x ox C (some (dictOf es n))) (hg : plainGet K C name = true) (hh : hasDictIn K C = true)
    (hf : findIn K (.ref C) name = some (some (.ref f))) (ht : isFn K (.ref f) = true) (hsp : specialIn K (.ref f) "__get__" = some (some g)) (htk : takesIn K (.ref f) = some false) (hl : getL name es = some (some v)) (hv : handedIn v = true)
    (h : Q (v, []) { s with toks := s.toks + 1 }) : wpAny (model prog w) A (getMethod (.ref x) name pl) Q E s := by
  have X := X₀.keeps F.keep
  obtain ⟨hga, hk⟩ := plainGet_of hg
  have hcan := PySem.F.canon_object_ga
  obtain ⟨cd, hc, hd⟩ := any_some hh
  have ho : W.ownOf cd (some (dictOf es n)) name = some (some v) := by unfold W.ownOf; rw [if_pos hd]; exact hl
  have hfo : findObj K C (some (dictOf es n)) name = some (.value v) := by
    unfold findObj
    rw [hc, Option.bind_some, hf, Option.bind_some]
    simp [hsp, htk, ho]
  have u : wpAny (model prog w) A (do return (← getAttr (.ref x) name, ([] : List Value))) Q E s := wpAny_bind (get_value X I hga hfo hv (wpAny_pure h))
  unfold getMethod specialOf
  refine wpAny_bind (wpAny_bind (I.type.here ((looks_findIn X hga).here ?_)))
  dsimp only
  rw [hcan, if_neg (by decide)]
  refine wpAny_bind (wpAny_bind (I.type.here ((looks_findIn X hk).here ?_)))
  refine wpAny_bind (wpAny_bind (I.type.here ((looks_findIn X hf).here (wpAny_bind ((looks_typeIn X (beq_iff_eq.mp ht)).here ?_)))))
  rw [if_neg (by decide +kernel)]
  refine wpAny_bind (wpAny_loadPart I.at_ ?_)
  have hd' := I.dict
  cases e : ox.dict with
  | none => rw [e] at hd'; exact hd'.elim
  | some dx =>
    rw [e] at hd'
    refine wpAny_bind (wpAny_bind (wpAny_loadPart hd' ?_))
    rw [nsLook_of (show lookIn name (dictOf es n) = some (some v) from hl)]
    refine wpAny_pure ?_
    exact u
end
end Mine
end
section
open PySem PySem.W PyProof.Rows PySem.Calls
namespace Mine
noncomputable def SSet (prog : Program) (w : World) (o : Obj) (S : Str → Bool) (n : Nat) : Prop := o.SetObjOf (strKind prog w) S n
theorem sset_fresh {prog : Program} {w : World} (led : Bool) : SSet prog w { cls := .type "set", dict := none, data := .set #[] 0 (.fresh 0 0 led) } (fun _ => false) 0 := setObjOf_fresh led
section
variable {prog : Program} {w : World} {A : Around} {E : Value → Shared → Prop} {s : Shared} {h₀ : Heap} {L sa : Addr} {m : Str → Option Value} {news : List (Addr × Obj)} {so : Obj} {S : Str → Bool} {n : Nat} {x : Str} {t : Tok} {g : Obj → List (Addr × Obj)}
theorem sset_method {pl : Sem Bool} {Q : Value × List Value → Shared → Prop} (N : News h₀ L s.heap news) (hm : (sa, so) ∈ news) (hso : SSet prog w so S n) (hb : n < scanBound)
    (h : Q (.builtin "set.add", [.ref sa]) s) : wpAny (model prog w) A (getMethod (.ref sa) (Str.ofString "add") pl) Q E s :=
  getMethod_set_add (Obj.SetObjOf.setOf hso (N _ hm).1 hb) h
theorem sset_in {Q : Value → Shared → Prop} (N : News h₀ L s.heap news) (hm : (sa, so) ∈ news) (hso : SSet prog w so S n) (hb : n < scanBound) (h : Q (.bool (S x)) { s with toks := s.toks + 1 }) :
    wpAny (model prog w) A (compareOp .In (.str x t) (.ref sa)) Q E s := wpAny_inSet_of (k := x) (strKind_is prog w x t) rfl (Obj.SetObjOf.setOf hso (N _ hm).1 hb) h
theorem sset_notin {Q : Value → Shared → Prop} (N : News h₀ L s.heap news) (hm : (sa, so) ∈ news) (hso : SSet prog w so S n) (hb : n < scanBound) (h : Q (.bool (!S x)) { s with toks := s.toks + 1 }) :
    wpAny (model prog w) A (compareOp .NotIn (.str x t) (.ref sa)) Q E s := wpAny_notInSet_of (k := x) (strKind_is prog w x t) rfl (Obj.SetObjOf.setOf hso (N _ hm).1 hb) h
end
end Mine
end
section
open PySem PySem.W PyProof.Rows PySem.Calls
namespace Mine
theorem lk_pinned : ∀ ps : List (Str × Value), (fun y => List.lookup y ps) = fun y => pinned (fun _ => none) ps y
  | [] => rfl
  | p :: r => by
    funext y
    have ih := congrFun (lk_pinned r) y
    obtain ⟨k, v⟩ := p
    show (match y == k with | true => some v | false => List.lookup y r) = if y = k then some v else pinned (fun _ => none) r y
    by_cases e : y = k
    · rw [if_pos e, show (y == k) = true from by rw [e]; exact beq_self_eq_true k]
    · rw [if_neg e, ← ih, show (y == k) = false from beq_eq_false_iff_ne.mpr e]
theorem lk_fr {h₀ h : Heap} {L : Addr} {ps : List (Str × Value)} (F : Fr h₀ L h (fun y => List.lookup y ps)) : Fr h₀ L h (fun y => pinned (fun _ => none) ps y) := by rw [lk_pinned] at F; exact F
end Mine
end
section
open PySem PySem.W PyProof.Rows PySem.Calls
namespace Mine
noncomputable def sub1 (c : Nat) (z : List Nat) (l : List Nat) : List Nat := l.flatMap fun d => if d = c then z else [d]
theorem sub1_append (c : Nat) (z a b : List Nat) : sub1 c z (a ++ b) = sub1 c z a ++ sub1 c z b := by simp [sub1]
theorem sub1_free (c : Nat) (z : List Nat) : ∀ l : List Nat, c ∉ l → sub1 c z l = l
  | [], _ => rfl
  | k :: r, h => by
    have h1 : ¬ k = c := fun e => h (e ▸ List.mem_cons_self ..)
    have ih := sub1_free c z r fun m => h (List.mem_cons_of_mem _ m)
    unfold sub1 at ih ⊢
    rw [List.flatMap_cons, if_neg h1, ih]; rfl
theorem sub1_join (c : Nat) (z : Str) : ∀ parts : List Str, (∀ p ∈ parts, c ∉ p.cps.toList) → sub1 c z.cps.toList (Str.join ⟨#[c]⟩ parts).cps.toList = (Str.join z parts).cps.toList
  | [], _ => rfl
  | [p], h => sub1_free c _ _ (h p (List.mem_singleton.mpr rfl))
  | p :: q :: r, h => by
    have ih := sub1_join c z (q :: r) fun a ha => h a (List.mem_cons_of_mem _ ha)
    show sub1 c z.cps.toList (p ++ ⟨#[c]⟩ ++ Str.join ⟨#[c]⟩ (q :: r)).cps.toList = (p ++ z ++ Str.join z (q :: r)).cps.toList
    simp only [Str.cps_append, Array.toList_append]
    rw [sub1_append, sub1_append, ih, sub1_free c _ _ (h p (List.mem_cons_self ..))]
    show p.cps.toList ++ sub1 c z.cps.toList [c] ++ _ = _
    simp [sub1]
theorem replace_sub1 (x z : Str) (c : Nat) : (Txt.replace x ⟨#[c]⟩ z).cps.toList = sub1 c z.cps.toList x.cps.toList := by
  rw [StrLaws.replace_one, ← sub1_join c z _ (StrLaws.split_free x c), StrLaws.join_split]
theorem sub1_length (c : Nat) (z : List Nat) : ∀ l : List Nat, (sub1 c z l).length ≤ l.length * (z.length + 1)
  | [] => by simp [sub1]
  | k :: r => by
    have ih := sub1_length c z r
    have e : sub1 c z (k :: r) = (if k = c then z else [k]) ++ sub1 c z r := by unfold sub1; rw [List.flatMap_cons]
    rw [e, List.length_append, List.length_cons, Nat.add_mul, Nat.one_mul]
    split
    · (first | lia | omega)
    · simp only [List.length_singleton]; (first | lia | omega)
theorem replace_len (x z : Str) (c : Nat) : (Txt.replace x ⟨#[c]⟩ z).length ≤ x.length * (z.length + 1) := by
  have h := sub1_length c z.cps.toList x.cps.toList
  rw [← replace_sub1] at h
  simpa [Str.length] using h
theorem str_ext {a b : Str} (h : a.cps.toList = b.cps.toList) : a = b := by
  cases a; cases b
  simp only [Str.mk.injEq]
  exact Array.toList_inj.mp h
theorem replace_absent {x cS : Str} {c : Nat} (z : Str) (hc : cS = ⟨#[c]⟩) (h : (Builtin.Str.occurrences x cS 0 x.length 1).isEmpty = true) : Txt.replace x cS z = x := by
  subst hc
  have h1 := StrLaws.found_one x c
  rw [h] at h1
  have h2 : c ∉ x.cps.toList := of_decide_eq_false h1.symm
  refine str_ext ?_
  rw [replace_sub1, sub1_free c _ _ h2]
theorem replace_lenS {x z cS : Str} {c k : Nat} (hc : cS = ⟨#[c]⟩) (hz : z.length ≤ k) : (Txt.replace x cS z).length ≤ x.length * (k + 1) := by
  subst hc
  exact Nat.le_trans (replace_len x z c) (Nat.mul_le_mul_left _ (by (first | lia | omega)))
noncomputable def escC (c : Nat) : List Nat := if c = 38 then [38, 97, 109, 112, 59] else if c = 60 then [38, 108, 116, 59] else if c = 62 then [38, 103, 116, 59] else if c = 13 then [38, 35, 120, 68, 59] else [c]
noncomputable def escV (c : Nat) : List Nat := if c = 38 then [38, 97, 109, 112, 59] else if c = 60 then [38, 108, 116, 59] else if c = 34 then [38, 113, 117, 111, 116, 59] else if c = 9 then [38, 35, 120, 57, 59] else if c = 10 then [38, 35, 120, 65, 59] else if c = 13 then [38, 35, 120, 68, 59] else [c]
noncomputable def escT (x : Str) : Str := ⟨(x.cps.toList.flatMap escC).toArray⟩
noncomputable def escA (x : Str) : Str := ⟨(x.cps.toList.flatMap escV).toArray⟩
theorem flat_flat {α β γ : Type} (l : List α) (f : α → List β) (g : β → List γ) : (l.flatMap f).flatMap g = l.flatMap fun a => (f a).flatMap g := List.flatMap_assoc ..
theorem escT_eq (x : Str) : Txt.replace (Txt.replace (Txt.replace (Txt.replace x (Str.ofString "&") (Str.ofString "&amp;")) (Str.ofString "<") (Str.ofString "&lt;")) (Str.ofString ">") (Str.ofString "&gt;")) (Str.ofString "\r") (Str.ofString "&#xD;") = escT x := by
  refine str_ext ?_
  have e1 : Str.ofString "&" = ⟨#[38]⟩ := by decide
  have e2 : Str.ofString "<" = ⟨#[60]⟩ := by decide
  have e3 : Str.ofString ">" = ⟨#[62]⟩ := by decide
  have e4 : Str.ofString "\r" = ⟨#[13]⟩ := by decide
  have f1 : (Str.ofString "&amp;").cps.toList = [38, 97, 109, 112, 59] := by decide
  have f2 : (Str.ofString "&lt;").cps.toList = [38, 108, 116, 59] := by decide
  have f3 : (Str.ofString "&gt;").cps.toList = [38, 103, 116, 59] := by decide
  have f4 : (Str.ofString "&#xD;").cps.toList = [38, 35, 120, 68, 59] := by decide
  rw [e1, e2, e3, e4, replace_sub1, replace_sub1, replace_sub1, replace_sub1, f1, f2, f3, f4]
  unfold sub1 escT
  rw [flat_flat, flat_flat, flat_flat]
  show _ = x.cps.toList.flatMap escC
  congr 1
  funext c
  unfold escC
  by_cases h1 : c = 38
  · simp [h1]
  · by_cases h2 : c = 60
    · simp [h2]
    · by_cases h3 : c = 62
      · simp [h3]
      · by_cases h4 : c = 13
        · simp [h4]
        · simp [h1, h2, h3, h4]
theorem escA_eq (x : Str) : Txt.replace (Txt.replace (Txt.replace (Txt.replace (Txt.replace (Txt.replace x (Str.ofString "&") (Str.ofString "&amp;")) (Str.ofString "<") (Str.ofString "&lt;")) (Str.ofString "\"") (Str.ofString "&quot;")) (Str.ofString "\t") (Str.ofString "&#x9;")) (Str.ofString "\n") (Str.ofString "&#xA;")) (Str.ofString "\r") (Str.ofString "&#xD;") = escA x := by
  refine str_ext ?_
  have e1 : Str.ofString "&" = ⟨#[38]⟩ := by decide
  have e2 : Str.ofString "<" = ⟨#[60]⟩ := by decide
  have e3 : Str.ofString "\"" = ⟨#[34]⟩ := by decide
  have e4 : Str.ofString "\t" = ⟨#[9]⟩ := by decide
  have e5 : Str.ofString "\n" = ⟨#[10]⟩ := by decide
  have e6 : Str.ofString "\r" = ⟨#[13]⟩ := by decide
  have f1 : (Str.ofString "&amp;").cps.toList = [38, 97, 109, 112, 59] := by decide
  have f2 : (Str.ofString "&lt;").cps.toList = [38, 108, 116, 59] := by decide
  have f3 : (Str.ofString "&quot;").cps.toList = [38, 113, 117, 111, 116, 59] := by decide
  have f4 : (Str.ofString "&#x9;").cps.toList = [38, 35, 120, 57, 59] := by decide
  have f5 : (Str.ofString "&#xA;").cps.toList = [38, 35, 120, 65, 59] := by decide
  have f6 : (Str.ofString "&#xD;").cps.toList = [38, 35, 120, 68, 59] := by decide
  rw [e1, e2, e3, e4, e5, e6, replace_sub1, replace_sub1, replace_sub1, replace_sub1, replace_sub1, replace_sub1, f1, f2, f3, f4, f5, f6]
  unfold sub1 escA
  rw [flat_flat, flat_flat, flat_flat, flat_flat, flat_flat]
  show _ = x.cps.toList.flatMap escV
  congr 1
  funext c
  unfold escV
  by_cases h1 : c = 38
  · simp [h1]
  · by_cases h2 : c = 60
    · simp [h2]
    · by_cases h3 : c = 34
      · simp [h3]
      · by_cases h4 : c = 9
        · simp [h4]
        · by_cases h5 : c = 10
          · simp [h5]
          · by_cases h6 : c = 13
            · simp [h6]
            · simp [h1, h2, h3, h4, h5, h6]
section
variable {prog : Program} {w : World} {A : Around} {E : Value → Shared → Prop} {s : Shared} {x y z : Str} {t u v : Tok} {Q : Value → Shared → Prop}
theorem replace_P (hu : @LT.lt Nat _ 0 u) (huv : @LT.lt Nat _ u v) (hyz : (y == z) = false) (hx : x.length ≤ 1000000) (hz : z.length ≤ 14)
    (hq : ∀ t' k, s.toks ≤ k → Q (.str (Txt.replace x y z) t') { s with toks := k }) : wpAny (model prog w) A (call (.builtin "str.replace") [.str x t, .str y u, .str z v]) Q E s := by
  have h0 : wpAny (model prog w) A (call (.builtin "str.replace") [.str x t, .str y u, .str z v]) (fun a s' => ∃ t' k, a = .str (Txt.replace x y z) t' ∧ s' = { s with toks := k }) E s :=
    SC.replaceW (Nat.ne_of_gt hu) (Nat.ne_of_gt (Nat.lt_trans hu huv)) (Nat.ne_of_lt huv) hyz (by (first | lia | omega)) hz fun t' k => ⟨t', k, rfl, rfl⟩
  refine wpAny_mono (wpAny_toks_of (n := s.toks) (Nat.le_refl _) h0) ?_ fun _ _ x => x.2
  rintro a s' ⟨hn, t', k, rfl, rfl⟩
  exact hq t' k hn
end
end Mine
end
section
open PySem PySem.W PyProof.Rows
namespace Mine
noncomputable def chk : Nat → List Nat → Bool
  | d, [] => d == 0
  | d, c :: r => if c = 40 then chk (d + 1) r else if c = 41 then (if d = 0 then false else chk (d - 1) r) else chk d r
theorem chk_pair (b : List Nat) : ∀ (a : List Nat) (d : Nat), chk d (a ++ 40 :: 41 :: b) = chk d (a ++ b)
  | [], d => by simp [chk]
  | c :: r, d => by
    show (if c = 40 then chk (d + 1) (r ++ 40 :: 41 :: b) else if c = 41 then (if d = 0 then false else chk (d - 1) (r ++ 40 :: 41 :: b)) else chk d (r ++ 40 :: 41 :: b)) = (if c = 40 then chk (d + 1) (r ++ b) else if c = 41 then (if d = 0 then false else chk (d - 1) (r ++ b)) else chk d (r ++ b))
    rw [chk_pair b r (d + 1), chk_pair b r (d - 1), chk_pair b r d]
noncomputable def NoPair (l : List Nat) : Prop := ∀ a b, l ≠ a ++ 40 :: 41 :: b
theorem chk_depth : ∀ (l : List Nat) (d : Nat), (∀ c ∈ l, c = 40 ∨ c = 41) → NoPair (40 :: l) → chk (d + 1) l = true → False
  | [], d, _, _, h => by simp [chk] at h
  | c :: r, d, hc, hn, h => by
    rcases hc c (List.mem_cons_self ..) with rfl | rfl
    · have h' : chk (d + 1 + 1) r = true := by simpa [chk] using h
      exact chk_depth r (d + 1) (fun c h => hc c (List.mem_cons_of_mem _ h)) (fun a b e => hn (40 :: a) b (by rw [e]; rfl)) h'
    · exact hn [] r rfl
theorem chk_irred {l : List Nat} (hc : ∀ c ∈ l, c = 40 ∨ c = 41) (hn : NoPair l) : chk 0 l = l.isEmpty := by
  cases l with
  | nil => rfl
  | cons c r =>
    rcases hc c (List.mem_cons_self ..) with rfl | rfl
    · cases h : chk 0 (40 :: r) with
      | false => rfl
      | true => exact (chk_depth r 0 (fun c h => hc c (List.mem_cons_of_mem _ h)) hn (by simpa [chk] using h)).elim
    · simp [chk]
theorem chk_join : ∀ (ps : List Str) (a : List Nat) (d : Nat), chk d (a ++ (Str.join ⟨#[40, 41]⟩ ps).cps.toList) = chk d (a ++ (Str.join ⟨#[]⟩ ps).cps.toList)
  | [], a, d => rfl
  | [p], a, d => rfl
  | p :: q :: r, a, d => by
    show chk d (a ++ (p ++ ⟨#[40, 41]⟩ ++ Str.join ⟨#[40, 41]⟩ (q :: r)).cps.toList) = chk d (a ++ (p ++ ⟨#[]⟩ ++ Str.join ⟨#[]⟩ (q :: r)).cps.toList)
    simp only [Str.cps_append, Array.toList_append]
    have e1 : a ++ (p.cps.toList ++ [40, 41] ++ (Str.join ⟨#[40, 41]⟩ (q :: r)).cps.toList) = (a ++ p.cps.toList) ++ 40 :: 41 :: (Str.join ⟨#[40, 41]⟩ (q :: r)).cps.toList := by simp
    have e2 : a ++ (p.cps.toList ++ [] ++ (Str.join ⟨#[]⟩ (q :: r)).cps.toList) = (a ++ p.cps.toList) ++ (Str.join ⟨#[]⟩ (q :: r)).cps.toList := by simp
    rw [e1, e2, chk_pair, chk_join (q :: r) (a ++ p.cps.toList) d]
end Mine
end
section
open PySem PySem.W PyProof.Rows
open Builtin Builtin.Str
namespace Mine
theorem replace_pair (x : Str) : Txt.replace x ⟨#[40, 41]⟩ ⟨#[]⟩ = Str.join ⟨#[]⟩ (Txt.split x ⟨#[40, 41]⟩) := by
  have h10 : ((⟨#[40, 41]⟩ : Str).length == 0) = false := rfl
  unfold Txt.replace
  rw [h10, Bool.false_and, Bool.or_false]
  cases he : (occurrences x ⟨#[40, 41]⟩ 0 x.length (x.length + 1)).isEmpty
  · rw [if_neg Bool.false_ne_true, StrLaws.glued_eq_join]
    by_cases hc : (decide (x.length < (⟨#[40, 41]⟩ : Str).length) || decide (strKind x < strKind ⟨#[40, 41]⟩)) = true
    · exfalso
      have hk : ¬ (strKind x < strKind ⟨#[40, 41]⟩) := by
        have e : strKind ⟨#[40, 41]⟩ = 1 := by decide +kernel
        rw [e]
        unfold Builtin.Str.strKind
        split
        · decide
        · split <;> decide
      have hl : x.length < 2 := by
        simp only [hk, decide_false, Bool.or_false, decide_eq_true_eq] at hc
        exact hc
      obtain ⟨f, h⟩ := StrLaws.occ_chain x ⟨#[40, 41]⟩ (x.length + 1)
      cases ho : occurrences x ⟨#[40, 41]⟩ 0 x.length (x.length + 1) with
      | nil => rw [ho] at he; exact absurd he (by simp)
      | cons i r =>
        rw [ho] at h
        have h1 : i + 2 ≤ x.length := h.2.1.1
        (first | lia | omega)
    · unfold Txt.split
      rw [if_neg hc, he, if_neg Bool.false_ne_true]
  · rw [if_pos rfl]
    unfold Txt.split
    split
    · rfl
    · rfl
theorem replace_chk (x : Str) : chk 0 (Txt.replace x ⟨#[40, 41]⟩ ⟨#[]⟩).cps.toList = chk 0 x.cps.toList := by
  rw [replace_pair]
  have h := chk_join (Txt.split x ⟨#[40, 41]⟩) [] 0
  rw [List.nil_append, List.nil_append, StrLaws.join_split] at h
  exact h.symm
end Mine
end
section
open PySem PySem.W PyProof.Rows
open Builtin Builtin.Str
namespace Mine
theorem join_len2 : ∀ ps : List Str, (Str.join ⟨#[40, 41]⟩ ps).cps.toList.length = (Str.join ⟨#[]⟩ ps).cps.toList.length + 2 * (ps.length - 1)
  | [] => rfl
  | [p] => by simp [Str.join]
  | p :: q :: r => by
    have ih := join_len2 (q :: r)
    show (p ++ ⟨#[40, 41]⟩ ++ Str.join ⟨#[40, 41]⟩ (q :: r)).cps.toList.length = (p ++ ⟨#[]⟩ ++ Str.join ⟨#[]⟩ (q :: r)).cps.toList.length + _
    simp only [Str.cps_append, Array.toList_append, List.length_append, ih, List.length_cons]
    simp
    (first | lia | omega)
theorem not_in_nopair {x : Str} (h : (occurrences x ⟨#[40, 41]⟩ 0 x.length 1).isEmpty = true) : NoPair x.cps.toList := by
  intro a b e
  have hno : ¬ ∃ i, i + (⟨#[40, 41]⟩ : Str).length ≤ x.length ∧ subAt x ⟨#[40, 41]⟩ i = true := by
    rw [← StrLaws.found_iff, h]; simp
  refine hno ⟨a.length, ?_, ?_⟩
  · have : x.length = x.cps.toList.length := by simp [Str.length]
    rw [this, e]
    show a.length + 2 ≤ _
    simp
  · rw [StrLaws.subAt_eq, e]
    simp
    rfl
theorem in_shorter {x : Str} (h : (occurrences x ⟨#[40, 41]⟩ 0 x.length 1).isEmpty = false) : (Txt.replace x ⟨#[40, 41]⟩ ⟨#[]⟩).length < x.length := by
  have hf : ∃ i, i + (⟨#[40, 41]⟩ : Str).length ≤ x.length ∧ subAt x ⟨#[40, 41]⟩ i = true := by
    rw [← StrLaws.found_iff, h]; rfl
  have h2 : (⟨#[40, 41]⟩ : Str).length = 2 := rfl
  have hp : 2 ≤ (Txt.split x ⟨#[40, 41]⟩).length := by
    unfold Txt.split
    have hk : ¬ (strKind x < strKind ⟨#[40, 41]⟩) := by
      have e : strKind ⟨#[40, 41]⟩ = 1 := by decide +kernel
      rw [e]
      unfold Builtin.Str.strKind
      split
      · decide
      · split <;> decide
    obtain ⟨i, hi, hs⟩ := hf
    have hl : ¬ x.length < (⟨#[40, 41]⟩ : Str).length := by (first | lia | omega)
    rw [if_neg (by simp [hk, hl])]
    have hne : ¬ (occurrences x ⟨#[40, 41]⟩ 0 x.length (x.length + 1)).isEmpty = true := by
      intro he
      have hh := StrLaws.occ_head x ⟨#[40, 41]⟩ (x.length + 1) (by (first | lia | omega))
      rcases hh with ⟨_, hn⟩ | ⟨j, r, ho, _⟩
      · exact hn i ⟨hi, hs⟩
      · rw [ho] at he; simp at he
    rw [if_neg hne, length_partsBetween]
    cases ho : occurrences x ⟨#[40, 41]⟩ 0 x.length (x.length + 1) with
    | nil => rw [ho] at hne; simp at hne
    | cons _ _ => simp
  rw [replace_pair]
  have e := join_len2 (Txt.split x ⟨#[40, 41]⟩)
  rw [StrLaws.join_split] at e
  simp only [Str.length, ← Array.length_toList]
  (first | lia | omega)
end Mine
end
section
open PySem PySem.W PyProof.Rows
namespace Mine
noncomputable def items : Nat → Bool → List Nat → List (Nat × List Nat)
  | _, false, [] => []
  | p, true, [] => [(p - 1, [92])]
  | p, false, c :: r => if c = 92 then items (p + 1) true r else (p, [c]) :: items (p + 1) false r
  | p, true, c :: r => (p, [92, c]) :: items (p + 1) false r
noncomputable def outs : Bool → Bool → List Nat → List Nat
  | _, _, [] => []
  | true, q, c :: r => (if q then [] else [c]) ++ outs false q r
  | false, q, c :: r => if c = 92 then (if q then [] else [c]) ++ outs true q r else if c = 34 then outs false (!q) r else (if q then [] else [c]) ++ outs false q r
noncomputable def flags : Bool → Bool → List Nat → Bool × Bool
  | e, q, [] => (e, q)
  | true, q, _ :: r => flags false q r
  | false, q, c :: r => if c = 92 then flags true q r else if c = 34 then flags false (!q) r else flags false q r
theorem outs_append : ∀ (a b : List Nat) (e q : Bool), outs e q (a ++ b) = outs e q a ++ outs (flags e q a).1 (flags e q a).2 b
  | [], b, e, q => by cases e <;> rfl
  | c :: r, b, true, q => by simp only [List.cons_append, outs, flags, outs_append r b false q, List.append_assoc]
  | c :: r, b, false, q => by
    simp only [List.cons_append, outs, flags]
    split
    · rw [outs_append r b true q, List.append_assoc]
    · split
      · rw [outs_append r b false (!q)]
      · rw [outs_append r b false q, List.append_assoc]
theorem flags_append : ∀ (a b : List Nat) (e q : Bool), flags e q (a ++ b) = flags (flags e q a).1 (flags e q a).2 b
  | [], b, e, q => by cases e <;> rfl
  | c :: r, b, true, q => by simp only [List.cons_append, flags, flags_append r b false q]
  | c :: r, b, false, q => by
    simp only [List.cons_append, flags]
    split
    · rw [flags_append r b true q]
    · split
      · rw [flags_append r b false (!q)]
      · rw [flags_append r b false q]
end Mine
end
section
open PySem PySem.W PyProof.Rows
namespace Mine
noncomputable abbrev S (x : String) : Str := Str.ofString x
inductive Cl
  | start (t : Str) (ps : List (Str × Str))
  | fin (t : Str)
  | comment (t : Str)
  | data (t : Str)
noncomputable abbrev texts10 : List Str := [S "(", S ")", S "<", S "&", S "\\(", S "\"(\"", S "\">)\"", S "\\\\", S "\r", S "c"]
noncomputable abbrev values8 : List Str := [S "(", S ")\"", S "&", S "\\\"(", S "v", S "<\t", S ">", S "\\\\"]
noncomputable def PairsOk (ps : List (Str × Str)) : Prop := ps = [] ∨ (∃ v ∈ values8, ps = [(S "m", v)]) ∨ ∃ v ∈ values8, ∃ u ∈ values8, ps = [(S "m", v), (S "k", u)]
noncomputable def igOf : List Str → Nat
  | [] => 0
  | t :: ts => if t = S "x" ∨ 0 < igOf ts then igOf ts + 1 else 0
inductive Goes : List Str → Cl → List Str → Prop
  | start {ts : List Str} {t : Str} {ps : List (Str × Str)} (h : ts ≠ []) (hl : ts.length < 5) (ht : t = S "a" ∨ t = S "b" ∨ t = S "x") (hp : PairsOk ps) : Goes ts (.start t ps) (t :: ts)
  | fin {ts : List Str} {t : Str} : Goes (t :: ts) (.fin t) ts
  | comment {ts : List Str} {t : Str} (h : ts ≠ []) (ht : t ∈ texts10) : Goes ts (.comment t) ts
  | data {ts : List Str} {t : Str} (h : ts ≠ []) (ht : t ∈ texts10) : Goes ts (.data t) ts
inductive GoesAll : List Str → List Cl → List Str → Prop
  | nil {ts : List Str} : GoesAll ts [] ts
  | snoc {ts ts' ts'' : List Str} {cs : List Cl} {c : Cl} (h : GoesAll ts cs ts') (hc : Goes ts' c ts'') : GoesAll ts (cs ++ [c]) ts''
theorem snoc_inj {α : Type} {a b : List α} {x y : α} (h : a ++ [x] = b ++ [y]) : a = b ∧ x = y := by
  have := List.append_inj' h rfl
  exact ⟨this.1, by simpa using this.2⟩
theorem goesAll_split {ts ts'' : List Str} {b : List Cl} : ∀ {a : List Cl}, GoesAll ts (a ++ b) ts'' → ∃ ts', GoesAll ts a ts' ∧ GoesAll ts' b ts'' := by
  intro a h
  generalize e : a ++ b = l at h
  induction h generalizing b with
  | nil =>
    have := List.append_eq_nil_iff.mp e
    rw [this.1, this.2]; exact ⟨_, .nil, .nil⟩
  | snoc h hc ih =>
    rcases List.eq_nil_or_concat b with rfl | ⟨b', x, rfl⟩
    · rw [List.append_nil] at e; subst e; exact ⟨_, h.snoc hc, .nil⟩
    · rw [List.concat_eq_append, ← List.append_assoc] at e
      obtain ⟨e1, e2⟩ := snoc_inj e
      subst e2
      obtain ⟨t1, h1, h2⟩ := ih e1
      exact ⟨t1, h1, by rw [List.concat_eq_append]; exact h2.snoc hc⟩
noncomputable def Lawful (cs : List Cl) : Prop := ∃ r, cs = Cl.start (S "r") [] :: r ∧ GoesAll [S "r"] r []
noncomputable def inOrder : List (Str × Str) → List (Str × Str)
  | [p, q] => [q, p]
  | l => l
structure Due where
  whole : Str
  left : Str
  row : Str
  ig : Nat
noncomputable def due0 : Due := ⟨S "", S "", S "", 0⟩
noncomputable def attrW (p : Str × Str) : Str := S " " ++ p.1 ++ S "=\"" ++ escA p.2 ++ S "\""
noncomputable def attrL (p : Str × Str) : Str := S " " ++ p.1 ++ S "="
noncomputable def cat (l : List Str) : Str := l.foldl (· ++ ·) (S "")
noncomputable def shownOf (t : Str) : Str := if t.cps[0]? = some 34 then S "" else escT t
noncomputable def rowOf (t : Str) : Str := if t = S "(" ∨ t = S ")" then t else S ""
noncomputable def Due.step (cm : Bool) (d : Due) : Cl → Due
  | .start t ps => if t = S "x" ∨ 0 < d.ig then { d with ig := d.ig + 1 } else { d with whole := d.whole ++ S "<" ++ t ++ cat ((inOrder ps).map attrW) ++ S ">", left := d.left ++ S "<" ++ t ++ cat ((inOrder ps).map attrL) ++ S ">" }
  | .fin t => if 0 < d.ig then { d with ig := d.ig - 1 } else { d with whole := d.whole ++ S "</" ++ t ++ S ">", left := d.left ++ S "</" ++ t ++ S ">" }
  | .comment t => if d.ig = 0 ∧ cm = true then { d with whole := d.whole ++ S "<!--" ++ escT t ++ S "-->", left := d.left ++ S "<!--" ++ shownOf t ++ S "-->", row := d.row ++ rowOf t } else d
  | .data t => if d.ig = 0 then { d with whole := d.whole ++ escT t, left := d.left ++ shownOf t, row := d.row ++ rowOf t } else d
noncomputable def due (cm : Bool) (cs : List Cl) : Due := cs.foldl (Due.step cm) due0
theorem due_snoc (cm : Bool) (cs : List Cl) (c : Cl) : due cm (cs ++ [c]) = (due cm cs).step cm c := by simp [due]
end Mine
end
section
open PySem PySem.W PyProof.Rows PySem.Calls
namespace Mine
noncomputable def bndObj (id : String) (self : Value) : Obj := { cls := .type "builtin_function_or_method", data := .fields #[.builtin id, self] }
noncomputable def BndAt (x : Addr) (id : String) (self : Value) (h : Heap) : Prop := h.get? x = some (bndObj id self)
theorem keeps_B {M : Model} {x : Addr} {id : String} {self : Value} (h : Heap) (X : BndAt x id self h) : ∃ k, (k = Keeper.frame ∨ k = Keeper.machine ∨ k = Keeper.boundFrame) ∧ Looks M h (keeperOf (.ref x)) k := by
  refine ⟨.machine, .inr (.inl rfl), (Looks.ld (part := none) X).andThen ?_⟩
  exact .now
theorem sig_la : Manifest.signature? "list.append" = some ⟨.oneArg, "list.append", "append", .self, [⟨"object", .posOnly, true⟩]⟩ := by
  rw [signature?_of (id := "list.append") (n := ['d', 'n', 'e', 'p', 'p', 'a']) (o := ['t', 's', 'i', 'l']) (by kernel_rfl) F.owner_list]; kernel_rfl
theorem sig_sj : Manifest.signature? "str.join" = some ⟨.oneArg, "str.join", "join", .self, [⟨"iterable", .posOnly, true⟩]⟩ := by
  rw [signature?_of (id := "str.join") (n := ['n', 'i', 'o', 'j']) (o := ['r', 't', 's']) (by kernel_rfl) F.owner_str]; kernel_rfl
theorem kind_la : builtinKind "list.append" = some .method := by first | kernel_rfl | decide +kernel
theorem kind_sj : builtinKind "str.join" = some .method := by first | kernel_rfl | decide +kernel
theorem nomod_list : isSubtype (.type "list") (.type "module") = pure false := by rw [isSubtype_type]; kernel_rfl
theorem nomod_str : isSubtype (.type "str") (.type "module") = pure false := by rw [isSubtype_type]; kernel_rfl
section
variable {prog : Program} {w : World} {M : Model} {A : Around} {E : Value → Shared → Prop} {s : Shared} {h₀ : Heap} {L D x : Addr} {m : Str → Option Value} {news news' : List (Addr × Obj)}
theorem chk_la {v : Value} {its : Array Value} {n : Nat} {Q : Unit → Shared → Prop} (ho : s.heap.get? D = some (W.listOf its n)) (h : Q () s) : wpAny M A (checkBoundCall "list.append" ⟨[.ref D, v], []⟩) Q E s := by
  unfold checkBoundCall
  simp only [sig_la, kind_la]
  refine KFB.if_not (by decide) ?_
  have hT : s.TypeIs (.ref D) "list" := ⟨_, ho, rfl⟩
  refine wpAny_bind (wpAny_isInstance hT nomod_list ?_)
  refine KFB.if_not (by decide +kernel) ?_
  obtain ⟨hp, g, d, t, os⟩ := s
  refine wpAny_bind (m := isType (.ref D)) (ks_wpAny_isType_inst ho (by intro c; exact nofun) ?_)
  refine KFB.if_not (c := false) rfl ?_
  refine wpAny_bind (wpAny_typeOf hT ?_)
  refine wpAny_of_eq (a := ()) (by kernel_rfl) h
theorem chk_sj {v : Value} {y : Str} {u : Tok} {Q : Unit → Shared → Prop} (h : Q () s) : wpAny M A (checkBoundCall "str.join" ⟨[.str y u, v], []⟩) Q E s := by
  unfold checkBoundCall
  simp only [sig_sj, kind_sj]
  refine KFB.if_not (by decide) ?_
  have hT : s.TypeIs (.str y u) "str" := typeIs_str _ _ _
  refine wpAny_bind (wpAny_isInstance hT nomod_str ?_)
  refine KFB.if_not (by decide +kernel) ?_
  refine wpAny_bind (m := isType (.str y u)) (wpAny_of_eq (a := false) (by rfl) ?_)
  refine KFB.if_not (c := false) rfl ?_
  refine wpAny_bind (wpAny_typeOf hT ?_)
  refine wpAny_of_eq (a := ()) (by kernel_rfl) h
theorem quiet_la {as : Args} : (Code.builtin "list.append" as).quiet = true := Code.quiet_builtin _ (by decide +kernel)
theorem quiet_sj {as : Args} : (Code.builtin "str.join" as).quiet = true := Code.quiet_builtin _ (by decide +kernel)
theorem callB {id : String} {self v : Value} {Q : Value → Shared → Prop} (ho : BndAt x id self s.heap)
    (h : wpAny (model prog w) A.in1 (checkBoundCall id ⟨[self, v], []⟩) (fun _ s₁ => (Code.builtin id ⟨[self, v], []⟩).quiet = true ∧ codeAny (model prog w) A (.builtin id ⟨[self, v], []⟩) (wants Q E) s₁) E s) : wpAny (model prog w) A (call (.ref x) [v]) Q E s := by
  refine wpAny_call (codeAny_of_tree ?_)
  show wpAny _ A.in1 (callAny (.ref x) ⟨[v], []⟩) _ _ s
  simp only [callAny]
  refine wpAny_bind (wpAny_load ho ?_)
  simp only [bndObj, show (Value.type "builtin_function_or_method" == Value.type "method" || Value.type "builtin_function_or_method" == Value.type "builtin_function_or_method" || Value.type "builtin_function_or_method" == Value.type "method-wrapper") = true by decide, if_true]
  refine KFB.if_so (by decide) ?_
  refine wpAny_bind (wpAny_mono h (fun _ s₁ h₁ => ?_) fun _ _ x => x)
  exact wpAny_bind (wpAny_pure (wpAny_pure h₁))
theorem append_B {l : List Value} {n : Nat} {v : Value} {Q : Value → Shared → Prop} (F : Fr h₀ L s.heap m) (N : News h₀ L s.heap news) (hx : (x, bndObj "list.append" (.ref D)) ∈ news) (U : Upd D (W.listOf (List.toArray l) n) (W.listOf (List.toArray (l ++ [v])) (n + 1)) news news') (hsz : l.length ≤ 1000000)
    (h : ∀ h', Fr h₀ L h' m → News h₀ L h' news' → Q .none { s with heap := h' }) : wpAny (model prog w) A (call (.ref x) [v]) Q E s := by
  obtain ⟨pre, post, rfl, rfl, a, b⟩ := U.split
  have z := N (D, W.listOf (List.toArray l) n) (List.mem_append.mpr (.inr (.head _)))
  have hz : (List.toArray l).size ≤ sizeLine := by rw [List.size_toArray, sizeLine_eq]; (first | lia | omega)
  refine callB (N.get hx) (chk_la z.1 ⟨quiet_la, codeAny_builtin PySem.F.entry_list_append ?_⟩)
  show wpAny _ _ (updateSeq D (·.push v) >>= fun _ => ret .none) _ _ s
  refine wpAny_bind ?_
  refine wpAny_updateSeq z.1 rfl (wpAny_pure ?_)
  refine h _ (F.change (Heap.SameBut.update ..) z.2.1 z.2.2) (news_set N a b (Heap.SameBut.update ..) ?_)
  rw [Heap.get?_update_self _ z.1 (by rw [mapSeq_push]; rfl), mapSeq_push]
  show some (W.listOf ((List.toArray l).push v) (n + 1)) = _
  rw [List.push_toArray]
theorem join_B {y : Str} {u : Tok} {l : List (Str × Tok)} {texts : List Str} {Q : Value → Shared → Prop} (hx : s.heap.get? x = some (bndObj "str.join" (.str y u))) (hl : s.heap.IsList D (strValues l).toArray) (ht : l.map (·.1) = texts) (hok : JoinOk y texts = true) (h0 : 0 < s.toks)
    (hq : ∀ t' k, 0 < k → Q (.str (Txt.join y texts) t') { s with toks := k }) : wpAny (model prog w) A (call (.ref x) [.ref D]) Q E s := by
  subst ht
  unfold JoinOk at hok
  rw [Bool.not_eq_true'] at hok
  refine wpAny_with_toks (n := 1) h0 ?_
  refine callB hx (chk_sj ⟨quiet_sj, codeAny_builtin PySem.F.entry_str_join ?_⟩)
  have := meets_str_join_list y u D l hok prog w A (wants (fun v s' => 1 ≤ s'.toks → Q v s') (fun e s' => 1 ≤ s'.toks → E e s')) s ⟨hl, post_join l ⟨joinFit_length hok, fun t' k h1 => hq t' k h1⟩⟩
  rw [Around.under_plainId (by decide +kernel)]
  exact this
theorem BndAt.of {x : Addr} {id : String} {self : Value} {h : Heap} (N : News h₀ L h news) (hm : (x, bndObj id self) ∈ news) : BndAt x id self h := N.get hm
theorem BndAt.ofK {K : Frag} {x : Addr} {id : String} {self : Value} {h : Heap} (F : Fr h₀ L h m) (X : K.In h₀) (e : List.lookup x K = some (bndObj id self)) : BndAt x id self h := X.keeps F.keep _ _ e
theorem callWith_B {pos : Pos} {id : String} {self : Value} {first : List Value} {env : Env} {e : PySem.Expr} {rest : List PySem.Expr} {Q : Value → Shared → Prop} (_hb : BndAt x id self s.heap)
    (h : wpAny M A (spliced (backTo pos (starEach (e :: rest) env))) (fun vs s₁ => BndAt x id self s₁.heap ∧ wpAny M A (call (.ref x) (first ++ vs)) Q E s₁) E s)
    (he : starEach (e :: rest) env = (false, eval e env) :: starEach rest env := by rfl) (hplain : (backTo pos (starEach rest env)).any (·.1) = false := by rfl) :
    wpAny M A (callWith pos (.ref x) first (backTo pos (starEach (e :: rest) env)) []) Q E s := by
  rw [he] at h ⊢
  exact callWith_of (by show ((false || (backTo pos (starEach rest env)).any (·.1)) || false) = false; rw [hplain]; rfl) (P := BndAt x id self) keeps_B (evalArgs_plain h)
theorem sel_all (n k : Nat) (h : k < n) : Builtin.Bytes.selects 0 (n : Int) 1 k = true := by
  unfold Builtin.Bytes.selects
  simp only [show (1 : Int) > 0 by decide, if_true, Bool.and_eq_true, decide_eq_true_eq, beq_iff_eq]
  refine ⟨⟨by (first | lia | omega), by (first | lia | omega)⟩, by (first | lia | omega)⟩
theorem del_none (l : List Value) : l.zipIdx.filterMap (fun p => if Builtin.Bytes.selects 0 (l.length : Int) 1 p.2 = true then none else some p.1) = [] := by
  rw [List.filterMap_eq_nil_iff]
  intro p hp
  have := List.mem_zipIdx hp
  rw [if_pos (sel_all _ _ (by (first | lia | omega)))]
theorem upd_to {f : Array Value → Array Value} {l : List Value} {n : Nat} {Q : Unit → Shared → Prop} (hD : s.heap.get? D = some (W.listOf (List.toArray l) n)) (hf : f (List.toArray l) = List.toArray []) (hz : (List.toArray l).size ≤ sizeLine)
    (h : ∀ h' n', Heap.SameBut D s.heap h' → h'.get? D = some (W.listOf (List.toArray []) n') → Q () { s with heap := h' }) : wpAny (model prog w) A (Builtin.List.listUpdate (.ref D) f) Q E s := by
  show wpAny _ _ (updateSeq D f) _ _ _
  have em : Obj.mapSeq f (W.listOf (List.toArray l) n) = W.listOf (List.toArray []) (if (List.toArray ([] : List Value)).size == (List.toArray l).size then n else n + 1) := by
    simp only [W.listOf, Obj.mapSeq, hf]
  have hz2 : (f (List.toArray l)).size ≤ sizeLine + 1 := by rw [hf]; exact Nat.zero_le _
  refine wpAny_updateSeq hD rfl (h _ (if (List.toArray ([] : List Value)).size == (List.toArray l).size then n else n + 1) (Heap.SameBut.update ..) ?_) hz hz2
  rw [Heap.get?_update_self _ hD (by rw [em]; rfl), em]
theorem del_all0 {sl : Addr} {l : List Value} {n : Nat} {Q : Unit → Shared → Prop} (hD : s.heap.get? D = some (W.listOf (List.toArray l) n)) (hs : s.heap.IsSliceOf sl .none .none .none) (hsz : l.length ≤ 1000000)
    (h : ∀ h' n', Heap.SameBut D s.heap h' → h'.get? D = some (W.listOf (List.toArray []) n') → Q () { s with heap := h' }) : wpAny (model prog w) A (delItem (.ref D) (.ref sl)) Q E s := by
  obtain ⟨os, hos, hcs, hds⟩ := id hs
  have hTs : s.TypeIs (.ref sl) "slice" := ⟨os, hos, hcs⟩
  have hT : s.TypeIs (.ref D) "list" := ⟨_, hD, rfl⟩
  have hz : (List.toArray l).size ≤ sizeLine := by rw [List.size_toArray, sizeLine_eq]; (first | lia | omega)
  refine wpAny_delItem_slot hT (by decide) PySem.F.slot_list_delitem (wpAny_call_entry PySem.F.slot_list_delitem hT PySem.F.entry_list_delitem ?_ (PySem.F.args_list_delitem_2 _ _))
  unfold Builtin.«list.__delitem__»
  refine wpAny_bind (wpAny_of_eq (a := (.ref D, [.ref sl])) (by rfl) ?_)
  dsimp only
  refine wpAny_bind ?_
  unfold Builtin.List.listSubscript?
  refine wpAny_bind (wpAny_specialOf hTs slice_no_index ?_)
  simp only [Option.isNone_none, if_true]
  refine wpAny_pure ?_
  show wpAny _ _ (typeOf (.ref sl) >>= _) _ _ s
  refine wpAny_bind (wpAny_typeOf hTs ?_)
  rw [if_neg (by decide)]
  rw [listSliceParts_eq]
  refine wpAny_bind (wpAny_bind (wpAny_field hos hds (x := .none) rfl (wpAny_bind (wpAny_listPart .none ?_))))
  rw [if_neg (by decide)]
  refine wpAny_bind (wpAny_field hos hds (x := .none) rfl (wpAny_bind (wpAny_listPart .none ?_)))
  refine wpAny_bind (wpAny_field hos hds (x := .none) rfl (wpAny_bind (wpAny_listPart .none (wpAny_pure ?_))))
  refine wpAny_bind (m := Builtin.List.listItems (.ref D)) ?_
  unfold Builtin.List.listItems
  refine wpAny_bind (wpAny_seqItems hD rfl (wpAny_pure ?_))
  refine wpAny_bind (wpAny_of_eq (sliceIndices_raw none none none (List.toArray l).size (by decide)) ?_)
  have sb : sliceBounds none none none (List.toArray l).size = (0, ((List.toArray l).size : Int), 1) := by first | rfl | simp [sliceBounds]
  simp only [sb]
  refine wpAny_bind (wpAny_rule ?_)
  refine wpAny_bind ?_
  refine upd_to (f := _) hD ?_ hz fun h' n' hs ho' => ?_
  · exact congrArg List.toArray (del_none l)
  · exact wpAny_bind (wpAny_letGo (wpAny_pure ⟨_, rfl, h h' n' hs ho'⟩))
theorem del_all {l : List Value} {n : Nat} {Q : Unit → Shared → Prop} {g : Obj → List (Addr × Obj)} (F : Fr h₀ L s.heap m) (N : News h₀ L s.heap news) (U : UpdF D (W.listOf (List.toArray l) n) news g) (hsz : l.length ≤ 1000000)
    (h : ∀ h' n', Fr h₀ L h' m → News h₀ L h' (g (W.listOf (List.toArray []) n')) → Q () { s with heap := h' }) :
    wpAny (model prog w) A (delItem (.ref D) (.ref s.heap.objs.size)) Q E { s with heap := s.heap.push { cls := .type "slice", data := .fields #[.none, .none, .none] } } := by
  obtain ⟨pre, post, rfl, hg, a, b⟩ := U.split
  have N1 : News h₀ L (s.heap.push { cls := .type "slice", data := .fields #[.none, .none, .none] }) (pre ++ (D, W.listOf (List.toArray l) n) :: post) := N.grown fun _ _ e => Heap.get?_push_of_some _ e
  have hm := N1 (D, _) (List.mem_append_right _ (.head _))
  refine del_all0 hm.1 (Heap.IsSliceOf.new ..) hsz ?_
  intro h' n' hs ho'
  exact h h' n' ((F.push _).change hs hm.2.1 hm.2.2) (hg _ ▸ N1.setIn a b hs ho')
theorem truthy_yes {x : Str} {t : Tok} {Q : Bool → Shared → Prop} (h1 : 0 < x.length) (h2 : x.length ≤ 10000) (h : Q true { s with toks := s.toks + 1 + 1 }) : wpAny (model prog w) A (PySem.truthy (.str x t)) Q E s :=
  P.truthy_str (by (first | lia | omega)) (by rw [show ((x.length : Int) != 0) = true from bne_iff_ne.mpr (by (first | lia | omega))]; exact h)
end
end Mine
end
section
open PySem PySem.W PyProof.Rows PySem.Calls
namespace Mine
theorem flat_len {f : Nat → List Nat} {k : Nat} (hf : ∀ c, (f c).length ≤ k) : ∀ l : List Nat, (l.flatMap f).length ≤ k * l.length
  | [] => by simp
  | c :: r => by
    have h1 := hf c
    have h2 := flat_len hf r
    rw [List.flatMap_cons, List.length_append, List.length_cons, Nat.mul_succ, Nat.add_comm]
    exact Nat.add_le_add h2 h1
theorem escT_len (x : Str) : (escT x).length ≤ 6 * x.length := by
  have h := flat_len (f := escC) (k := 6) (fun c => by unfold escC; (repeat' split) <;> simp) x.cps.toList
  have e : (escT x).length = (x.cps.toList.flatMap escC).length := by unfold escT PySem.Str.length; simp
  have e2 : x.length = x.cps.toList.length := by unfold PySem.Str.length; simp
  rw [e, e2]; exact h
section
variable {prog : Program} {w : World} {M : Model} {A : Around} {E : Value → Shared → Prop} {s : Shared} {h₀ : Heap} {L D x : Addr} {m : Str → Option Value} {news news' : List (Addr × Obj)}
theorem truthy_L {l : List Value} {n : Nat} {b : Bool} {Q : Bool → Shared → Prop} (N : News h₀ L s.heap news) (hm : (D, W.listOf (List.toArray l) n) ∈ news) (hb : (!l.isEmpty) = b) (hz : l.length ≤ 100000)
    (h : Q b { s with toks := s.toks + 1 + 1 }) : wpAny (model prog w) A (truthy (.ref D)) Q E s := by
  have hl : s.heap.IsList D (List.toArray l) := News.isList N hm
  refine wpAny_truthy_list hl (n_63 hz) ?_
  rw [show (!(List.toArray l).isEmpty) = b by rw [← hb]; simp]; exact h
theorem last_app (p : List Value) (y : Value) : kl_last (p ++ [y]) = some (p, y) := by
  induction p with
  | nil => rfl
  | cons a r ih =>
    cases r with
    | nil => rfl
    | cons b r' =>
      show kl_last (a :: b :: (r' ++ [y])) = _
      unfold kl_last
      have ih' : kl_last (b :: (r' ++ [y])) = some (b :: r', y) := ih
      rw [ih']
theorem pop_L {p : List Value} {y : Value} {n : Nat} {Q : Value → Shared → Prop} (F : Fr h₀ L s.heap m) (N : News h₀ L s.heap news) (U : Upd D (W.listOf (List.toArray (p ++ [y])) n) (W.listOf (List.toArray p) (n + 1)) news news') (hz : p.length ≤ 1000000)
    (h : ∀ h', Fr h₀ L h' m → News h₀ L h' news' → Q y { s with heap := h' }) : wpAny (model prog w) A (call (.builtin "list.pop") [.ref D]) Q E s :=
  kl_pop (its := List.toArray (p ++ [y])) F N (by rw [List.toList_toArray]; exact last_app p y) U (by rw [List.toList_toArray, List.length_append, sizeLine_eq]; simp only [List.length_cons, List.length_nil]; (first | lia | omega)) h
theorem len_L {l : List Value} {n : Nat} {Q : Value → Shared → Prop} (N : News h₀ L s.heap news) (hm : (D, W.listOf (List.toArray l) n) ∈ news) (hz : l.length ≤ 100000)
    (h : ∀ t, Q (.int (l.length : Int) t) { s with toks := s.toks + 1 + 1 }) : wpAny (model prog w) A (call (.builtin "len") [.ref D]) Q E s := by
  have hl : s.heap.IsList D (List.toArray l) := News.isList N hm
  refine len_list hl (n_63 hz) ?_
  rw [List.size_toArray]
  exact h _
end
end Mine
end
section
open PySem PySem.W PyProof.Rows PySem.Calls
namespace Mine
noncomputable abbrev byText (w : World) : Bool := w.params.followText "set-order"
noncomputable def TSet (prog : Program) (w : World) (o : Obj) (vals : List Value) : Prop :=
  o.ExactSet ∧ ∃ es ep t, o.data = .set es ep t ∧ ElemsOf (strKind prog w) es.toList ∧ (es.toList.map (·.2)).Perm vals ∧ t.fits es.size = true ∧ t.led = !byText w ∧ (vals ≠ [] → t.plain = false) ∧ 7 ≤ t.mask ∧ t.dummies = #[]
theorem tset_fresh {prog : Program} {w : World} : TSet prog w { cls := .type "set", dict := none, data := .set #[] 0 (.fresh 0 0 (!byText w)) } [] :=
  ⟨⟨rfl, rfl, rfl⟩, #[], 0, _, rfl, fun e he => by simp at he, by simp, by rfl, rfl, fun h => absurd rfl h, Nat.le_refl 7, rfl⟩
theorem put_keeps (t : SetTable) (j : Nat) : (t.put j).1.led = t.led ∧ (t.put j).1.plain = t.plain ∧ (t.put j).1.mask = t.mask := by
  unfold SetTable.put
  simp
theorem layNew_keeps (t : SetTable) (es : Array (Int × Value)) (h : Int) (x : Value) (hm : 7 ≤ t.mask) (hd : t.dummies = #[]) :
    (layNew t es h x).2.1.led = t.led ∧ 7 ≤ (layNew t es h x).2.1.mask ∧ (layNew t es h x).2.1.dummies = #[] ∧ ((layNew t es h x).2.1.plain = t.plain ∨ (layNew t es h x).2.1.plain = false) := by
  unfold layNew
  split
  · rename_i slot wd _
    have hp : (t.put slot).1.dummies = #[] := by
      unfold SetTable.put
      simp only [hd]
      have : SetTable.has #[] slot = false := by rfl
      rw [this]; rfl
    obtain ⟨k1, k2, k3⟩ := put_keeps t slot
    generalize hq : t.put slot = q at hp k1 k2 k3 ⊢
    obtain ⟨t', p⟩ := q
    dsimp only at hp k1 k2 k3 ⊢
    unfold SetTable.orStandIn
    split
    · exact ⟨k1, by (first | lia | omega), hp, .inl k2⟩
    · refine ⟨k1, ?_, rfl, .inr rfl⟩
      show 7 ≤ 4 * (SetTable.insertAt es p (h, x)).size + 4
      have := (SetTable.insertAt_perm es p (h, x)).length_eq
      simp only [Array.length_toList, Array.size_push] at this
      rw [this]; (first | lia | omega)
  · refine ⟨rfl, ?_, rfl, .inr rfl⟩
    show 7 ≤ 4 * (es.size + 1) + 4
    (first | lia | omega)
theorem not_full {t : SetTable} {n : Nat} (hf : t.fits n = true) (hm : 7 ≤ t.mask) (hd : t.dummies = #[]) (hn : n ≤ 4) : t.tooFull = false := by
  unfold SetTable.fits at hf
  simp only [Bool.and_eq_true, beq_iff_eq, decide_eq_true_eq] at hf
  unfold SetTable.tooFull SetTable.fill
  rw [hd, hf.1]
  simp only [decide_eq_false_iff_not]
  show ¬ (n + 0) * 5 ≥ t.mask * 3
  (first | lia | omega)
section
variable {prog : Program} {w : World} {A : Around} {E : Value → Shared → Prop} {s : Shared}
theorem tset_addH {a : Addr} {o : Obj} {vals : List Value} {x : Str} {u : Tok} {Q : Bool → Shared → Prop} (ho : s.heap.get? a = some o) (hS : TSet prog w o vals) (hn : vals.length ≤ 3) (hx : ∀ v ∈ vals, (strKind prog w).is x v = false)
    (h : ∀ h' o', Heap.SameBut a s.heap h' → h'.get? a = some o' → TSet prog w o' (vals ++ [.str x u]) → Q true { s with heap := h' }) :
    wpAny (model prog w) A (setAddHashed a (.str x u) ((strKind prog w).hash x)) Q E s := by
  obtain ⟨hex, es, ep, t, hd, hel, hpm, hf, hled, hpl, hmk, hdu⟩ := hS
  have hsz : es.size = vals.length := by rw [← hpm.length_eq, List.length_map, Array.length_toList]
  have hkey := strKind_is prog w x u
  have hsc : (Value.str x u).scannable = true := rfl
  have hb : es.size < scanBound := by rw [hsz]; exact Nat.lt_of_le_of_lt hn (by decide)
  unfold setAddHashed setAddHashedIn
  refine wpAny_holding (wpAny_bind (wpAny_setState_of ho hd hf ?_))
  dsimp only
  rw [byScan_of hsc hb hel]
  simp only [↓reduceIte]
  unfold setAddByScan
  refine wpAny_bind ?_
  refine wpAny_bind (wpAny_rule ?_)
  refine wpAny_bind (wpAny_setScan_of hkey ho hd hf hel ?_)
  have hr : List.findIdx? (fun e => (strKind prog w).is x e.2) es.toList = none := by
    rw [List.findIdx?_eq_none_iff]
    intro e he
    exact hx _ (hpm.mem_iff.mp (List.mem_map_of_mem he))
  rw [hr]
  dsimp only
  have hgw : ∀ (b : Bool) {s₁ : Shared} {Q' : Unit → Shared → Prop}, Q' () s₁ → wpAny (model prog w) A (match b with | true => rule "set.scan.the-table-gave-way" | false => pure ()) Q' E s₁ :=
    fun b s₁ Q' hq => by cases b <;> first | exact wpAny_pure hq | exact wpAny_rule hq
  have hperm := layNew_perm t es ((strKind prog w).hash x) (.str x u)
  have hfits := layNew_fits t es ((strKind prog w).hash x) (.str x u)
  have hkeep := layNew_keeps t es ((strKind prog w).hash x) (.str x u) hmk hdu
  generalize hL : layNew t es ((strKind prog w).hash x) (.str x u) = L at hperm hfits hkeep ⊢
  obtain ⟨es1, t1, wasDummy, gave⟩ := L
  dsimp only at hperm hfits hkeep ⊢
  obtain ⟨k1, k2, k3, k4⟩ := hkeep
  rw [Array.toList_push] at hperm
  have hel1 : ElemsOf (strKind prog w) es1.toList := (hel.push hkey hsc).perm hperm
  have hsz1 : es1.size = vals.length + 1 := by rw [← Array.length_toList, hperm.length_eq, List.length_append, Array.length_toList, hsz]; rfl
  have hpm1 : (es1.toList.map (·.2)).Perm (vals ++ [.str x u]) := by
    refine (hperm.map _).trans ?_
    rw [List.map_append]
    exact hpm.append_right _
  refine wpAny_bind (hgw _ ?_)
  have fin : ∀ t2 : SetTable, t2.fits es1.size = true → t2.led = (!byText w) → t2.plain = false → 7 ≤ t2.mask → t2.dummies = #[] →
      wpAny (model prog w) A (do
        storeSet a es1 t2
        if (!wasDummy && t2.tooFull) = true then do
            (match (relayAll t2 es1 (SetTable.grown es1.size)).2.2 with | true => rule "set.scan.the-table-gave-way" | false => pure ())
            storeSet a (relayAll t2 es1 (SetTable.grown es1.size)).1 (relayAll t2 es1 (SetTable.grown es1.size)).2.1
            pure (some true)
          else pure (some true)) (fun r s' => wpAny (model prog w) A (match r with | some added => pure added | none => setAddHashedIn a (.str x u) ((strKind prog w).hash x) 99999) Q E s') E s := by
    intro t2 f1 f2 f3 f4 f5
    refine wpAny_bind (wpAny_storeSet_of ho hd ?_ (by rw [hsz1, sizeLine_eq]; (first | lia | omega)))
    rw [not_full f1 f4 f5 (by (first | lia | omega))]
    simp only [Bool.and_false, Bool.false_eq_true, if_false]
    refine wpAny_pure ?_
    dsimp only
    refine wpAny_pure (h _ { o with data := .set es1 (ep + 1) t2 } (Heap.SameBut.update ..) ?_ ⟨hex, es1, ep + 1, t2, rfl, hel1, hpm1, f1, f2, fun _ => f3, f4, f5⟩)
    have := Heap.get?_update_self (Obj.putSet es1 t2) ho (by rw [putSet_of es1 t2 hd]; rfl)
    rw [putSet_of es1 t2 hd] at this; exact this
  split
  · refine wpAny_bind ?_
    rw [hashByValue_scannable 8 hsc]
    refine wpAny_pure ?_
    exact fin { t1 with plain := false } (SetTable.fits_plain_off hfits) (k1.trans hled) rfl k2 k3
  · rename_i hp0
    refine wpAny_bind (wpAny_pure ?_)
    simp only [↓reduceIte]
    exact fin t1 hfits (k1.trans hled) (by simpa using hp0) k2 k3
end
end Mine
end
section
open PySem PySem.W PyProof.Rows PySem.Calls
namespace Mine
theorem entry_set_iter : entryFor table "set.__iter__" = some Builtin.«frozenset.__iter__» := entryFor_alias (id' := "frozenset.__iter__") (by kernel_rfl) rfl (by decide +kernel) (by kernel_rfl)
theorem entry_seti_next : entryFor table "set_iterator.__next__" = some Builtin.«set_iterator.__next__» := entryFor_of_tree (by kernel_rfl)
theorem slot_seti_next : Slot "set_iterator" "__next__" "set_iterator.__next__" :=
  .of (owner := "set_iterator") (n := "__next__") (by rw [typeLookup_type, builtinLookup_eq_fast]; kernel_rfl) (by decide +kernel) (by decide +kernel) (by decide +kernel)
    (by first | exact .inl (by decide +kernel) | exact .inr (by decide +kernel)) (by rw [isSubtype_type]; kernel_rfl)
theorem args_seti_next (a : Value) : argsOk "set_iterator.__next__" ⟨[a], []⟩ := by
  unfold argsOk; kernel_rfl
theorem slot_seti_iter : Slot "set_iterator" "__iter__" "set_iterator.__iter__" :=
  .of (owner := "set_iterator") (n := "__iter__") (by rw [typeLookup_type, builtinLookup_eq_fast]; kernel_rfl) (by decide +kernel) (by decide +kernel) (by decide +kernel)
    (by first | exact .inl (by decide +kernel) | exact .inr (by decide +kernel)) (by rw [isSubtype_type]; kernel_rfl)
theorem set_len : typeLookup (.type "set") "__len__" = pure (some (.builtin "set.__len__")) := by rw [typeLookup_type, builtinLookup_eq_fast]; kernel_rfl
noncomputable def itObj (first : Value) (i : Nat) (a : Addr) (n ep : Nat) : Obj := { cls := .type "set_iterator", data := .fields #[first, .int i 0, .ref a, .int n 0, .int ep 0] }
theorem erase_perm {α : Type} : ∀ (l : List α) (i : Nat) (hi : i < l.length), (l[i] :: l.eraseIdx i).Perm l
  | [], _, hi => by simp at hi
  | x :: xs, 0, _ => by simp
  | x :: xs, i + 1, hi => by
    have ih := erase_perm xs i (by simpa using hi)
    simp only [List.getElem_cons_succ, List.eraseIdx_cons_succ]
    exact (List.Perm.swap _ _ _).trans (ih.cons x)
theorem pick_go {α : Type} (next : Nat → Nat) : ∀ (fuel k : Nat) (left : List α) (out : Array α), fuel = left.length → (pickOrder.go next fuel k left out).toList.Perm (out.toList ++ left)
  | 0, k, left, out, h => by
    have e : left = [] := List.length_eq_zero_iff.mp h.symm
    subst e
    unfold pickOrder.go
    simp
  | f + 1, k, left, out, h => by
    have hp : 0 < left.length := h ▸ Nat.succ_pos f
    have hi : next k % left.length < left.length := Nat.mod_lt _ hp
    unfold pickOrder.go
    rw [List.getElem?_eq_getElem hi]
    dsimp only
    refine (pick_go next f (k + 1) _ _ (by rw [List.length_eraseIdx, if_pos hi, ← h]; rfl)).trans ?_
    rw [Array.toList_push, List.append_assoc]
    exact (erase_perm left _ hi).append_left _
theorem pick_perm {α : Type} (next : Nat → Nat) (xs : Array α) : (pickOrder next xs).toList.Perm xs.toList := by
  unfold pickOrder
  have := pick_go next xs.size 0 xs.toList #[] (by simp)
  simpa using this
section
variable {prog : Program} {w : World} {A : Around} {E : Value → Shared → Prop} {s : Shared}
theorem choose_wp {src : Source} {n : Nat} {Q : Nat → Shared → Prop} (hn : n ≠ 0) (h : ∀ i d, i < n → Q i { s with drawn := d }) : wpAny (model prog w) A (choose src n) Q E s := fun Γ p hΓ => by
  unfold choose
  rw [Sem.wp_choose]
  exact ⟨hn, h _ _ (Nat.mod_lt _ (Nat.pos_of_ne_zero hn))⟩
theorem drawOrder_wp {α : Type} : ∀ (n : Nat) (xs : List α) (s : Shared) {Q : List α → Shared → Prop}, xs.length = n → (∀ ys d, ys.Perm xs → Q ys { s with drawn := d }) → wpAny (model prog w) A (drawOrder n xs) Q E s
  | 0, xs, s, Q, hl, h => by
    have e : xs = [] := List.length_eq_zero_iff.mp hl
    subst e
    unfold drawOrder
    exact wpAny_pure (h [] s.drawn .nil)
  | n + 1, [], s, Q, hl, h => by simp at hl
  | n + 1, x :: xs, s, Q, hl, h => by
    unfold drawOrder
    refine wpAny_bind (choose_wp (by simp) fun i d hi => ?_)
    rw [List.getElem?_eq_getElem hi]
    dsimp only
    refine wpAny_bind (drawOrder_wp n ((x :: xs).eraseIdx i) { s with drawn := d } ?_ fun ys d' hp => ?_)
    · rw [List.length_eraseIdx, if_pos hi, hl]; rfl
    · refine wpAny_pure (h _ d' ?_)
      refine (hp.cons _).trans ?_
      exact erase_perm _ i hi
theorem it_type {I : Addr} {first : Value} {i : Nat} {a : Addr} {n ep : Nat} (h : s.heap.get? I = some (itObj first i a n ep)) : s.TypeIs (.ref I) "set_iterator" := ⟨_, h, rfl⟩
theorem next_slot {I a : Addr} {k i n ep nx : Nat} {o : Obj} {es : Array (Int × Value)} {t : SetTable} {x : Value} {Q : Option Value → Shared → Prop} (hI : s.heap.get? I = some (itObj (.int k 0) i a n ep))
    (ho : s.heap.get? a = some o) (hd : o.data = .set es ep t) (hf : t.fits es.size = true) (hn : es.size = n)
    (hN : ∀ (A' : Around) (E' : Value → Shared → Prop) (Q' : Option (Value × Nat) → Shared → Prop), Q' (some (x, nx)) s → wpAny (model prog w) A' (setNext a k i ep) Q' E' s)
    (hQ : ∀ h', Heap.SameBut I s.heap h' → h'.get? I = some (itObj (.int nx 0) (i + 1) a n ep) → Q (some x) { s with heap := h' }) : wpAny (model prog w) A (pyNext (.ref I)) Q E s := by
  have hT := it_type hI
  unfold pyNext
  refine wpAny_bind (wpAny_attempt (wpAny_callSpecial?_slot (name := Str.ofString "__next__") hT slot_seti_next
    (wpAny_call_entry slot_seti_next hT entry_seti_next ?_ (args_seti_next _))))
  unfold Builtin.«set_iterator.__next__»
  refine wpAny_bind (wpAny_of_eq (a := (.ref I, [])) (by rfl) ?_)
  dsimp only
  refine wpAny_bind (wpAny_fieldsOf hI rfl ?_)
  dsimp only
  refine wpAny_bind (wpAny_setEntries_of ho hd hf ?_)
  rw [if_neg (by simp [hn])]
  refine wpAny_bind ?_
  show wpAny _ _ (setNext a k i ep) _ _ _
  refine hN _ _ _ ?_
  dsimp only
  refine wpAny_bind (wpAny_setField hI rfl (by simp) ?_)
  have h1 : (s.heap.update I (Obj.mapFields (·.setIfInBounds 0 (rawInt nx)))).get? I = some (itObj (.int nx 0) i a n ep) := by
    have := Heap.get?_update_self (Obj.mapFields (·.setIfInBounds 0 (rawInt nx))) hI (by rfl)
    exact this
  refine wpAny_bind (wpAny_setField h1 rfl (by simp) ?_)
  have h2 := Heap.get?_update_self (Obj.mapFields (·.setIfInBounds 1 (rawInt ((i : Int) + 1)))) h1 (by rfl)
  exact wpAny_pure ⟨_, rfl, wpAny_pure (hQ _ ((Heap.SameBut.update ..).trans (Heap.SameBut.update ..)) h2)⟩
theorem next_drawn {I a T : Addr} {i n ep pl nT : Nat} {o : Obj} {es : Array (Int × Value)} {t : SetTable} {x : Value} {hx : Int} {ps : Array Value} {Q : Option Value → Shared → Prop} (hI : s.heap.get? I = some (itObj (.ref T) i a n ep))
    (hTp : s.heap.get? T = some { cls := .type "tuple", data := .seq ps nT }) (hpl : ps[i]? = some (.int pl 0))
    (ho : s.heap.get? a = some o) (hd : o.data = .set es ep t) (hf : t.fits es.size = true) (hn : es.size = n) (hx : es[pl]? = some (hx, x))
    (hQ : ∀ h', Heap.SameBut I s.heap h' → h'.get? I = some (itObj (.ref T) (i + 1) a n ep) → Q (some x) { s with heap := h' }) : wpAny (model prog w) A (pyNext (.ref I)) Q E s := by
  have hT := it_type hI
  unfold pyNext
  refine wpAny_bind (wpAny_attempt (wpAny_callSpecial?_slot (name := Str.ofString "__next__") hT slot_seti_next
    (wpAny_call_entry slot_seti_next hT entry_seti_next ?_ (args_seti_next _))))
  unfold Builtin.«set_iterator.__next__»
  refine wpAny_bind (wpAny_of_eq (a := (.ref I, [])) (by rfl) ?_)
  dsimp only
  refine wpAny_bind (wpAny_fieldsOf hI rfl ?_)
  dsimp only
  refine wpAny_bind (wpAny_setEntries_of ho hd hf ?_)
  rw [if_neg (by simp [hn])]
  refine wpAny_bind (wpAny_seqItems hTp rfl ?_)
  dsimp only
  have e1 : ps[((i : Nat) : Int).toNat]? = some (.int pl 0) := hpl
  rw [e1]
  dsimp only
  refine wpAny_bind ?_
  show wpAny _ _ (setNextDrawn a pl ep) _ _ _
  unfold setNextDrawn
  refine wpAny_bind (wpAny_setState_of ho hd hf ?_)
  dsimp only
  rw [if_neg (by simp), hx]
  refine wpAny_pure ?_
  refine wpAny_bind (wpAny_setField hI rfl (by simp) ?_)
  have h2 := Heap.get?_update_self (Obj.mapFields (·.setIfInBounds 1 (rawInt ((i : Int) + 1)))) hI (by rfl)
  exact wpAny_pure ⟨_, rfl, wpAny_pure (hQ _ (Heap.SameBut.update ..) h2)⟩
theorem next_stop {I a : Addr} {k i n ep : Nat} {o : Obj} {es : Array (Int × Value)} {t : SetTable} {Q : Option Value → Shared → Prop} (hh : A.handled = none) (hI : s.heap.get? I = some (itObj (.int k 0) i a n ep))
    (ho : s.heap.get? a = some o) (hd : o.data = .set es ep t) (hf : t.fits es.size = true) (hn : es.size = n)
    (hN : ∀ (A' : Around) (E' : Value → Shared → Prop) (Q' : Option (Value × Nat) → Shared → Prop), Q' none s → wpAny (model prog w) A' (setNext a k i ep) Q' E' s)
    (hQ : ∀ h', Heap.ExtBut I s.heap h' → Q none { s with heap := h' }) : wpAny (model prog w) A (pyNext (.ref I)) Q E s := by
  have hT := it_type hI
  unfold pyNext
  refine wpAny_bind (wpAny_attempt (wpAny_callSpecial?_slot (name := Str.ofString "__next__") hT slot_seti_next
    (wpAny_call_entry slot_seti_next hT entry_seti_next ?_ (args_seti_next _))))
  unfold Builtin.«set_iterator.__next__»
  refine wpAny_bind (wpAny_of_eq (a := (.ref I, [])) (by rfl) ?_)
  dsimp only
  refine wpAny_bind (wpAny_fieldsOf hI rfl ?_)
  dsimp only
  refine wpAny_bind (wpAny_setEntries_of ho hd hf ?_)
  rw [if_neg (by simp [hn])]
  refine wpAny_bind ?_
  show wpAny _ _ (setNext a k i ep) _ _ _
  refine hN _ _ _ ?_
  dsimp only
  refine wpAny_bind (wpAny_setField hI rfl (by simp) ?_)
  show wpAny _ _ (newExc (.type "StopIteration") [] >>= _) _ _ _
  refine wpAny_bind ?_
  simp only [newExc, newTuple]
  refine wpAny_bind (wpAny_newObj_type ?_ (by size_fits))
  refine wpAny_bind (m := firstArgMember _ _) (wpAny_of_eq (a := Value.none) (by first | rfl | (simp only [firstArgMember]; rfl)) ?_)
  refine wpAny_newObj_type ?_ (by size_fits)
  simp only [raiseNew]
  refine wpAny_bind (wpAny_handled ?_)
  rw [show A.in1.handled = none from hh]
  refine wpAny_bind (wpAny_pure (wpAny_throw ?_))
  refine wpAny_bind (wpAny_isInstance (T := "StopIteration") (b := true) ⟨_, Heap.get?_push_size _ rfl, rfl⟩ isSubtype_stop ?_)
  exact wpAny_pure (hQ _ (((Heap.SameBut.update ..).extBut.push _).push _))
theorem next_dstop {I a T : Addr} {i n ep nT : Nat} {o : Obj} {es : Array (Int × Value)} {t : SetTable} {ps : Array Value} {Q : Option Value → Shared → Prop} (hh : A.handled = none) (hI : s.heap.get? I = some (itObj (.ref T) i a n ep))
    (hTp : s.heap.get? T = some { cls := .type "tuple", data := .seq ps nT }) (hpl : ps[i]? = none)
    (ho : s.heap.get? a = some o) (hd : o.data = .set es ep t) (hf : t.fits es.size = true) (hn : es.size = n)
    (hQ : ∀ h', Heap.ExtBut I s.heap h' → Q none { s with heap := h' }) : wpAny (model prog w) A (pyNext (.ref I)) Q E s := by
  have hT := it_type hI
  unfold pyNext
  refine wpAny_bind (wpAny_attempt (wpAny_callSpecial?_slot (name := Str.ofString "__next__") hT slot_seti_next
    (wpAny_call_entry slot_seti_next hT entry_seti_next ?_ (args_seti_next _))))
  unfold Builtin.«set_iterator.__next__»
  refine wpAny_bind (wpAny_of_eq (a := (.ref I, [])) (by rfl) ?_)
  dsimp only
  refine wpAny_bind (wpAny_fieldsOf hI rfl ?_)
  dsimp only
  refine wpAny_bind (wpAny_setEntries_of ho hd hf ?_)
  rw [if_neg (by simp [hn])]
  refine wpAny_bind (wpAny_seqItems hTp rfl ?_)
  dsimp only
  have e1 : ps[((i : Nat) : Int).toNat]? = none := hpl
  rw [e1]
  dsimp only
  refine wpAny_bind (wpAny_setField hI rfl (by simp) ?_)
  have h1 : (s.heap.update I (Obj.mapFields (·.setIfInBounds 0 (rawInt 0)))).get? I = some (itObj (.int 0 0) i a n ep) := by
    have := Heap.get?_update_self (Obj.mapFields (·.setIfInBounds 0 (rawInt 0))) hI (by rfl)
    exact this
  refine wpAny_bind (wpAny_setField h1 rfl (by simp) ?_)
  show wpAny _ _ (newExc (.type "StopIteration") [] >>= _) _ _ _
  refine wpAny_bind ?_
  simp only [newExc, newTuple]
  refine wpAny_bind (wpAny_newObj_type ?_ (by size_fits))
  refine wpAny_bind (m := firstArgMember _ _) (wpAny_of_eq (a := Value.none) (by first | rfl | (simp only [firstArgMember]; rfl)) ?_)
  refine wpAny_newObj_type ?_ (by size_fits)
  simp only [raiseNew]
  refine wpAny_bind (wpAny_handled ?_)
  rw [show A.in1.handled = none from hh]
  refine wpAny_bind (wpAny_pure (wpAny_throw ?_))
  refine wpAny_bind (wpAny_isInstance (T := "StopIteration") (b := true) ⟨_, Heap.get?_push_size _ rfl, rfl⟩ isSubtype_stop ?_)
  exact wpAny_pure (hQ _ ((((Heap.SameBut.update ..).trans (Heap.SameBut.update ..)).extBut.push _).push _))
end
end Mine
end
section
open PySem PySem.W PyProof.Rows PySem.Calls
namespace Mine
theorem entry_seti_iter : entryFor table "set_iterator.__iter__" = some Builtin.«dict_keyiterator.__iter__» := entryFor_alias (id' := "dict_keyiterator.__iter__") (by kernel_rfl) rfl (by decide +kernel) (by kernel_rfl)
theorem args_seti_iter (a : Value) : argsOk "set_iterator.__iter__" ⟨[a], []⟩ := by
  unfold argsOk; kernel_rfl
section
variable {prog : Program} {w : World} {A : Around} {E : Value → Shared → Prop} {s : Shared}
theorem snext_text {a : Addr} {o : Obj} {es : Array (Int × Value)} {ep k i : Nat} {t : SetTable} (ho : s.heap.get? a = some o) (hd : o.data = .set es ep t) (hf : t.fits es.size = true) (hb : byText w = true)
    {Q : Option (Value × Nat) → Shared → Prop} (h : Q (((pickOrder (w.params.setOrder a ep) es)[i]?).map fun e => (e.2, k)) s) : wpAny (model prog w) A (setNext a k i ep) Q E s := by
  unfold setNext setsByText
  refine wpAny_bind (wpAny_setState_of ho hd hf ?_)
  dsimp only
  refine wpAny_bind (wpAny_bind (wpAny_askSetting (wpAny_pure ?_)))
  refine KFB.if_so hb ?_
  rw [if_neg (by simp)]
  refine wpAny_bind ?_
  unfold setWalk setsByText
  refine wpAny_bind (wpAny_setState_of ho hd hf ?_)
  dsimp only
  refine wpAny_bind (wpAny_bind (wpAny_askSetting (wpAny_pure ?_)))
  refine KFB.if_so hb ?_
  refine wpAny_bind (wpAny_askSetting (wpAny_pure ?_))
  exact wpAny_pure h
theorem snext_one {a : Addr} {o : Obj} {es : Array (Int × Value)} {ep k i : Nat} {t : SetTable} (ho : s.heap.get? a = some o) (hd : o.data = .set es ep t) (hf : t.fits es.size = true) (hb : byText w = false) (hn : es.size = 1) (hl : t.led = true)
    {Q : Option (Value × Nat) → Shared → Prop} (h : Q (match es[SetTable.below t.place k]?, t.place[SetTable.below t.place k]? with | some (_, x), some j => some (x, j + 1) | _, _ => none) s) : wpAny (model prog w) A (setNext a k i ep) Q E s := by
  unfold setNext setsByText
  refine wpAny_bind (wpAny_setState_of ho hd hf ?_)
  dsimp only
  refine wpAny_bind (wpAny_bind (wpAny_askSetting (wpAny_pure ?_)))
  refine KFB.if_not hb ?_
  show wpAny _ _ (if (!t.plain && decide (es.size > 1)) = true then _ else _) _ _ _
  rw [if_neg (by rw [hn]; simp)]
  obtain ⟨mk, pl, du, fi, le, mo, pln⟩ := t
  simp only at hl
  subst hl
  refine wpAny_bind (wpAny_of_eq (a := ()) (by rfl) ?_)
  exact wpAny_pure h
theorem iter_raw {a : Addr} {o : Obj} {es : Array (Int × Value)} {ep : Nat} {t : SetTable} (hz : es.size ≤ 1000) (ho : s.heap.get? a = some o) (hex : o.ExactSet) (hd : o.data = .set es ep t) (hf : t.fits es.size = true) {Q : Value → Shared → Prop}
    (h1 : (byText w = true ∨ t.plain = true ∨ es.size ≤ 1) → Q (.ref s.heap.objs.size) { s with heap := s.heap.push (itObj (.int 0 0) 0 a es.size ep) })
    (h2 : byText w = false → t.plain = false → 1 < es.size → ∀ (ps : List Nat) d, ps.Perm (List.range es.size) →
      Q (.ref (s.heap.objs.size + 1)) { s with heap := (s.heap.push { cls := .type "tuple", data := .seq (ps.map fun (i : Nat) => rawInt i).toArray }).push (itObj (.ref s.heap.objs.size) 0 a es.size ep), drawn := d }) :
    wpAny (model prog w) A (pyIter (.ref a)) Q E s := by
  have hT : s.TypeIs (.ref a) "set" := ⟨o, ho, hex.1⟩
  refine wpAny_pyIter_slot hT PySem.F.slot_set_iter (wpAny_call_entry PySem.F.slot_set_iter hT entry_set_iter ?_ (PySem.F.args_set_iter_1 _))
  unfold Builtin.«frozenset.__iter__» Builtin.Frozenset.slot0 slotArgs
  simp only [List.isEmpty_nil, Bool.not_true, Bool.false_eq_true, ↓reduceIte, bind_assoc, List.length_nil, bne_self_eq_false]
  unfold Builtin.Frozenset.addrOf Builtin.Frozenset.sizeOf
  refine wpAny_bind (wpAny_pure ?_)
  try dsimp only
  refine wpAny_bind (wpAny_pure ?_)
  refine wpAny_bind (wpAny_bind (wpAny_setEntries_of ho hd hf (wpAny_pure ?_)))
  unfold setDrawn setsByText
  refine wpAny_bind (wpAny_bind (wpAny_setState_of ho hd hf ?_))
  dsimp only
  refine wpAny_bind (wpAny_bind (wpAny_askSetting (wpAny_pure ?_)))
  refine wpAny_pure ?_
  show wpAny _ _ (if (!(byText w) && (!t.plain && decide (es.size > 1))) = true then _ else _) _ _ _
  by_cases hc : (!(byText w) && (!t.plain && decide (es.size > 1))) = true
  · rw [if_pos hc]
    simp only [Bool.and_eq_true, Bool.not_eq_true', decide_eq_true_eq] at hc
    refine wpAny_bind (drawOrder_wp es.size (List.range es.size) s (by simp) fun ps d hp => ?_)
    have hl : ps.length = es.size := by rw [hp.length_eq, List.length_range]
    simp only [newTuple]
    refine wpAny_bind (wpAny_newObj_type ?_ (by show (List.map (fun (i : Nat) => rawInt i) ps).toArray.size ≤ sizeLine; rw [List.size_toArray, List.length_map, hl, sizeLine_eq]; (first | lia | omega)))
    refine wpAny_bind (wpAny_setEpoch_of (Heap.get?_push_of_some _ ho) hd hf ?_)
    unfold newFields
    refine wpAny_bind (wpAny_newObj_type ?_)
    refine wpAny_pure ⟨_, rfl, "set_iterator", _, ⟨_, Heap.get?_push_size _ rfl, rfl⟩, slot_seti_next.lookup, ?_⟩
    have := h2 hc.1 hc.2.1 hc.2.2 ps d hp
    rw [Heap.size_push]
    exact this
  · rw [if_neg hc]
    refine wpAny_bind (wpAny_pure ?_)
    refine wpAny_bind (wpAny_setEpoch_of ho hd hf ?_)
    unfold newFields
    refine wpAny_bind (wpAny_newObj_type ?_)
    refine wpAny_pure ⟨_, rfl, "set_iterator", _, ⟨_, Heap.get?_push_size _ rfl, rfl⟩, slot_seti_next.lookup, ?_⟩
    refine h1 ?_
    simp only [Bool.and_eq_true, Bool.not_eq_true', decide_eq_true_eq] at hc
    rcases hb : byText w with _ | _
    · rcases hp : t.plain with _ | _
      · right; right
        have : ¬ (es.size > 1) := fun h => hc ⟨hb, hp, h⟩
        (first | lia | omega)
      · exact .inr (.inl rfl)
    · exact .inl rfl
theorem same_moved {I : Addr} {h' : Heap} (hs : Heap.ExtBut I s.heap h') : Moved [I] Eq s { s with heap := h' } :=
  ⟨fun b o hb e => hs b o (fun h => hb (by rw [h]; exact List.mem_singleton.mpr rfl)) e, rfl, rfl, rfl, Nat.le_refl _⟩
theorem seti_self {I : Addr} {first : Value} {i : Nat} {a : Addr} {n ep : Nat} {Q : Value → Shared → Prop} (hI : s.heap.get? I = some (itObj first i a n ep)) (h : Q (.ref I) s) : wpAny (model prog w) A (pyIter (.ref I)) Q E s := by
  refine wpAny_pyIter_slot (it_type hI) slot_seti_iter (wpAny_call_entry slot_seti_iter (it_type hI) entry_seti_iter ?_ (args_seti_iter _))
  show wpAny _ _ (ret (.ref I)) _ _ s
  exact wpAny_pure ⟨_, rfl, "set_iterator", _, it_type hI, slot_seti_next.lookup, h⟩
theorem walks_text {I a : Addr} {o : Obj} {es : Array (Int × Value)} {ep : Nat} {t : SetTable} (hh : A.handled = none) (hIa : I ≠ a) (hd : o.data = .set es ep t) (hf : t.fits es.size = true) (hb : byText w = true) :
    WalksS prog w A I [I, a] [I] Eq es.size (fun i v => ((pickOrder (w.params.setOrder a ep) es).toList.map (·.2))[i]? = some v) (fun i s => s.heap.get? I = some (itObj (.int 0 0) i a es.size ep) ∧ s.heap.get? a = some o) where
  sub := fun b hb => by simp at hb; simp [hb]
  grefl := fun _ => rfl
  gtrans := fun _ _ _ h1 h2 => h1.trans h2
  frame := fun i s h' tk st _ hk => ⟨hk I (by simp) _ st.1, hk a (by simp) _ st.2⟩
  item := fun i s Q E hi st hQ => by
    have hl : i < (pickOrder (w.params.setOrder a ep) es).toList.length := by rw [(pick_perm _ es).length_eq, Array.length_toList]; exact hi
    have hl2 : i < (pickOrder (w.params.setOrder a ep) es).size := by simpa using hl
    refine next_slot (x := (pickOrder (w.params.setOrder a ep) es)[i].2) (nx := 0) st.1 st.2 hd hf rfl (fun A' E' Q' hq => snext_text st.2 hd hf hb ?_) fun h' hs hI' => ?_
    · rw [Array.getElem?_eq_getElem hl2]; exact hq
    · refine hQ _ _ ?_ ⟨hI', hs.extBut a o (Ne.symm hIa) st.2⟩ (same_moved hs.extBut)
      simp [hl2]
  done := fun s Q E st hQ => by
    refine next_stop hh st.1 st.2 hd hf rfl (fun A' E' Q' hq => snext_text st.2 hd hf hb ?_) fun h' hs => hQ _ (same_moved hs)
    have hl : (pickOrder (w.params.setOrder a ep) es).size = es.size := by rw [← Array.length_toList, (pick_perm _ es).length_eq, Array.length_toList]
    rw [Array.getElem?_eq_none (by (first | lia | omega))]; exact hq
  self := fun i s Q E st hQ => seti_self st.1 hQ
theorem walks_drawn {I a T : Addr} {o : Obj} {es : Array (Int × Value)} {ep nT : Nat} {t : SetTable} {ps : List Nat} (hh : A.handled = none) (hIa : I ≠ a) (hIT : I ≠ T) (hd : o.data = .set es ep t) (hf : t.fits es.size = true) (hp : ps.Perm (List.range es.size)) :
    WalksS prog w A I [I, a, T] [I] Eq es.size (fun i v => (ps.filterMap fun p => (es[p]?).map (·.2))[i]? = some v) (fun i s => s.heap.get? I = some (itObj (.ref T) i a es.size ep) ∧ s.heap.get? a = some o ∧ s.heap.get? T = some { cls := .type "tuple", data := .seq (ps.map fun (i : Nat) => rawInt i).toArray nT }) where
  sub := fun b hb => by simp at hb; simp [hb]
  grefl := fun _ => rfl
  gtrans := fun _ _ _ h1 h2 => h1.trans h2
  frame := fun i s h' tk st _ hk => ⟨hk I (by simp) _ st.1, hk a (by simp) _ st.2.1, hk T (by simp) _ st.2.2⟩
  item := fun i s Q E hi st hQ => by
    have hl : ps.length = es.size := by rw [hp.length_eq, List.length_range]
    have hi2 : i < ps.length := by (first | lia | omega)
    have hr : ps[i] < es.size := by have := hp.mem_iff.mp (List.getElem_mem hi2); simpa using this
    refine next_drawn (pl := ps[i]) (x := es[ps[i]].2) (hx := es[ps[i]].1) st.1 st.2.2 ?_ st.2.1 hd hf rfl (by rw [Array.getElem?_eq_getElem hr]) fun h' hs hI' => ?_
    · simp [hi2, rawInt]
    · refine hQ _ _ ?_ ⟨hI', hs.extBut a o (Ne.symm hIa) st.2.1, hs.extBut T _ (Ne.symm hIT) st.2.2⟩ (same_moved hs.extBut)
      have e : ps.filterMap (fun p => (es[p]?).map (·.2)) = ps.map (fun p => ((es[p]?).map (·.2)).getD .none) := by
        have key : ∀ l : List Nat, (∀ p ∈ l, p < es.size) → l.filterMap (fun p => (es[p]?).map (·.2)) = l.map (fun p => ((es[p]?).map (·.2)).getD .none) := by
          intro l
          induction l with
          | nil => intro _; rfl
          | cons q r ih =>
            intro h
            have hq := h q (.head _)
            rw [List.filterMap_cons, List.map_cons, Array.getElem?_eq_getElem hq]
            simp only [Option.map_some, Option.getD_some]
            rw [ih fun p hp => h p (.tail _ hp)]
        exact key ps fun p h => by simpa using hp.mem_iff.mp h
      rw [e, List.getElem?_map, List.getElem?_eq_getElem hi2]
      simp [Array.getElem?_eq_getElem hr]
  done := fun s Q E st hQ => by
    have hl : ps.length = es.size := by rw [hp.length_eq, List.length_range]
    refine next_dstop hh st.1 st.2.2 ?_ st.2.1 hd hf rfl fun h' hs => hQ _ (same_moved hs)
    simp [hl]
  self := fun i s Q E st hQ => seti_self st.1 hQ
theorem below_zero (j : Nat) : SetTable.below #[j] 0 = 0 := by
  unfold SetTable.below
  simp [SetTable.below.go]
theorem below_past (j : Nat) : SetTable.below #[j] (j + 1) = 1 := by
  unfold SetTable.below
  simp [SetTable.below.go]
theorem walks_one {I a : Addr} {o : Obj} {hx : Int} {x : Value} {ep : Nat} {t : SetTable} (hh : A.handled = none) (hIa : I ≠ a) (hd : o.data = .set #[(hx, x)] ep t) (hf : t.fits 1 = true) (hb : byText w = false) (hl : t.led = true) :
    WalksS prog w A I [I, a] [I] Eq 1 (fun i v => [x][i]? = some v) (fun i s => (∃ k, s.heap.get? I = some (itObj (.int (k : Nat) 0) i a 1 ep) ∧ (i = 0 → k = 0) ∧ (i = 1 → k = t.place.getD 0 0 + 1)) ∧ s.heap.get? a = some o) := by
  have hp : ∃ j, t.place = #[j] := by
    unfold SetTable.fits at hf
    simp only [Bool.and_eq_true, beq_iff_eq, decide_eq_true_eq] at hf
    obtain ⟨l, hl⟩ : ∃ l : List Nat, t.place = l.toArray := ⟨t.place.toList, by simp⟩
    rw [hl] at hf
    match l, hl, hf with
    | [j], hl, _ => exact ⟨j, hl⟩
  obtain ⟨j, hj⟩ := hp
  exact {
    sub := fun b hb => by simp at hb; simp [hb]
    grefl := fun _ => rfl
    gtrans := fun _ _ _ h1 h2 => h1.trans h2
    frame := fun i s h' tk st _ hk => by
      obtain ⟨⟨k, h1, h2⟩, h3⟩ := st
      exact ⟨⟨k, hk I (by simp) _ h1, h2⟩, hk a (by simp) _ h3⟩
    item := fun i s Q E hi st hQ => by
      have hi0 : i = 0 := by (first | lia | omega)
      subst hi0
      obtain ⟨⟨k, h1, h2, _⟩, h3⟩ := st
      have hk0 := h2 rfl
      subst hk0
      refine next_slot (x := x) (nx := j + 1) h1 h3 hd hf rfl (fun A' E' Q' hq => snext_one h3 hd hf hb rfl hl ?_) fun h' hs hI' => ?_
      · rw [hj, below_zero]; exact hq
      · refine hQ _ _ rfl ⟨⟨j + 1, hI', fun h => by (first | lia | omega), fun _ => by rw [hj]; rfl⟩, hs.extBut a o (Ne.symm hIa) h3⟩ (same_moved hs.extBut)
    done := fun s Q E st hQ => by
      obtain ⟨⟨k, h1, _, h2⟩, h3⟩ := st
      have hk := h2 rfl
      rw [hj] at hk
      have hk : k = j + 1 := hk
      subst hk
      refine next_stop hh h1 h3 hd hf rfl (fun A' E' Q' hq => snext_one h3 hd hf hb rfl hl ?_) fun h' hs => hQ _ (same_moved hs)
      rw [hj, below_past]; exact hq
    self := fun i s Q E st hQ => by
      obtain ⟨⟨k, h1, _⟩, h3⟩ := st
      exact seti_self h1 hQ }
end
end Mine
end
section
open PySem PySem.W PyProof.Rows PySem.Calls
namespace Mine
section
variable {prog : Program} {w : World} {A : Around} {E : Value → Shared → Prop} {s : Shared}
theorem set_hint {a : Addr} {o : Obj} {Q : Bool → Shared → Prop} (ho : s.heap.get? a = some o) (hc : o.cls = .type "set") (h : Q false s) : wpAny (model prog w) A (Builtin.List.listLengthHint (.ref a)) Q E s := by
  have hT : s.TypeIs (.ref a) "set" := ⟨o, ho, hc⟩
  unfold Builtin.List.listLengthHint
  refine wpAny_bind (wpAny_specialOf hT set_len ?_)
  wp_delta
  refine wpAny_bind (wpAny_isInstance hT (b := true) (by rw [isSubtype_type]; kernel_rfl) ?_)
  show wpAny _ _ (typeOf (Value.ref a) >>= _) _ _ _
  refine wpAny_bind (wpAny_typeOf hT ?_)
  exact wpAny_pure h
theorem set_extend {a S : Addr} {o : Obj} {Q : PySem.Fin → Shared → Prop} (hSa : S ≠ a) (ho : s.heap.get? a = some o) (hc : o.cls = .type "set")
    (h : wpAny (model prog w) A (pyIter (.ref a)) (fun it s' => s'.heap.get? a = some o ∧ s'.heap.get? S = some { cls := .type "list", data := .seq ([] : List Value).toArray } ∧
      ∀ h' c, Heap.SameBut S s'.heap h' → h'.get? S = some { cls := .type "list", data := .seq ([] : List Value).toArray c } → Q (.again (.builtin "list.extend.loop" ⟨[.ref S, it, .ref S], []⟩)) { s' with heap := h' }) E s) :
    wpAny (model prog w) A (Builtin.List.listExtendWith (.ref S) (.ref a) (.ref S)) Q E s := by
  have hT : s.TypeIs (.ref a) "set" := ⟨o, ho, hc⟩
  unfold Builtin.List.listExtendWith
  refine wpAny_bind (wpAny_typeOf hT ?_)
  have h1 : Builtin.List.listSameRef (.ref S) (.ref a) = false := by simp [Builtin.List.listSameRef, hSa]
  have h2 : (Value.type "set" == Value.type "list") = false := by decide
  have h3 : (Value.type "set" == Value.type "tuple") = false := by decide
  simp only [h1, h2, h3, Bool.or_false, Bool.false_eq_true, if_false]
  refine wpAny_bind (wpAny_mono h (fun it s' hit => ?_) fun _ _ x => x)
  obtain ⟨ha, hS', hq⟩ := hit
  refine wpAny_bind (wpAny_holding (set_hint ha hc ?_))
  show wpAny _ _ (rule "list.extend.makes-room" >>= fun _ => Builtin.List.listTouch (.ref S) >>= fun _ => again (.builtin "list.extend.loop" ⟨[.ref S, it, .ref S], []⟩)) _ _ _
  refine wpAny_bind (wpAny_rule ?_)
  refine wpAny_bind ?_
  show wpAny _ _ (updateSeq S (·.push .none) >>= fun _ => updateSeq S (·.pop)) _ _ _
  refine wpAny_bind (wpAny_updateSeq hS' rfl ?_)
  have hS₂ := Heap.get?_update_self (Obj.mapSeq (·.push Value.none)) hS' rfl
  refine wpAny_updateSeq hS₂ rfl ?_
  have hS₃ := Heap.get?_update_self (Obj.mapSeq (·.pop)) hS₂ rfl
  exact wpAny_pure (hq _ _ ((Heap.SameBut.update ..).trans (Heap.SameBut.update ..)) hS₃)
theorem items_perm {n : Nat} {ord : List Value} {acc : Array Value} (h : ItemsOf (fun i v => ord[i]? = some v) acc n) (hl : ord.length = n) : acc.toList = ord := by
  apply List.ext_getElem?
  intro i
  by_cases hi : i < n
  · have ha : i < acc.size := by rw [h.1]; exact hi
    have := h.2 i acc[i] (Array.getElem?_eq_getElem ha)
    rw [this]; simp [ha]
  · rw [List.getElem?_eq_none (by rw [Array.length_toList, h.1]; (first | lia | omega)), List.getElem?_eq_none (by (first | lia | omega))]
theorem loop_end {I S : Addr} {fp : List Addr} {ord : List Value} {St : Nat → Shared → Prop} {c : Nat} {Q : List Value → Shared → Prop} (W : WalksS prog w A.in1 I fp [I] Eq ord.length (fun i v => ord[i]? = some v) St) (hst : St 0 s)
    (hS : s.heap.get? S = some { cls := .type "list", dict := none, data := .seq #[] c, slots := #[] }) (hSf : S ∉ fp) (hl : ord.length ≤ 3)
    (hR : ∀ s', (∀ b o, b ≠ S → b ≠ I → s.heap.get? b = some o → s'.heap.get? b = some o) → s'.gens = s.gens → s'.os = s.os → s.toks ≤ s'.toks → Q ord s') :
    codeAny (model prog w) A (.builtin "list.extend.loop" ⟨[.ref S, .ref I, .ref S], []⟩) (fun r s' => match r with
      | .ok (.ret v) => wpAny (model prog w) A (match v with | .ref a => (do match (← load a).data with | .seq xs _ => pure xs.toList | _ => unsupported "internal:collect") | _ => unsupported "internal:collect") Q E s'
      | .ok _ => False
      | .error e => E e s') s := by
  refine codeAny_extend_loopS W (by rw [sizeLine_eq]; (first | lia | omega)) S hSf (.ref S) ord.length 0 s #[] c rfl (Nat.zero_le _) hst hS (ItemsOf.nil _) ?_
  intro s' acc' c' hm hS' hacc
  dsimp only
  refine wpAny_bind (wpAny_load hS' ?_)
  have e := items_perm hacc rfl
  refine wpAny_pure ?_
  rw [e]
  exact hR s' (fun b o h1 h2 h3 => hm.heap b o (by simp [h1, h2]) h3) hm.gens.symm hm.os hm.toks
theorem collect_tset {a : Addr} {o : Obj} {vals : List Value} {Q : List Value → Shared → Prop} (hh : A.handled = none) (ho : s.heap.get? a = some o) (hS : TSet prog w o vals) (hn1 : 1 ≤ vals.length) (hn3 : vals.length ≤ 3)
    (hQ : ∀ s' acc, acc.Perm vals → (∀ b ob, s.heap.get? b = some ob → s'.heap.get? b = some ob) → s'.gens = s.gens → s'.os = s.os → s.toks ≤ s'.toks → Q acc s') : wpAny (model prog w) A (collect (.ref a)) Q E s := by
  obtain ⟨hex, es, ep, t, hd, hel, hpm, hf, hled, hpl, hmk, hdu⟩ := hS
  have hsz : es.size = vals.length := by rw [← hpm.length_eq, List.length_map, Array.length_toList]
  have hal : a < s.heap.objs.size := Heap.lt_size ho
  unfold collect
  refine wpAny_bind (wpAny_runValue (codeAny_builtin PySem.F.entry_proto_collect ?_))
  rw [Around.under_plainId PySem.F.plain_proto_collect _]
  show wpAny _ A.in1 (newList [] >>= fun l => again (.builtin "list.__iadd__" ⟨[l, .ref a], []⟩)) _ _ s
  refine wpAny_bind (wpAny_newObj_type ?_)
  refine wpAny_pure ⟨plainId_quiet PySem.F.plain_list_iadd _, codeAny_builtin PySem.F.entry_list_iadd ?_⟩
  rw [Around.under_plainId PySem.F.plain_list_iadd _]
  show wpAny _ A.in1 (Builtin.List.listExtendWith (.ref s.heap.objs.size) (.ref a) (.ref s.heap.objs.size)) _ _ _
  refine set_extend (Nat.ne_of_gt hal) (Heap.get?_push_of_some _ ho) hex.1 ?_
  refine iter_raw (by (first | lia | omega)) (Heap.get?_push_of_some _ ho) hex hd hf (fun hc => ?_) (fun c1 c2 c3 ps d hp => ?_)
  · refine ⟨Heap.get?_push_of_some _ (Heap.get?_push_of_some _ ho), Heap.get?_push_of_some _ (Heap.get?_push_size _ rfl), fun h' c hs hS' => ⟨plainId_quiet PySem.F.plain_extend_loop _, ?_⟩⟩
    dsimp only
    have hne : vals ≠ [] := by intro e; rw [e] at hn1; simp at hn1
    have hSI : s.heap.objs.size ≠ (s.heap.push ({ cls := .type "list", data := .seq #[] } : Obj)).objs.size := by rw [Heap.size_push]; (first | lia | omega)
    have hIa : (s.heap.push ({ cls := .type "list", data := .seq #[] } : Obj)).objs.size ≠ a := by rw [Heap.size_push]; exact Nat.ne_of_gt (Nat.lt_succ_of_lt hal)
    have ho' : h'.get? a = some o := hs.extBut a o (Nat.ne_of_lt hal) (Heap.get?_push_of_some _ (Heap.get?_push_of_some _ ho))
    have hI' : h'.get? (s.heap.push ({ cls := .type "list", data := .seq #[] } : Obj)).objs.size = some (itObj (.int 0 0) 0 a es.size ep) := hs.extBut _ _ (Ne.symm hSI) (Heap.get?_push_size _ rfl)
    have hout : ∀ (ord : List Value), ord.Perm vals → ∀ s', (∀ b ob, b ≠ s.heap.objs.size → b ≠ (s.heap.push ({ cls := .type "list", data := .seq #[] } : Obj)).objs.size → h'.get? b = some ob → s'.heap.get? b = some ob) → s'.gens = s.gens → s'.os = s.os → s.toks ≤ s'.toks → Q ord s' := by
      intro ord hp s' hk hg hos htk
      refine hQ s' ord hp (fun b ob e => ?_) hg hos htk
      have hlt := Heap.lt_size e
      exact hk b ob (Nat.ne_of_lt hlt) (by rw [Heap.size_push]; exact Nat.ne_of_lt (Nat.lt_succ_of_lt hlt)) (hs.extBut b ob (Nat.ne_of_lt hlt) (Heap.get?_push_of_some _ (Heap.get?_push_of_some _ e)))
    rcases hb : byText w with _ | _
    · have h1 : es.size = 1 := by
        rcases hc with h | h | h
        · rw [hb] at h; cases h
        · rw [hpl hne] at h; cases h
        · (first | lia | omega)
      obtain ⟨⟨hx, x⟩, rfl⟩ := Array.size_eq_one_iff.mp h1
      refine loop_end (ord := [x]) (walks_one (A := A.in1) hh hIa hd hf hb (by rw [hled, hb]; rfl)) ⟨⟨0, hI', fun _ => rfl, fun h => by (first | lia | omega)⟩, ho'⟩ hS' (by simp [hSI, Nat.ne_of_gt hal]) (by simp) (hout [x] (by simpa using hpm))
    · have hp := ((pick_perm (w.params.setOrder a ep) es).map (·.2)).trans hpm
      have hl : es.size = ((pickOrder (w.params.setOrder a ep) es).toList.map (·.2)).length := by rw [hp.length_eq]; exact hsz
      have W := walks_text (prog := prog) (A := A.in1) (I := (s.heap.push ({ cls := .type "list", data := .seq #[] } : Obj)).objs.size) hh hIa hd hf hb
      rw [hl] at W
      refine loop_end W ⟨by rw [← hl]; exact hI', ho'⟩ hS' (by simp [hSI, Nat.ne_of_gt hal]) (by (first | lia | omega)) (hout _ hp)
  · refine ⟨Heap.get?_push_of_some _ (Heap.get?_push_of_some _ (Heap.get?_push_of_some _ ho)), Heap.get?_push_of_some _ (Heap.get?_push_of_some _ (Heap.get?_push_size _ rfl)), fun h' c hs hS' => ⟨plainId_quiet PySem.F.plain_extend_loop _, ?_⟩⟩
    dsimp only
    have hSI : s.heap.objs.size ≠ (s.heap.push ({ cls := .type "list", data := .seq #[] } : Obj)).objs.size + 1 := by rw [Heap.size_push]; (first | lia | omega)
    have hST : s.heap.objs.size ≠ (s.heap.push ({ cls := .type "list", data := .seq #[] } : Obj)).objs.size := by rw [Heap.size_push]; (first | lia | omega)
    have hIa : (s.heap.push ({ cls := .type "list", data := .seq #[] } : Obj)).objs.size + 1 ≠ a := by rw [Heap.size_push]; exact Nat.ne_of_gt (Nat.lt_succ_of_lt (Nat.lt_succ_of_lt hal))
    have ho' : h'.get? a = some o := hs.extBut a o (Nat.ne_of_lt hal) (Heap.get?_push_of_some _ (Heap.get?_push_of_some _ (Heap.get?_push_of_some _ ho)))
    have hT' := hs.extBut _ _ (Ne.symm hST) (Heap.get?_push_of_some _ (Heap.get?_push_size _ rfl))
    have hI' := hs.extBut _ _ (by rw [Heap.size_push]; exact Ne.symm hSI) (Heap.get?_push_size _ rfl)
    rw [Heap.size_push] at hI'
    have hl : ps.length = es.size := by rw [hp.length_eq, List.length_range]
    have hpv : (ps.filterMap fun p => (es[p]?).map (·.2)).Perm vals := by
      refine (hp.filterMap _).trans ?_
      refine List.Perm.trans (List.Perm.of_eq ?_) hpm
      have key : ∀ n, n ≤ es.size → (List.range n).filterMap (fun p => (es[p]?).map (·.2)) = (es.toList.take n).map (·.2) := by
        intro n
        induction n with
        | zero => intro _; simp
        | succ n ih =>
          intro h
          rw [List.range_succ, List.filterMap_append, ih (by (first | lia | omega)), List.take_succ, List.map_append]
          have : n < es.size := by (first | lia | omega)
          simp [this]
      rw [key es.size (Nat.le_refl _), List.take_of_length_le (by simp)]
    have hl2 : es.size = (ps.filterMap fun p => (es[p]?).map (·.2)).length := by rw [hpv.length_eq]; exact hsz
    have W := walks_drawn (prog := prog) (w := w) (A := A.in1) (I := (s.heap.push ({ cls := .type "list", data := .seq #[] } : Obj)).objs.size + 1) (T := (s.heap.push ({ cls := .type "list", data := .seq #[] } : Obj)).objs.size) (nT := 0) hh hIa (Nat.succ_ne_self _) hd hf hp
    rw [hl2] at W
    refine loop_end W ⟨by rw [← hl2]; exact hI', ho', hT'⟩ hS' (by intro hm; simp only [List.mem_cons, List.not_mem_nil, or_false] at hm; exact hm.elim hSI (fun h => h.elim (fun h => Nat.ne_of_gt hal h) hST)) (by (first | lia | omega)) ?_
    intro s' hk hg hos htk
    refine hQ s' _ hpv (fun b ob e => ?_) hg hos htk
    have hlt := Heap.lt_size e
    exact hk b ob (Nat.ne_of_lt hlt) (by rw [Heap.size_push]; exact Nat.ne_of_lt (Nat.lt_succ_of_lt (Nat.lt_succ_of_lt hlt))) (hs.extBut b ob (Nat.ne_of_lt hlt) (Heap.get?_push_of_some _ (Heap.get?_push_of_some _ (Heap.get?_push_of_some _ e))))
end
end Mine
end
section
open PySem PySem.W PyProof.Rows PySem.Calls
namespace Mine
section
variable {prog : Program} {w : World} {A : Around} {E : Value → Shared → Prop} {s : Shared} {h₀ : Heap} {L : Addr} {m : Str → Option Value} {news : List (Addr × Obj)}
theorem sorted_tset {a : Addr} {o : Obj} {vals : List Value} {f : Value} {kw : List (Str × Value)} {Q : Value → Shared → Prop} (hh : A.handled = none) (F : Fr h₀ L s.heap m) (N : News h₀ L s.heap news) (hm : (a, o) ∈ news) (hS : TSet prog w o vals) (hn2 : 2 ≤ vals.length) (hn3 : vals.length ≤ 3)
    (ha1 : argsOk "sorted" ⟨[.ref a], kw⟩) (ha2 : ∀ x, argsOk "list.sort" ⟨[.ref x], kw⟩) (ht : ∀ x, Builtin.«list.sort» ⟨[.ref x], kw⟩ = ksk_tree x f false)
    (h : ∀ vs d tk, vs.Perm vals → s.toks ≤ tk → ∀ D kS e1 h', Fr h₀ L h' m → News h₀ L h' ((kS, seqObj "list" #[] 0) :: (D, seqObj "list" #[] e1) :: news) → D < kS → (∀ q ∈ news, q.1 < D) →
      KatKeys prog w A.in1.in1 h₀ L m kS f (fun ks e s' => wpAny (model prog w) A.in1.in1 (keyKind' (List.toArray ks)) (fun κ s'' => (kas_sort vs.length).kasWp (kas_ask prog w A.in1.in1 κ ks) (fun p s3 => KatFin h₀ L m kS D ks e e1 (p.toList.map fun i => vs.getD i Value.none) (fun s4 => Q (.ref D) s4) s3) s'') (fun _ _ => False) s') vs [] 0 { s with heap := h', drawn := d, toks := tk }) :
    wpAny (model prog w) A (call (.builtin "sorted") [.ref a] kw) Q E s := by
  refine call_function_entry_kw kind_sorted plain_sorted entry_sorted ha1 ?_
  unfold Builtin.«sorted»
  refine wpAny_bind (m := checkCount "sorted" 1 1 _) (wpAny_pure ?_)
  refine wpAny_bind (collect_tset (A := A.in1) hh (N _ hm).1 hS (by (first | lia | omega)) hn3 fun s₁ vs hp keep hg hos htk => ?_)
  have hvl : vs.length = vals.length := hp.length_eq
  obtain ⟨hp1, g1, d1, t1, os1⟩ := s₁
  simp only at keep hg hos htk
  subst hg; subst hos
  have F1 : Fr h₀ L hp1 m := F.kept keep
  have N1 : News h₀ L hp1 news := N.grown keep
  refine wpAny_bind (wpAny_newList ?_ (by rw [sizeLine_eq]; (first | lia | omega)))
  have hL : L < hp1.objs.size := F1.ns.lt
  have hoL : (hp1.push (seqObj "list" vs.toArray 0)).get? hp1.objs.size = some (seqObj "list" vs.toArray 0) := Heap.get?_push_size _ rfl
  refine wpAny_bind (wpAny_holding (wpAny_call_entry_kw slot_list_sort ⟨_, hoL, rfl⟩ entry_list_sort ?body (ha2 _)))
  case body =>
    show wpAny (model prog w) A.in1.in1 (Builtin.«list.sort» ⟨[.ref hp1.objs.size], kw⟩) _ _ _
    rw [ht hp1.objs.size]
    refine kat_keyed (s := { s with heap := hp1.push (seqObj "list" vs.toArray 0), drawn := d1, toks := t1 })
      (F1.push _) (N1.grown fun _ _ e => Heap.get?_push_of_some _ e) hoL (Nat.ne_of_gt hL) (Heap.get?_none_of_le (Nat.le_trans F1.above (Nat.le_of_lt hL)))
      (fun p hp => Nat.ne_of_lt (Heap.lt_size (N1 p hp).1)) (by (first | lia | omega)) (by (first | lia | omega)) fun kS e1 h' F' N' l0 l1 => ?_
    refine kat_keys_mono (h vs d1 t1 hp htk _ kS e1 h' F' N' l0 fun q hq => Heap.lt_size (N1 q hq).1) fun ks e s' hl' hd => ?_
    have hl2 : ks.length = vs.length := by simpa using hl'
    refine wpAny_mono hd (fun κ s'' hk => ?_) fun _ _ x => x
    show (kas_sort vs.length).kasWp (kas_ask prog w A.in1.in1 κ ks) _ s''
    rw [kat_ask_eq (vs := vs) hl2] at hk ⊢
    exact kas_wp_mono hk fun p s3 hk' => hk'.mono fun s4 hq => ⟨_, rfl, wpAny_pure ⟨_, rfl, hq⟩⟩
end
end Mine
end
section
open PySem PySem.W PyProof.Rows PySem.Calls
namespace Mine
noncomputable def KeyVals : List Str → List Value → Prop
  | [], [] => True
  | x :: r, v :: q => (∃ t, v = .str x t) ∧ KeyVals r q
  | _, _ => False
theorem KeyVals.length : ∀ {xs : List Str} {vs : List Value}, KeyVals xs vs → vs.length = xs.length
  | [], [], _ => rfl
  | _ :: _, _ :: _, h => by rw [List.length_cons, List.length_cons, KeyVals.length h.2]
  | [], _ :: _, h => h.elim
  | _ :: _, [], h => h.elim
section
variable {prog : Program} {w : World} {A : Around} {E : Value → Shared → Prop} {s : Shared} {h₀ : Heap} {L : Addr} {m : Str → Option Value} {news : List (Addr × Obj)} {g : Obj → List (Addr × Obj)}
theorem tset_add {a : Addr} {o : Obj} {vals : List Value} {x : Str} {u : Tok} {Q : Bool → Shared → Prop} (F : Fr h₀ L s.heap m) (N : News h₀ L s.heap news) (U : UpdF a o news g) (hS : TSet prog w o vals) (hn : vals.length ≤ 3) (hx : ∀ v ∈ vals, (strKind prog w).is x v = false)
    (h : ∀ h' o', Fr h₀ L h' m → News h₀ L h' (g o') → TSet prog w o' (vals ++ [.str x u]) → Q true { s with heap := h', toks := s.toks + 1 }) :
    wpAny (model prog w) A (setAdd a (.str x u)) Q E s := by
  obtain ⟨pre, post, rfl, hg, h1, h2⟩ := U.split
  have hm := N (a, o) (List.mem_append_right _ (.head _))
  unfold setAdd
  refine wpAny_holding (wpAny_bind ((strKind prog w).pyHash (strKind_is prog w x u) ?_))
  refine tset_addH (s := { s with toks := s.toks + 1 }) hm.1 hS hn hx fun h' o' hsb ho' hS' => ?_
  exact h h' o' (F.change hsb hm.2.1 hm.2.2) (hg o' ▸ N.setIn h1 h2 hsb ho') hS'
theorem tset_room {a : Addr} {o : Obj} {vals : List Value} {k : Nat} {Q : Unit → Shared → Prop} (ho : s.heap.get? a = some o) (hS : TSet prog w o vals) (hn : vals.length + k ≤ 4) (h : Q () s) : wpAny (model prog w) A (setRoomFor a k) Q E s := by
  obtain ⟨hex, es, ep, t, hd, hel, hpm, hf, hled, hpl, hmk, hdu⟩ := hS
  have hsz : es.size = vals.length := by rw [← hpm.length_eq, List.length_map, Array.length_toList]
  unfold setRoomFor
  refine wpAny_bind (wpAny_setState_of ho hd hf ?_)
  have e : t.roomFor k = none := by
    unfold SetTable.fits at hf
    simp only [Bool.and_eq_true, beq_iff_eq, decide_eq_true_eq] at hf
    unfold SetTable.roomFor SetTable.fill
    rw [hdu, hf.1, if_neg]
    show ¬ (es.size + 0 + k) * 5 ≥ t.mask * 3
    (first | lia | omega)
  dsimp only
  rw [e]
  exact wpAny_pure h
noncomputable def StarEnd (prog : Program) (w : World) (a : Addr) (vals : List Value) (kvs : List (Str × Value)) (s : Shared) (Q : Unit → Shared → Prop) : Prop :=
  ∀ h' o' ks tk, (∀ b ob, b ≠ a → s.heap.get? b = some ob → h'.get? b = some ob) → h'.get? a = some o' → TSet prog w o' (vals ++ ks) → KeyVals (kvs.map (·.1)) ks → s.toks ≤ tk → Q () { s with heap := h', toks := tk }
theorem star_loop {I a d : Addr} {ep : Nat} {kvs : List (Str × Value)} (hh : A.handled = none) (hda : d ≠ a) (hIa : I ≠ a) (hnd : (kvs.map (·.1)).Nodup) :
    ∀ (k i : Nat) (vals : List Value) (s : Shared) (o : Obj) (R : Result → Shared → Prop), k + i = kvs.length → s.heap.IsKeyIter I d i kvs.length ep → s.heap.DictAt (strKind prog w) d kvs ep → s.heap.get? a = some o → TSet prog w o vals → vals.length + k ≤ 3 →
      (∀ j, i ≤ j → ∀ kv, kvs[j]? = some kv → ∀ v ∈ vals, (strKind prog w).is kv.1 v = false) →
      (∀ h' o' ks tk, (∀ b ob, b ≠ a → b ≠ I → s.heap.get? b = some ob → h'.get? b = some ob) → h'.get? a = some o' → TSet prog w o' (vals ++ ks) → KeyVals ((kvs.drop i).map (·.1)) ks → s.toks ≤ tk → R (.ok (.ret .none)) { s with heap := h', toks := tk }) →
      codeAny (model prog w) A (.builtin "set.update.loop" ⟨[.ref a, .ref I], []⟩) R s := by
  intro k
  induction k with
  | zero =>
    intro i vals s o R hk hit hd ho hS hn hfr hR
    refine codeAny_builtin F.entry_set_update_loop ?_
    rw [Around.under_plainId F.plain_set_update_loop _]
    show wpAny _ A.in1 (pyNext (.ref I) >>= _) _ _ s
    have hi : i = kvs.length := by (first | lia | omega)
    refine wpAny_bind (wpAny_pyNext_dict_end (A := A.in1) hh hit hd (by rw [hi]; simp) fun h' hs => ?_)
    refine wpAny_pure (hR h' o [] s.toks (fun b ob h1 h2 e => hs b ob h2 e) (hs a o (Ne.symm hIa) ho) (by rw [List.append_nil]; exact hS) ?_ (Nat.le_refl _))
    rw [hi, List.drop_length]; trivial
  | succ k ih =>
    intro i vals s o R hk hit hd ho hS hn hfr hR
    refine codeAny_builtin F.entry_set_update_loop ?_
    rw [Around.under_plainId F.plain_set_update_loop _]
    show wpAny _ A.in1 (pyNext (.ref I) >>= _) _ _ s
    have hlt : i < kvs.length := by (first | lia | omega)
    have hx : kvs[i]? = some kvs[i] := List.getElem?_eq_getElem hlt
    refine wpAny_bind (wpAny_pyNext_dict_item (A := A.in1) (k := kvs[i].1) (v := kvs[i].2) hit hd hx fun key h' hkey hit' hs => ?_)
    obtain ⟨t, rfl⟩ := Value.isStrOf_shape hkey
    dsimp only
    refine wpAny_bind (wpAny_holding ?_)
    unfold setAdd
    refine wpAny_holding (wpAny_bind ((strKind prog w).pyHash (strKind_is prog w _ t) ?_))
    have ho' : h'.get? a = some o := hs.extBut a o (Ne.symm hIa) ho
    refine tset_addH (s := { s with heap := h', toks := s.toks + 1 }) ho' hS (by (first | lia | omega)) (hfr i (Nat.le_refl _) _ hx) fun h2 o2 hsb ho2 hS2 => ?_
    refine wpAny_pure ⟨plainId_quiet F.plain_set_update_loop _, ?_⟩
    refine ih (i + 1) _ { s with heap := h2, toks := s.toks + 1 } o2 R (by (first | lia | omega)) (hit'.extBut hsb.extBut hIa) ((hd.extBut hs.extBut ?_).extBut hsb.extBut hda) ho2 hS2 (by rw [List.length_append, List.length_singleton]; (first | lia | omega)) ?_ ?_
    · intro e; subst e
      obtain ⟨od, _, e1, hc, _⟩ := hd
      obtain ⟨oi, e2, hc2, _⟩ := hit
      rw [e1] at e2; cases e2
      have := hc.1
      rw [this] at hc2; simp at hc2
    · intro j hj kv hkv v hv
      rcases List.mem_append.mp hv with hv | hv
      · exact hfr j (by (first | lia | omega)) kv hkv v hv
      · rw [List.mem_singleton.mp hv]
        have hne : kv.1 ≠ kvs[i].1 := by
          intro e
          have hj' := (List.getElem?_eq_some_iff.mp hkv).1
          have hp := List.pairwise_iff_getElem.mp hnd i j (by simpa using hlt) (by simpa using hj') (by (first | lia | omega))
          apply hp
          have := (List.getElem?_eq_some_iff.mp hkv).2
          simp [this, e]
        cases hb : (strKind prog w).is kv.1 (.str kvs[i].1 t) with
        | false => rfl
        | true => exact absurd ((strKind prog w).inj _ _ _ hb (strKind_is prog w _ t)) hne
    · intro h3 o3 ks tk hk3 ho3 hS3 hks htk
      refine hR h3 o3 (.str kvs[i].1 t :: ks) tk (fun b ob h1 h2 e => hk3 b ob h1 h2 (hsb.extBut b ob h1 (hs.extBut b ob h2 e))) ho3 (by simpa using hS3) ?_ (by simp only at htk; (first | lia | omega))
      rw [List.drop_eq_getElem_cons hlt]
      exact ⟨⟨t, rfl⟩, hks⟩
theorem star_road {a d : Addr} {od : Obj} {es : Array DictEntry} {kvs : List (Str × Value)} {body : Nat → PUnit → Sem (ForInStep PUnit)} (hda : d ≠ a) (hnd : (kvs.map (·.1)).Nodup) (hk : KeysOf (strKind prog w) es) (hp : Pairs (strKind prog w) es.toList kvs)
    (hbody : ∀ i (s : Shared) (P : Shared → Prop) e, es[i]? = some e → s.heap.get? d = some od → wpAny (model prog w) A (setAddHashed a e.key e.hash) (fun _ s' => s'.heap.get? d = some od ∧ P s') E s → wpAny (model prog w) A (body i ⟨⟩) (fun st s' => st = .yield ⟨⟩ ∧ P s') E s) :
    ∀ (k i : Nat) (vals : List Value) (s : Shared) (o : Obj) (Q : PUnit → Shared → Prop), k + i = kvs.length → s.heap.get? d = some od → s.heap.get? a = some o → TSet prog w o vals → vals.length + k ≤ 3 →
      (∀ j, i ≤ j → ∀ kv, kvs[j]? = some kv → ∀ v ∈ vals, (strKind prog w).is kv.1 v = false) →
      (∀ h' o' ks tk, (∀ b ob, b ≠ a → s.heap.get? b = some ob → h'.get? b = some ob) → h'.get? a = some o' → TSet prog w o' (vals ++ ks) → KeyVals ((kvs.drop i).map (·.1)) ks → s.toks ≤ tk → Q ⟨⟩ { s with heap := h', toks := tk }) →
      wpAny (model prog w) A (forIn (List.range' i k 1) PUnit.unit body) Q E s := by
  have hlen : es.size = kvs.length := by rw [← hp.length]; simp
  have hpk : ∀ (l : List DictEntry) (q : List (Str × Value)), Pairs (strKind prog w) l q → ∀ (i : Nat) (e : DictEntry) (kv : Str × Value), l[i]? = some e → q[i]? = some kv → (strKind prog w).is kv.1 e.key = true := by
    intro l q hpq
    induction hpq with
    | nil => intro i e kv h; simp at h
    | cons h1 h2 _ ih =>
      intro i e kv he hkv
      cases i with
      | zero => simp at he hkv; subst he; subst hkv; exact h1
      | succ i => exact ih i e kv (by simpa using he) (by simpa using hkv)
  intro k
  induction k with
  | zero =>
    intro i vals s o Q hki hd ho hS hn hfr hQ
    have hi : i = kvs.length := by (first | lia | omega)
    show wpAny _ A (forIn [] PUnit.unit body) Q E s
    rw [List.forIn_nil]
    refine wpAny_pure (hQ s.heap o [] s.toks (fun _ _ _ e => e) ho (by rw [List.append_nil]; exact hS) ?_ (Nat.le_refl _))
    rw [hi, List.drop_length]; trivial
  | succ k ih =>
    intro i vals s o Q hki hd ho hS hn hfr hQ
    have hlt : i < kvs.length := by (first | lia | omega)
    have hx : kvs[i]? = some kvs[i] := List.getElem?_eq_getElem hlt
    have hle : i < es.size := by (first | lia | omega)
    have he : es[i]? = some es[i] := Array.getElem?_eq_getElem hle
    have hkey := hpk _ _ hp i es[i] kvs[i] (by simp [hle]) hx
    obtain ⟨k0, hk0, hh0⟩ := hk es[i] (Array.getElem_mem hle)
    have hk1 := (strKind prog w).inj _ _ _ hk0 hkey
    subst hk1
    obtain ⟨t, hkt⟩ := Value.isStrOf_shape hkey
    rw [List.range'_succ, List.forIn_cons]
    refine wpAny_bind (wpAny_mono (hbody i s (fun s' => wpAny (model prog w) A (forIn (List.range' (i + 1) k 1) PUnit.unit body) Q E s') _ he hd ?_) ?_ fun _ _ x => x)
    · rw [hh0, hkt]
      refine tset_addH ho hS (by (first | lia | omega)) (hfr i (Nat.le_refl _) _ hx) fun h2 o2 hsb ho2 hS2 => ?_
      refine ⟨hsb.extBut d od hda hd, ?_⟩
      refine ih (i + 1) _ { s with heap := h2 } o2 Q (by (first | lia | omega)) (hsb.extBut d od hda hd) ho2 hS2 (by rw [List.length_append, List.length_singleton]; (first | lia | omega)) ?_ ?_
      · intro j hj kv hkv v hv
        rcases List.mem_append.mp hv with hv | hv
        · exact hfr j (by (first | lia | omega)) kv hkv v hv
        · rw [List.mem_singleton.mp hv]
          have hne : kv.1 ≠ kvs[i].1 := by
            intro e
            have hj' := (List.getElem?_eq_some_iff.mp hkv).1
            have hp := List.pairwise_iff_getElem.mp hnd i j (by simpa using hlt) (by simpa using hj') (by (first | lia | omega))
            apply hp
            have := (List.getElem?_eq_some_iff.mp hkv).2
            simp [this, e]
          cases hb : (strKind prog w).is kv.1 (.str kvs[i].1 t) with
          | false => rfl
          | true => exact absurd ((strKind prog w).inj _ _ _ hb (strKind_is prog w _ t)) hne
      · intro h3 o3 ks tk hk3 ho3 hS3 hks htk
        refine hQ h3 o3 (.str kvs[i].1 t :: ks) tk (fun b ob h1 e => hk3 b ob h1 (hsb.extBut b ob h1 e)) ho3 (by simpa using hS3) ?_ htk
        rw [List.drop_eq_getElem_cons hlt]
        exact ⟨⟨t, rfl⟩, hks⟩
    · rintro st s' ⟨rfl, hP⟩
      exact hP
theorem tset_star0 {a d : Addr} {o : Obj} {vals : List Value} {kvs : List (Str × Value)} {ep : Nat} {Q : Unit → Shared → Prop} (hh : A.handled = none) (hda : d ≠ a) (hsm : (d == sysModules) = false) (hd : s.heap.DictAt (strKind prog w) d kvs ep) (ho : s.heap.get? a = some o) (hS : TSet prog w o vals)
    (hn : vals.length + kvs.length ≤ 3) (hfr : ∀ kv ∈ kvs, ∀ v ∈ vals, (strKind prog w).is kv.1 v = false) (h : StarEnd prog w a vals kvs s Q) : wpAny (model prog w) A (setDisplayStar a (.ref d)) Q E s := by
  have hT : s.TypeIs (.ref d) "dict" := hd.dictOf.typeIs
  have hal : a < s.heap.objs.size := Heap.lt_size ho
  unfold setDisplayStar
  refine wpAny_bind (wpAny_isInstance hT (U := "set") (b := false) (by rw [isSubtype_type]; kernel_rfl) ?_)
  simp only [Bool.false_eq_true, if_false]
  refine wpAny_bind (wpAny_isInstance hT (U := "frozenset") (b := false) (by rw [isSubtype_type]; kernel_rfl) ?_)
  refine wpAny_bind (wpAny_askSetting ?_)
  rcases hb : w.params.followText "set-display-star-reads-storage" with _ | _
  · have hb' : (model prog w).w.params.followText "set-display-star-reads-storage" = false := hb
    rw [hb']
    simp only [Bool.false_eq_true, if_false]
    refine wpAny_bind (wpAny_typeOf hT ?_)
    simp only [beq_self_eq_true, if_true]
    refine wpAny_bind (wpAny_rule ?_)
    rw [if_neg (by rw [hsm]; exact Bool.false_ne_true)]
    obtain ⟨od, es, hod, hcd, hdd, hk, hp, hnd⟩ := id hd
    have hsz : es.size = kvs.length := by rw [← hp.length]; simp
    refine wpAny_bind (wpAny_dictEpoch hod hdd ?_)
    refine wpAny_bind (wpAny_dictEntries hod hdd ?_)
    refine wpAny_bind (tset_room ho hS (by (first | lia | omega)) ?_)
    rw [Std.Legacy.Range.forIn_eq_forIn_range']
    have hrs : (Std.Legacy.Range.mk 0 es.size 1 (by decide)).size = kvs.length := by rw [← hsz]; simp [Std.Legacy.Range.size]
    refine wpAny_bind ?_
    show wpAny _ _ (forIn (List.range' 0 (Std.Legacy.Range.mk 0 es.size 1 (by decide)).size 1) PUnit.unit _) _ _ _
    rw [hrs]
    refine star_road (od := od) (es := es) hda hnd hk hp (fun i s1 P e he hd1 hadd => ?_) kvs.length 0 vals s o _ (by (first | lia | omega)) hod ho hS (by (first | lia | omega)) (fun j _ kv hkv v hv => hfr kv (List.mem_of_getElem? hkv) v hv) ?_
    · refine wpAny_bind (wpAny_dictEntries hd1 hdd ?_)
      rw [he]
      dsimp only
      refine wpAny_bind (wpAny_holding (wpAny_bind (wpAny_mono hadd (fun _ s2 h2 => ?_) fun _ _ x => x)))
      refine wpAny_pure (wpAny_bind (wpAny_dictEpoch h2.1 hdd ?_))
      rw [if_neg (by simp)]
      exact wpAny_pure ⟨rfl, h2.2⟩
    · intro h' o' ks tk hk' ho' hS' hks htk
      exact wpAny_pure (h h' o' ks tk hk' ho' hS' (by simpa using hks) htk)
  · have hb' : (model prog w).w.params.followText "set-display-star-reads-storage" = true := hb
    rw [hb']
    simp only [if_true]
    refine wpAny_bind (wpAny_pyIter_dict hsm hd ?_)
    refine wpAny_bind (wpAny_runValue ?_)
    have hIa : s.heap.objs.size ≠ a := Nat.ne_of_gt hal
    refine star_loop (I := s.heap.objs.size) hh hda hIa hd.nodup kvs.length 0 vals _ o _ (by (first | lia | omega)) ⟨_, Heap.get?_push_size _ rfl, rfl, by simp⟩ (hd.push _) (Heap.get?_push_of_some _ ho) hS (by (first | lia | omega)) (fun j _ kv hkv v hv => hfr kv (List.mem_of_getElem? hkv) v hv) ?_
    intro h' o' ks tk hk ho' hS' hks htk
    refine wpAny_pure ?_
    exact h h' o' ks tk (fun b ob h1 e => hk b ob h1 (Nat.ne_of_lt (Heap.lt_size e)) (Heap.get?_push_of_some _ e)) ho' hS' (by simpa using hks) htk
noncomputable def entS (w : World) (l : List (Str × Tok × Value)) : List DictEntry := l.map fun p => ⟨PyData.keyHash w.params p.1, .str p.1 p.2.1, p.2.2⟩
theorem dictAt_ents {h : Heap} {d : Addr} {l : List (Str × Tok × Value)} {n : Nat} (ho : h.get? d = some (dictOf (entS w l) n)) (hnd : (l.map (·.1)).Nodup) : h.DictAt (strKind prog w) d (l.map fun p => (p.1, p.2.2)) n := by
  refine ⟨_, _, ho, ⟨rfl, rfl, rfl⟩, rfl, ?_, ?_, ?_⟩
  · intro e he
    simp only [entS, List.mem_toArray, List.mem_map] at he
    obtain ⟨p, _, rfl⟩ := he
    exact ⟨p.1, strKind_is prog w _ _, rfl⟩
  · rw [List.toList_toArray]
    clear hnd ho
    induction l with
    | nil => exact .nil
    | cons p r ih => exact .cons (strKind_is prog w _ _) rfl ih
  · rw [List.map_map]; exact hnd
theorem tset_star {a d : Addr} {o : Obj} {vals : List Value} {es : List DictEntry} {l : List (Str × Tok × Value)} {n : Nat} {Q : Unit → Shared → Prop} (hh : A.handled = none) (F : Fr h₀ L s.heap m) (N : News h₀ L s.heap news) (U : UpdF a o news g) (hm : (d, dictOf es n) ∈ news) (he : es = entS w l) (hda : d ≠ a) (hsm : (d == sysModules) = false)
    (hS : TSet prog w o vals) (hn : vals.length + l.length ≤ 3) (hnd : (l.map (·.1)).Nodup) (hfr : ∀ p ∈ l, ∀ v ∈ vals, (strKind prog w).is p.1 v = false)
    (h : ∀ h' o' ks tk, Fr h₀ L h' m → News h₀ L h' (g o') → TSet prog w o' (vals ++ ks) → KeyVals (l.map (·.1)) ks → s.toks ≤ tk → Q () { s with heap := h', toks := tk }) : wpAny (model prog w) A (setDisplayStar a (.ref d)) Q E s := by
  subst he
  obtain ⟨pre, post, rfl, hg, h1, h2⟩ := U.split
  have ha := N (a, o) (List.mem_append_right _ (.head _))
  refine tset_star0 hh hda hsm (dictAt_ents (N _ hm).1 hnd) ha.1 hS (by rw [List.length_map]; exact hn) (fun kv hkv v hv => ?_) ?_
  · obtain ⟨p, hp, rfl⟩ := List.mem_map.mp hkv
    exact hfr p hp v hv
  · intro h' o' ks tk hk ho' hS' hks htk
    refine h h' o' ks tk ⟨F.ns.at' fun o e => hk L o (Ne.symm ha.2.1) e, fun b ob e => hk b ob (fun q => by rw [q, ha.2.2] at e; cases e) (F.keep b ob e), F.above⟩ ?_ hS' (by rw [List.map_map] at hks; exact hks) htk
    rw [hg]
    intro p hp
    rcases List.mem_append.mp hp with hp | hp
    · exact ⟨hk _ _ (h1 p hp) (N p (List.mem_append_left _ hp)).1, (N p (List.mem_append_left _ hp)).2⟩
    · rcases List.mem_cons.mp hp with rfl | hp
      · exact ⟨ho', ha.2⟩
      · exact ⟨hk _ _ (h2 p hp) (N p (List.mem_append_right _ (.tail _ hp))).1, (N p (List.mem_append_right _ (.tail _ hp))).2⟩
noncomputable abbrev freshSet (w : World) : Obj := { cls := .type "set", dict := none, data := .set #[] 0 (.fresh 0 0 (!byText w)) }
theorem set_star_eval {K : Frag} {e1 e2 : PySem.Expr} {p2 pos : Pos} {env : Env} {Q : Value → Shared → Prop} (F : Fr h₀ L s.heap m) (N : News h₀ L s.heap news) (X : K.In h₀) (hc : kdsCode K env.code = true)
    (hst : starEach [e1, .Starred e2 p2] env = [(false, eval e1 env), (true, eval e2 env)])
    (h : ∀ D h', Fr h₀ L h' m → News h₀ L h' ((D, freshSet w) :: news) → (∀ p ∈ news, p.1 < D) →
      wpAny (model prog w) A (eval e1 env) (fun v s1 => wpAny (model prog w) A (setAdd D v) (fun _ s2 => wpAny (model prog w) A (eval e2 env) (fun a s3 => wpAny (model prog w) A (setDisplayStar D a) (fun _ s4 => Q (.ref D) s4) E s3) E s2) E s1) E { s with heap := h' }) :
    wpAny (model prog w) A (eval (.Set [e1, .Starred e2 p2] 0 pos) env) Q E s := by
  rw [arm_eval_Set]
  refine wpAny_bind (wpAny_standAt ?_)
  refine wpAny_bind (kds_main (X.keeps F.keep) hc fun b => ?_)
  rw [hst]
  show wpAny _ _ (setDisplay .oneByOne b _) _ _ _
  unfold setDisplay
  rw [if_neg (by decide)]
  unfold newSet setsByText
  refine wpAny_bind (wpAny_bind (wpAny_bind (wpAny_askSetting (wpAny_pure ?_))))
  dsimp only
  simp only [newObj]
  refine wpAny_bind (wpAny_alloc (wpAny_pure ?_))
  dsimp only
  have hh := h s.heap.objs.size (s.heap.push (freshSet w)) (F.push _) (N.push F _) (fun p hp => Heap.lt_size (N p hp).1)
  refine wpAny_bind (wpAny_holding (wpAny_bind ?_))
  show wpAny _ _ (evalAll [eval e1 env >>= fun v => standAt pos >>= fun _ => pure v]) _ _ _
  refine wpAny_bind (wpAny_bind (wpAny_mono hh (fun v s1 h1 => ?_) fun _ _ x => x))
  refine wpAny_bind (wpAny_standAt (wpAny_pure ?_))
  refine wpAny_bind (wpAny_holding (wpAny_pure ?_))
  refine wpAny_pure ?_
  refine wpAny_bind (wpAny_holding (wpAny_bind ?_))
  rw [List.forIn_cons]
  refine wpAny_bind (wpAny_bind (wpAny_mono h1 (fun _ s2 h2 => ?_) fun _ _ x => x))
  refine wpAny_pure ?_
  dsimp only
  rw [List.forIn_nil]
  refine wpAny_pure ?_
  rw [if_neg (by decide)]
  refine wpAny_pure ?_
  refine wpAny_bind ?_
  show wpAny _ _ (forIn [(true, eval e2 env >>= fun v => standAt pos >>= fun _ => pure v)] PUnit.unit _) _ _ _
  rw [List.forIn_cons]
  refine wpAny_bind (wpAny_bind (wpAny_bind (wpAny_mono h2 (fun a s3 h3 => ?_) fun _ _ x => x)))
  refine wpAny_bind (wpAny_standAt (wpAny_pure ?_))
  dsimp only
  rw [if_pos rfl]
  refine wpAny_bind (wpAny_holding (wpAny_mono h3 (fun _ s4 h4 => ?_) fun _ _ x => x))
  refine wpAny_pure ?_
  dsimp only
  rw [List.forIn_nil]
  exact wpAny_pure (wpAny_pure (wpAny_pure h4))
end
end Mine
end
section
open PySem PySem.W PyProof.Rows PySem.Calls PySem.Spec PySem.MeetsSeq3
namespace Mine
section
variable {prog : Program} {w : World} {A : Around} {E : Value → Shared → Prop} {s : Shared}
noncomputable abbrev one (x : Str) (t : Tok) (n : Nat) : Obj := { cls := .type "list", data := .seq #[.str x t] n }
theorem loop_lt {a b : Addr} {x y : Str} {t u : Tok} {n k : Nat} : Meets (Builtin.«list.__eq__.loop» ⟨[.ref a, .ref b, rawInt 0, rawInt 0], []⟩)
    (fun _ R s => s.heap.get? a = some (one x t n) ∧ s.heap.get? b = some (one y u k) ∧ ∀ c, R (.ok (.ret (.bool c))) s) := by
  intro prog w A R s h
  obtain ⟨hp, g, d, tk, os⟩ := s; obtain ⟨ha, hb, h⟩ := h
  obtain ⟨i1, e1⟩ : ∃ i, i = #[Value.str x t] := ⟨_, rfl⟩
  obtain ⟨i2, e2⟩ : ∃ i, i = #[Value.str y u] := ⟨_, rfl⟩
  have hi1 : i1[((0 : Int)).toNat]? = some (.str x t) := by rw [e1]; rfl
  have hi2 : i2[((0 : Int)).toNat]? = some (.str y u) := by rw [e2]; rfl
  have hj1 : i1[((0 : Int) + 1).toNat]? = none := by rw [e1]; rfl
  have hj2 : i2[((0 : Int) + 1).toNat]? = none := by rw [e2]; rfl
  rw [show one x t n = { cls := .type "list", data := .seq i1 n } by rw [e1]] at ha
  rw [show one y u k = { cls := .type "list", data := .seq i2 k } by rw [e2]] at hb
  wp_walk using wpAny_loadPart' ha, wpAny_loadPart' hb
  rw [hi1, hi2]
  refine wpAny_bind (wpAny_eqBool_str ?_)
  by_cases hxy : x = y
  · rw [decide_eq_true hxy]
    wp_walk
    refine ⟨plainId_quiet plain_eq_loop _, codeAny_builtin entry_eq_loop ?_⟩
    rw [Around.under_plainId plain_eq_loop _]
    wp_walk using wpAny_loadPart' ha, wpAny_loadPart' hb
    rw [hj1, hj2]
    wp_walk using wpAny_loadPart' ha, wpAny_loadPart' hb
    exact h _
  · rw [decide_eq_false hxy]
    wp_walk using wpAny_loadPart' ha, wpAny_loadPart' hb
    rw [hi1, hi2]
    refine wpAny_bind (lt_str ?_)
    wp_walk
    exact h _
theorem list_lt (a b : Addr) (x y : Str) (t u : Tok) (n k : Nat) : Meets (Builtin.«list.__lt__» ⟨[.ref a, .ref b], []⟩)
    (fun _ R s => s.heap.get? a = some (one x t n) ∧ s.heap.get? b = some (one y u k) ∧ ∀ c, R (.ok (.ret (.bool c))) s) := by
  intro prog w A R s h
  obtain ⟨hp, g, d, tk, os⟩ := s; obtain ⟨ha, hb, h⟩ := h
  have f3 := AutoSeq1.sub_list_list
  wp_walk using wpAny_loadPart' ha, wpAny_loadPart' hb
  exact ⟨plainId_quiet plain_eq_loop _, codeAny_builtin entry_eq_loop (by
    rw [Around.under_plainId plain_eq_loop _]
    exact loop_lt prog w A R _ ⟨ha, hb, h⟩)⟩
theorem list_lt1 {a b : Addr} {x y : Str} {t u : Tok} {n k : Nat} {Q : Bool → Shared → Prop} (hu : A.units < cLine) (ha : s.heap.get? a = some (one x t n)) (hb : s.heap.get? b = some (one y u k)) (h : ∀ c, Q c s) : wpAny (model prog w) A (keyLt' oneType' (.ref a) (.ref b)) Q E s := by
  rw [keyLt'_oneType, oneLt'_eq]
  simp only [if_true]
  refine wpAny_bind (wpAny_cRoomFor hu ?_)
  have hT : s.TypeIs (.ref a) "list" := ⟨_, ha, rfl⟩
  refine wpAny_bind (wpAny_callSpecialIfBound?_slot hT PySem.F.slot_list_lt ?_)
  refine call_meets PySem.F.slot_list_lt hT PySem.F.entry_list_lt (PySem.F.args_list_lt_2 _ _) (list_lt a b x y t u n k) ⟨ha, hb, fun c => ?_⟩
  exact wpAny_truthy_bool (h c)
noncomputable def OneKeys (h : Heap) (ks : List Value) : Prop := ∀ v ∈ ks, ∃ a x t n, v = .ref a ∧ h.get? a = some (one x t n)
theorem kind_lists {ks : List Value} {Q : SortKind → Shared → Prop} (h2 : 2 ≤ ks.length) (hk : OneKeys s.heap ks) (h : Q oneType' s) : wpAny (model prog w) A (keyKind' (List.toArray ks)) Q E s :=
  kas_kind (T := .type "list") h2 (fun v hv => by
    obtain ⟨a, x, t, n, rfl, ho⟩ := hk v hv
    exact (Looks.ld ho).andThen .now) (by decide) (by decide) h
theorem ask_lists {ks : List Value} (hu : A.units < cLine) (hk : OneKeys s.heap ks) (i j : Nat) (hi : i < ks.length) (hj : j < ks.length) (C : Bool → Shared → Prop) (h : ∀ b, C b s) : kas_ask prog w A oneType' ks i j C s := by
  unfold kas_ask
  have e1 : ks.getD i Value.none = ks[i] := by simp [List.getD, hi]
  have e2 : ks.getD j Value.none = ks[j] := by simp [List.getD, hj]
  obtain ⟨a, x, t, n, ea, ho⟩ := hk ks[i] (List.getElem_mem hi)
  obtain ⟨b, y, u, k, eb, ho'⟩ := hk ks[j] (List.getElem_mem hj)
  rw [e1, e2, ea, eb]
  exact list_lt1 hu ho ho' h
end
noncomputable def allAsk {α : Type} (n : Nat) (P : α → Bool) : KasT α → Bool
  | .ret a => P a
  | .ask i j k => decide (i < n) && decide (j < n) && (allAsk n P (k true) && allAsk n P (k false))
theorem sortA2 : allAsk 2 (fun p => p.toList.isPerm [0, 1]) (kas_sort 2) = true := by decide +kernel
theorem sortA3 : allAsk 3 (fun p => p.toList.isPerm [0, 1, 2]) (kas_sort 3) = true := by decide +kernel
section
variable {prog : Program} {w : World} {A : Around} {E : Value → Shared → Prop} {s : Shared} {h₀ : Heap} {L : Addr} {m : Str → Option Value} {news : List (Addr × Obj)}
theorem kas_lists {α : Type} {P : α → Bool} {ks : List Value} {Q : α → Shared → Prop} (hu : A.units < cLine) (hk : OneKeys s.heap ks) (hQ : ∀ a, P a = true → Q a s) : ∀ t : KasT α, allAsk ks.length P t = true → t.kasWp (kas_ask prog w A oneType' ks) Q s
  | .ret a, h => hQ a h
  | .ask i j k, h => by
    simp only [allAsk, Bool.and_eq_true, decide_eq_true_eq] at h
    refine ask_lists hu hk i j h.1.1 h.1.2 _ fun b => ?_
    cases b with
    | true => exact kas_lists hu hk hQ (k true) h.2.1
    | false => exact kas_lists hu hk hQ (k false) h.2.2
structure KeyLed (h₀ : Heap) (L : Addr) (m : Str → Option Value) (kS : Addr) (ks : List Value) (e : Nat) (news rest : List (Addr × Obj)) (h : Heap) : Prop where
  F : Fr h₀ L h m
  N : News h₀ L h ((kS, seqObj "list" (List.toArray ks) e) :: rest)
  off : ∀ p ∈ rest, p.1 ≠ kS
  sub : ∀ p ∈ news, p ∈ rest
  ones : ∀ v ∈ ks, ∃ a x t n, v = .ref a ∧ (a, one x t n) ∈ rest
noncomputable def KeyCall (prog : Program) (w : World) (A : Around) (h₀ : Heap) (L : Addr) (m : Str → Option Value) (f : Value) (news : List (Addr × Obj)) (v : Value) : Prop :=
  ∀ (s : Shared) (nw : List (Addr × Obj)) (Q : Value → Shared → Prop), Fr h₀ L s.heap m → News h₀ L s.heap nw → (∀ p ∈ news, p ∈ nw) → 0 < s.toks →
    (∀ D x t n h' tk, Fr h₀ L h' m → News h₀ L h' ((D, one x t n) :: nw) → (∀ q ∈ nw, q.1 < D) → 0 < tk → Q (.ref D) { s with heap := h', toks := tk }) → wpAny (model prog w) A (call f [v]) Q (fun _ _ => False) s
theorem keys_go {kS : Addr} {f : Value} {Fin : List Value → Nat → Shared → Prop} : ∀ (r : List Value) (ks : List Value) (e : Nat) (s : Shared) (rest : List (Addr × Obj)), (∀ v ∈ r, KeyCall prog w A h₀ L m f news v) → KeyLed h₀ L m kS ks e news rest s.heap → 0 < s.toks →
    (∀ ks' e' h' tk' rest', ks'.length = ks.length + r.length → KeyLed h₀ L m kS ks' e' news rest' h' → (∀ p ∈ rest, p ∈ rest') → 0 < tk' → Fin ks' e' { s with heap := h', toks := tk' }) → KatKeys prog w A h₀ L m kS f Fin r ks e s
  | [], ks, e, s, rest, _, K, ht, hF => KatKeys.nil (hF ks e s.heap s.toks rest (by simp) K (fun _ h => h) ht)
  | v :: r, ks, e, s, rest, hc, K, ht, hF => by
    refine KatKeys.cons (hc v (List.mem_cons_self ..) s _ _ K.F K.N (fun p hp => .tail _ (K.sub p hp)) ht fun D x t n h' tk F' N' hlt htk => ?_)
    have hkD : kS < D := hlt _ (.head _)
    have N2 : News h₀ L h' ((kS, seqObj "list" (List.toArray ks) e) :: (D, one x t n) :: rest) := News.swap N'
    have hoff : ∀ p ∈ (D, one x t n) :: rest, p.1 ≠ kS := by
      intro p hp
      rcases List.mem_cons.mp hp with rfl | hp
      · exact Nat.ne_of_gt hkD
      · exact K.off p hp
    refine KatBack.intro F' N2 (UpdF.head hoff) fun h2 c F2 N3 => ?_
    refine keys_go r _ _ _ _ (fun u hu => hc u (List.mem_cons_of_mem _ hu)) ⟨F2, N3, hoff, fun p hp => .tail _ (K.sub p hp), ?_⟩ htk ?_
    · intro u hu
      rcases List.mem_append.mp hu with hu | hu
      · obtain ⟨a, x', t', n', rfl, ho⟩ := K.ones u hu
        exact ⟨a, x', t', n', rfl, .tail _ ho⟩
      · rw [List.mem_singleton.mp hu]
        exact ⟨D, x, t, n, rfl, .head _⟩
    · intro ks' e' h3 tk' rest' hl K' hs htk'
      exact hF ks' e' h3 tk' rest' (by rw [hl, List.length_append]; simp; (first | lia | omega)) K' (fun p hp => hs p (.tail _ hp)) htk'
theorem KeyLed.keys {kS : Addr} {ks : List Value} {e : Nat} {rest : List (Addr × Obj)} {h : Heap} (K : KeyLed h₀ L m kS ks e news rest h) : OneKeys h ks := fun v hv => by
  obtain ⟨a, x, t, n, rfl, hm⟩ := K.ones v hv
  exact ⟨a, x, t, n, rfl, (K.N _ (.tail _ hm)).1⟩
theorem perm_vals {vs : List Value} {p : Array Nat} (hp : p.toList.isPerm (List.range vs.length) = true) : (p.toList.map fun i => vs.getD i Value.none).Perm vs := by
  have h1 := (List.isPerm_iff.mp hp).map fun i => vs.getD i Value.none
  refine h1.trans (List.Perm.of_eq ?_)
  apply List.ext_getElem
  · simp
  · intro i h1 h2
    simp at h1
    simp [List.getD, h1]
theorem fin_list {kS D : Addr} {ks out : List Value} {e e1 : Nat} {rest : List (Addr × Obj)} {C : Shared → Prop} (K : KeyLed h₀ L m kS ks e news rest s.heap) (hD : (D, seqObj "list" #[] e1) ∈ rest) (hoff : ∀ p ∈ news, p.1 ≠ D) (hkD : @LT.lt Nat _ D kS)
    (h : ∀ h' c, Fr h₀ L h' m → News h₀ L h' ((D, listOf (List.toArray out) c) :: news) → C { s with heap := h' }) : KatFin h₀ L m kS D ks e e1 out C s := by
  have N2 : News h₀ L s.heap ((kS, seqObj "list" (List.toArray ks) e) :: (D, seqObj "list" #[] e1) :: news) := fun p hp => by
    rcases List.mem_cons.mp hp with rfl | hp
    · exact K.N _ (.head _)
    · rcases List.mem_cons.mp hp with rfl | hp
      · exact K.N _ (.tail _ hD)
      · exact K.N _ (.tail _ (K.sub p hp))
  refine KatFin.intro K.F N2 (UpdF.head fun p hp => ?_) fun h' c F' N' => ?_
  · rcases List.mem_cons.mp hp with rfl | hp
    · exact Nat.ne_of_lt hkD
    · exact K.off p (K.sub p hp)
  · refine KasFin.intro F' (fun p hp => N' p (.tail _ hp)) (UpdF.head hoff) fun h2 c2 F2 N3 => ?_
    exact h h2 c2 F2 N3
theorem tree1 {a : Addr} {f v : Value} {n : Nat} {P : PySem.Fin → Shared → Prop} (F : Fr h₀ L s.heap m) (N : News h₀ L s.heap news) (ho : s.heap.get? a = some (seqObj "list" #[v] n)) (haL : a ≠ L) (ha0 : h₀.get? a = none) (hna : ∀ p ∈ news, p.1 ≠ a)
    (h : ∀ kS e1 h', Fr h₀ L h' m → News h₀ L h' ((kS, seqObj "list" #[] 0) :: (a, seqObj "list" #[] e1) :: news) → a < kS → (∀ q ∈ news, q.1 < kS) →
      KatKeys prog w A h₀ L m kS f (fun ks e s' => KatFin h₀ L m kS a ks e e1 [v] (fun s4 => P (.done (.ret .none)) s4) s') [v] [] 0 { s with heap := h' }) :
    wpAny (model prog w) A (ksk_tree a f false) P E s := by
  have s1 := Heap.SameBut.update s.heap a (Obj.mapSeq fun _ => (#[] : Array Value))
  obtain ⟨e1, ho1⟩ : ∃ e1, (s.heap.update a (Obj.mapSeq fun _ => (#[] : Array Value))).get? a = some (seqObj "list" #[] e1) := ⟨_, get?_update_seq ho fun _ => #[]⟩
  have F1 : Fr h₀ L (s.heap.update a (Obj.mapSeq fun _ => (#[] : Array Value))) m := F.change s1 haL ha0
  have N1 : News h₀ L (s.heap.update a (Obj.mapSeq fun _ => (#[] : Array Value))) ((a, seqObj "list" #[] e1) :: news) := fun p hp => by
    rcases List.mem_cons.mp hp with rfl | hp
    · exact ⟨ho1, haL, ha0⟩
    · exact ⟨s1.extBut _ _ (hna p hp) (N p hp).1, (N p hp).2⟩
  have F2 := F1.push (seqObj "tuple" #[v] 0)
  have N2 : News h₀ L _ ((a, seqObj "list" #[] e1) :: news) := N1.grown fun _ _ e => Heap.get?_push_of_some (seqObj "tuple" #[v] 0) e
  have lts : ∀ p ∈ (a, seqObj "list" #[] e1) :: news, p.1 < ((s.heap.update a (Obj.mapSeq fun _ => (#[] : Array Value))).push (seqObj "tuple" #[v] 0)).objs.size := fun p hp => Heap.lt_size (N2 p hp).1
  unfold ksk_tree
  refine wpAny_bind (listItems_at ho rfl ?_)
  refine wpAny_bind (listUpdate_at ho rfl ?_ (by rw [sizeLine_eq]; simp) (Nat.zero_le _))
  refine wpAny_bind (seqEpoch_at ho1 rfl ?_)
  refine wpAny_bind (wpAny_newTuple ?_ (by rw [sizeLine_eq]; simp))
  refine wpAny_bind (wpAny_newList ?_ (Nat.zero_le _))
  refine wpAny_holding ?_
  have hk := h _ e1 _ (F2.push (seqObj "list" #[] 0)) (N2.push F2 (seqObj "list" #[] 0) rfl) (lts _ (.head _)) fun q hq => lts q (.tail _ hq)
  unfold ksk_rest
  refine wpAny_bind (wpAny_rule ?_)
  rw [← Array.forIn_toList]
  show wpAny _ _ (forIn [v] PUnit.unit _ >>= _) _ _ _
  rw [List.forIn_cons]
  have hk' : wpAny (model prog w) A (call f [v]) _ (fun _ _ => False) _ := hk
  refine wpAny_bind (wpAny_bind (wpAny_bind (wpAny_attempt (wpAny_mono hk' (fun k s2 hb => ?_) fun _ _ x => x.elim))))
  obtain ⟨nw, g, F3, N3, U, c⟩ := hb
  obtain ⟨pre, post, e0, hg, x1, x2⟩ := U.split
  rw [e0] at N3
  have nk := N3 (_, seqObj "list" (List.toArray []) 0) (List.mem_append_right _ (.head _))
  dsimp only
  refine wpAny_bind (listUpdate_at nk.1 rfl ?_ (Nat.zero_le _) (by rw [sizeLine_eq]; simp))
  refine wpAny_pure ?_
  dsimp only
  rw [List.forIn_nil]
  refine wpAny_pure ?_
  have s3 := Heap.SameBut.update s2.heap ((s.heap.update a (Obj.mapSeq fun _ => (#[] : Array Value))).push (seqObj "tuple" #[v] 0)).objs.size (Obj.mapSeq (·.push k))
  obtain ⟨c2, hc2⟩ : ∃ c2, (s2.heap.update ((s.heap.update a (Obj.mapSeq fun _ => (#[] : Array Value))).push (seqObj "tuple" #[v] 0)).objs.size (Obj.mapSeq (·.push k))).get? ((s.heap.update a (Obj.mapSeq fun _ => (#[] : Array Value))).push (seqObj "tuple" #[v] 0)).objs.size = some (seqObj "list" #[k] c2) := ⟨_, get?_update_seq nk.1 (·.push k)⟩
  have fin := c _ c2 (F3.change s3 nk.2.1 nk.2.2) (by rw [hg]; exact news_set N3 x1 x2 s3 hc2)
  refine wpAny_bind (listItems_at hc2 rfl ?_)
  unfold ksk_end
  dsimp only
  rw [if_neg Bool.false_ne_true, if_pos (by simp)]
  refine wpAny_bind (wpAny_pure ?_)
  rw [if_pos (by simp)]
  refine wpAny_bind (wpAny_pure ?_)
  refine kat_tail (h₀ := h₀) (L := L) (m := m) (b := false) (ks := [k]) (out := [v]) (e := c2) ?_ (by simp) (by simp) rfl ?_
  · rw [if_neg Bool.false_ne_true]
    show Array.map (fun x => x.snd) (#[k].zip #[v]) = #[v]
    simp
  exact fin
theorem sorted_names {a q : Addr} {o : Obj} {vals : List Value} {Q : Value → Shared → Prop} (hh : A.handled = none) (hu : A.in1.in1.units < cLine) (F : Fr h₀ L s.heap m) (N : News h₀ L s.heap news) (hm : (a, o) ∈ news) (hS : TSet prog w o vals) (h1 : 1 ≤ vals.length) (h3 : vals.length ≤ 3) (ht : 0 < s.toks)
    (hf : ∀ v ∈ vals, KeyCall prog w A.in1.in1 h₀ L m (.ref q) news v)
    (h : ∀ D vs n h' d tk, vs.Perm vals → Fr h₀ L h' m → News h₀ L h' ((D, listOf (List.toArray vs) n) :: news) → (∀ p ∈ news, p.1 < D) → 0 < tk → Q (.ref D) { s with heap := h', drawn := d, toks := tk }) :
    wpAny (model prog w) A (call (.builtin "sorted") [.ref a] [(Str.ofString "key", .ref q)]) Q E s := by
  by_cases h2 : 2 ≤ vals.length
  · refine sorted_tset hh F N hm hS h2 h3 (ksk_s1 _ _) (fun _ => ksk_l1 _ _) (fun x => ksk_t1 q x) fun vs d tk hp htk D kS e1 h' F' N' l0 l1 => ?_
    have hvl := hp.length_eq
    refine keys_go vs [] 0 _ ((D, seqObj "list" #[] e1) :: news) (fun v hv => hf v (hp.mem_iff.mp hv)) ⟨F', N', fun p hp => ?_, fun p hp => .tail _ hp, fun v hv => by cases hv⟩ (Nat.lt_of_lt_of_le ht htk) ?_
    · rcases List.mem_cons.mp hp with rfl | hp
      · exact Nat.ne_of_lt l0
      · exact Nat.ne_of_lt (Nat.lt_trans (l1 p hp) l0)
    · intro ks e h2' tk' rest hl K hsub htk'
      have hl' : ks.length = vals.length := by rw [← hvl]; simpa using hl
      refine kind_lists (by (first | lia | omega)) K.keys ?_
      have hall : allAsk ks.length (fun p => p.toList.isPerm (List.range vs.length)) (kas_sort vs.length) = true := by
        rw [hl', hvl]
        rcases (by (first | lia | omega) : vals.length = 2 ∨ vals.length = 3) with e | e
        · rw [e]; exact sortA2
        · rw [e]; exact sortA3
      refine kas_lists hu K.keys (fun p hpp => ?_) _ hall
      refine fin_list K (hsub _ (.head _)) (fun q hq => Nat.ne_of_lt (l1 q hq)) l0 fun h4 c F4 N4 => ?_
      exact h D _ c h4 d tk' ((perm_vals hpp).trans hp) F4 N4 l1 htk'
  · refine call_function_entry_kw kind_sorted plain_sorted entry_sorted (ksk_s1 _ _) ?_
    unfold Builtin.«sorted»
    refine wpAny_bind (m := checkCount "sorted" 1 1 _) (wpAny_pure ?_)
    refine wpAny_bind (collect_tset (A := A.in1) hh (N _ hm).1 hS h1 h3 fun s₁ vs hp keep hg hos htk => ?_)
    have hvl : vs.length = vals.length := hp.length_eq
    obtain ⟨v, rfl⟩ := List.length_eq_one_iff.mp (show vs.length = 1 by (first | lia | omega))
    obtain ⟨hp1, g1, d1, t1, os1⟩ := s₁
    simp only at keep hg hos htk
    subst hg; subst hos
    have F1 : Fr h₀ L hp1 m := F.kept keep
    have N1 : News h₀ L hp1 news := N.grown keep
    refine wpAny_bind (wpAny_newList ?_ (by rw [sizeLine_eq]; simp))
    have hL : L < hp1.objs.size := F1.ns.lt
    have hoL : (hp1.push (seqObj "list" #[v] 0)).get? hp1.objs.size = some (seqObj "list" #[v] 0) := Heap.get?_push_size _ rfl
    refine wpAny_bind (wpAny_holding (wpAny_call_entry_kw slot_list_sort ⟨_, hoL, rfl⟩ entry_list_sort ?body (ksk_l1 _ _)))
    case body =>
      show wpAny (model prog w) A.in1.in1 (Builtin.«list.sort» ⟨[.ref hp1.objs.size], [(Str.ofString "key", .ref q)]⟩) _ _ _
      rw [ksk_t1]
      refine tree1 (s := { s with heap := hp1.push (seqObj "list" #[v] 0), drawn := d1, toks := t1 }) (F1.push _) (N1.grown fun _ _ e => Heap.get?_push_of_some _ e) hoL (Nat.ne_of_gt hL) (Heap.get?_none_of_le (Nat.le_trans F1.above (Nat.le_of_lt hL))) (fun p hp => Nat.ne_of_lt (Heap.lt_size (N1 p hp).1)) fun kS e1 h' F' N' l0 l1 => ?_
      refine keys_go [v] [] 0 _ ((hp1.objs.size, seqObj "list" #[] e1) :: news) (fun u hu => hf u (hp.mem_iff.mp hu)) ⟨F', N', fun p hp => ?_, fun p hp => .tail _ hp, fun v hv => by cases hv⟩ (Nat.lt_of_lt_of_le ht htk) ?_
      · rcases List.mem_cons.mp hp with rfl | hp
        · exact Nat.ne_of_lt l0
        · exact Nat.ne_of_lt (l1 p hp)
      · intro ks e h2' tk' rest hl K hsub htk'
        refine fin_list K (hsub _ (.head _)) (fun q hq => Nat.ne_of_lt (Heap.lt_size (N1 q hq).1)) l0 fun h4 c F4 N4 => ?_
        refine ⟨_, rfl, wpAny_pure ⟨_, rfl, ?_⟩⟩
        exact h _ [v] c h4 d1 tk' hp F4 N4 (fun q hq => Heap.lt_size (N1 q hq).1) htk'
end
end Mine
end
section
open PySem PySem.W PyProof.Rows PySem.Calls PySem.Spec
namespace Mine
section
variable {prog : Program} {w : World} {A : Around} {E : Value → Shared → Prop} {s : Shared} {h₀ : Heap} {L : Addr} {m : Str → Option Value} {env : Env}
noncomputable def DcTurn (prog : Program) (w : World) (A : Around) (h₀ : Heap) (L : Addr) (m : Str → Option Value) (env : Env) (kx vx : PySem.Expr) (x : Str) (scope : Scope) (cl : List (Str × Addr)) (s₁ : Shared) (vs : List Value) (J : Nat → List (Str × Value) → List (Addr × Obj) → Nat → Prop) : Prop :=
  ∀ i v kvs nw tk h I oI C oC D oD m₂, vs[i]? = some v → J i kvs nw tk → LCg.NsObj oC m₂ → m₂ x = some v → oD.IsDictOf (strKind prog w) kvs → Fr h₀ L h m → News h₀ L h ((I, oI) :: (C, oC) :: (D, oD) :: nw) → LCg.Off3 I C D nw → (@Ne Nat I C ∧ @Ne Nat I D ∧ @Ne Nat C D) →
    wpAny (model prog w) A (eval kx (compEnvC scope cl C env)) (fun kv s₂ => wpAny (model prog w) A (eval vx (compEnvC scope cl C env)) (fun vv s₃ => ∃ key t nw' h' tk', kv = .str key t ∧ key ∉ kvs.map (·.1) ∧ s₃ = { s₁ with heap := h', toks := tk' } ∧ Fr h₀ L h' m ∧
      News h₀ L h' ((I, oI) :: (C, oC) :: (D, oD) :: nw') ∧ LCg.Off3 I C D nw' ∧ J (i + 1) (kvs ++ [(key, vv)]) nw' (tk' + 1)) Nay s₂) Nay { s₁ with heap := h, toks := tk }
noncomputable def DcSrc (prog : Program) (w : World) (A : Around) (h₀ : Heap) (L : Addr) (m : Str → Option Value) (env : Env) (kx vx : PySem.Expr) (x : Str) (scope : Scope) (cl : List (Str × Addr)) (Fin : Addr → Heap → Nat → List (Str × Value) → List (Addr × Obj) → Obj → Shared → Prop) (xv : Value) (s₁ : Shared) : Prop :=
  ∃ l vs n news, ∃ J : Nat → List (Str × Value) → List (Addr × Obj) → Nat → Prop, xv = .ref l ∧ A.handled = none ∧ Fr h₀ L s₁.heap m ∧ News h₀ L s₁.heap news ∧ vs.length ≤ 1000 ∧ (∀ tk, s₁.toks ≤ tk → J 0 [] news tk) ∧ (∀ i kvs nw tk, J i kvs nw tk → (l, listOf (List.toArray vs) n) ∈ nw ∧ kvs.length = i) ∧ (∀ i kvs nw tk tk', J i kvs nw tk → tk ≤ tk' → J i kvs nw tk') ∧
    (∀ g, DcTurn prog w A h₀ L m env kx vx x scope cl { s₁ with heap := g } vs J) ∧
    ∀ g D h tk kvs nw oD, J vs.length kvs nw tk → oD.IsDictOf (strKind prog w) kvs → Fr h₀ L h m → News h₀ L h ((D, oD) :: nw) → LCg.Off1 D nw → Fin D h tk kvs nw oD { s₁ with heap := g }
theorem stored_new {kvs : List (Str × Value)} {k : Str} {v : Value} (h : k ∉ kvs.map (·.1)) : stored kvs k v = kvs ++ [(k, v)] := by
  unfold stored
  rw [if_neg]
  simp only [List.any_eq_true, decide_eq_true_eq, not_exists, not_and]
  intro p hp e
  exact h (e ▸ List.mem_map_of_mem hp)
noncomputable def DcInv (prog : Program) (w : World) (h₀ : Heap) (L : Addr) (m : Str → Option Value) (s : Shared) (l : Addr) (vs : List Value) (I C D : Nat) (J : Nat → List (Str × Value) → List (Addr × Obj) → Nat → Prop) (k : Nat) (s' : Shared) : Prop := ∃ h' tk i kvs m' nw oD, s' = { s with heap := h', toks := tk } ∧ i ≤ vs.length ∧ k = vs.length + 1 - i ∧ h'.IsListIter I l i ∧ Fr h₀ L h' m ∧ h'.Ns C m' ∧ oD.IsDictOf (strKind prog w) kvs ∧ News h₀ L h' ((D, oD) :: nw) ∧ LCg.Off3 I C D nw ∧ J i kvs nw tk
theorem dc_block {kx vx iter : PySem.Expr} {x : Str} {px : Pos} {scope : Scope} {cl : List (Str × Addr)} {pos : Pos} {l : Addr} {vs : List Value} {n : Nat} {news : List (Addr × Obj)} {J : Nat → List (Str × Value) → List (Addr × Obj) → Nat → Prop} {RR : Value → Addr → Result → Shared → Prop}
    (hh : A.handled = none) (hcell : ∀ y ∈ scope.names, y.2 ≠ .cell) (hkind : scope.kind = .function) (hx : scope.names.lookup x = some .local) (F : Fr h₀ L s.heap m) (N : News h₀ L s.heap news) (hlen : vs.length ≤ 1000) (hJ0 : ∀ tk, s.toks ≤ tk → J 0 [] news tk) (hJl : ∀ i kvs nw tk, J i kvs nw tk → (l, listOf (List.toArray vs) n) ∈ nw ∧ kvs.length = i) (hJm : ∀ i kvs nw tk tk', J i kvs nw tk → tk ≤ tk' → J i kvs nw tk')
    (turn : ∀ g, DcTurn prog w A h₀ L m env kx vx x scope cl { s with heap := g } vs J)
    (hRR : ∀ D C h tk m' kvs nw oD, J vs.length kvs nw tk → oD.IsDictOf (strKind prog w) kvs → Fr h₀ L h m → News h₀ L h ((D, oD) :: nw) → LCg.Off1 D nw → h.Ns C m' → h₀.get? C = none → C ≠ L → C ≠ D → (∀ p ∈ nw, p.1 ≠ C) → RR (.ref D) C (.ok .next) { s with heap := h, toks := tk }) :
    wpAny (model prog w) A (pyIter (.ref l)) (fun it s₂ => wpAny (model prog w) A newDict (fun acc s₃ => wpAny (model prog w) A (newFunctionEnv scope env.globals cl [] env.qual none .none (some env)) (fun cenv s₄ =>
      codeAny (model prog w) A (.compStart (.DictComp kx vx [⟨.Name x px, iter, [], 0⟩] scope pos) 0 it acc { cenv with scope := relabel scope env }) (RR acc cenv.locals) s₄) E s₃) E s₂) E s := by
  have hlm := (hJl 0 [] news s.toks (hJ0 _ (Nat.le_refl _))).1
  have hl : s.heap.IsList l vs.toArray := News.isList N hlm
  refine wpAny_pyIter_list hl ?_
  let I : Nat := s.heap.objs.size
  refine wpAny_newObj_type (wpAny_newFunctionEnv hcell (by intro y hy; simp at hy) (fun h₁ hns₁ hsb₁ => ?_) hkind)
  dsimp only at hns₁ hsb₁ ⊢
  generalize hH1 : s.heap.push { cls := .type "list_iterator", data := .fields #[.ref l, .int 0 0] } = H1 at hns₁ hsb₁ ⊢
  have z1 : H1.objs.size = I + 1 := by rw [← hH1, Heap.size_push]
  have hnew : (H1.push { cls := .type "dict", dict := none, data := .dict #[] }).DictOf (strKind prog w) H1.objs.size [] := Heap.DictOf.new H1
  generalize hH2 : H1.push { cls := .type "dict", dict := none, data := .dict #[] } = H2 at hns₁ hsb₁ hnew ⊢
  have z2 : H2.objs.size = I + 2 := by rw [← hH2, Heap.size_push, z1]
  have F1 : Fr h₀ L H1 m := hH1 ▸ F.push _
  have F2 : Fr h₀ L H2 m := hH2 ▸ F1.push _
  have N1 : News h₀ L H1 ((I, { cls := .type "list_iterator", data := .fields #[.ref l, .int 0 0] }) :: news) := hH1 ▸ N.push F _
  obtain ⟨oD, hoD, hdD⟩ := Heap.dictOf_iff.mp hnew
  have N2 : News h₀ L H2 ((H1.objs.size, oD) :: (I, { cls := .type "list_iterator", data := .fields #[.ref l, .int 0 0] }) :: news) := fun p hp => by
    rcases List.mem_cons.mp hp with rfl | hp
    · exact ⟨hoD, Nat.ne_of_gt F1.ns.lt, Heap.get?_none_of_le (Nat.le_trans F1.above (Nat.le_of_lt F1.ns.lt))⟩
    · exact ⟨hH2 ▸ Heap.get?_push_of_some _ (N1 p hp).1, (N1 p hp).2⟩
  have hLC : L < H2.objs.size := F2.ns.lt
  have hC0 : h₀.get? H2.objs.size = none := Heap.get?_none_of_le (Nat.le_trans F2.above (Nat.le_of_lt hLC))
  have up : ∀ b o, H2.get? b = some o → h₁.get? b = some o := fun b o e => hsb₁.extBut b o (Nat.ne_of_lt (Heap.lt_size e)) (Heap.get?_push_of_some _ e)
  have F3 : Fr h₀ L h₁ m := F2.keeps up
  have N3 : News h₀ L h₁ ((H1.objs.size, oD) :: (I, { cls := .type "list_iterator", data := .fields #[.ref l, .int 0 0] }) :: news) := N2.grown up
  have ltI : ∀ p ∈ news, p.1 < I := fun p hp => Heap.lt_size (N p hp).1
  have hIl : h₁.IsListIter I l 0 := ⟨_, (N3 _ (.tail _ (.head _))).1, rfl, rfl⟩
  have hID : @LT.lt Nat _ I H1.objs.size := by rw [z1]; exact Nat.lt_succ_self _
  have hDC : H1.objs.size < H2.objs.size := by rw [z1, z2]; exact Nat.lt_succ_self _
  have hIC : @LT.lt Nat _ I H2.objs.size := Nat.lt_trans hID hDC
  have hIL : L ≠ I := Nat.ne_of_lt F.ns.lt
  have hI0 : h₀.get? I = none := Heap.get?_none_of_le (Nat.le_trans F.above (Nat.le_of_lt F.ns.lt))
  have hDL : H1.objs.size ≠ L := Nat.ne_of_gt F1.ns.lt
  have hD0 : h₀.get? H1.objs.size = none := Heap.get?_none_of_le (Nat.le_trans F1.above (Nat.le_of_lt F1.ns.lt))
  generalize H1.objs.size = D at *
  generalize H2.objs.size = C at *
  have loop : ∀ s₃ : Shared, s₃ = { s with heap := h₁, toks := s.toks + ([] : List (Str × Value)).length } →
      codeAny (model prog w) A (.compLoop (.DictComp kx vx [⟨.Name x px, iter, [], 0⟩] scope pos) 0 (.ref I) (.ref D) (compEnvC scope cl C env)) (RR (.ref D) C) s₃ := by
    rintro s₃ rfl
    refine codeAny_compLoop_testsD (DcInv prog w h₀ L m s l vs I C D J) ?_ (vs.length + 1)
      ⟨h₁, _, 0, [], _, news, oD, rfl, Nat.zero_le _, rfl, hIl, F3, hns₁, hdD, fun p hp => ?_, LCg.Off3.of fun p hp => ?_, hJ0 _ (Nat.le_add_right _ _)⟩
    · rintro k s' ⟨h', tk, i, kvs, m', nw, oD', rfl, hi, rfl, hit, F', hn', hdk, N', off, hj⟩
      have Nnw : News h₀ L h' nw := fun p hp => N' p (.tail _ hp)
      have hls : h'.IsList l vs.toArray := News.isList Nnw (hJl _ _ _ _ hj).1
      have off3 := off.mem
      have keep : ∀ h'', Heap.ExtBut I h' h'' → Fr h₀ L h'' m ∧ News h₀ L h'' ((D, oD') :: nw) ∧ h''.Ns C m' := fun h'' hs => by
        refine ⟨⟨F'.ns.at' fun o e => hs L o hIL e, fun b o e => hs b o (fun q => by rw [q, hI0] at e; cases e) (F'.keep b o e), F'.above⟩, fun p hp => ?_, hn'.at' fun o e => hs C o (Nat.ne_of_gt hIC) e⟩
        refine ⟨hs _ _ ?_ (N' p hp).1, (N' p hp).2⟩
        rcases List.mem_cons.mp hp with rfl | hp
        · exact Nat.ne_of_gt hID
        · exact (off3 p hp).1
      by_cases hlt : i < vs.length
      · refine wpAny_pyNext_list_item (s := { s with heap := h', toks := tk }) hit hls (x := vs[i]) (by simp [hlt]) fun h₂ hit₂ hs₂ => ?_
        obtain ⟨F₂, N₂, hn₂⟩ := keep h₂ hs₂.extBut
        dsimp only
        refine wpAny_assign_Name (wpAny_storeName_local (lookup_relabel_local hx) hn₂ (fun h₃ hn₃ hs₃ => ?_) (by simp [compEnvC, relabel, hkind]))
        have hCL : C ≠ L := Nat.ne_of_gt hLC
        have F₃ : Fr h₀ L h₃ m := F₂.change hs₃ hCL hC0
        obtain ⟨oC, heC, hoC⟩ := LCg.ns_obj hn₃
        obtain ⟨oI, heI, hcI, hdI⟩ := hit₂.extBut hs₃.extBut (Nat.ne_of_lt hIC)
        have N₃ : News h₀ L h₃ ((I, oI) :: (C, oC) :: (D, oD') :: nw) := fun p hp => by
          rcases List.mem_cons.mp hp with rfl | hp
          · exact ⟨heI, Ne.symm hIL, hI0⟩
          · rcases List.mem_cons.mp hp with rfl | hp
            · exact ⟨heC, hCL, hC0⟩
            · refine ⟨hs₃.extBut _ _ ?_ (N₂ p hp).1, (N₂ p hp).2⟩
              rcases List.mem_cons.mp hp with rfl | hp
              · exact Nat.ne_of_lt hDC
              · exact (off3 p hp).2.1
        refine wpAny_tests_nil ?_
        simp only [if_true]
        refine ok_mono (turn s.heap i vs[i] kvs nw _ h₃ I oI C oC D oD' _ (by simp [hlt]) (hJm _ _ _ _ _ hj (Nat.le_succ _)) hoC (by simp) hdk F₃ N₃ off ⟨Nat.ne_of_lt hIC, Nat.ne_of_lt hID, Nat.ne_of_gt hDC⟩) fun kv s₄ h₄ => ok_mono h₄ fun vv s₅ h₅ => ?_
        obtain ⟨key, t, nw', h₆, tk', rfl, hnk, rfl, F₆, N₆, off₆, hj₆⟩ := h₅
        have zD := (N₆ (D, oD') (.tail _ (.tail _ (.head _)))).1
        have zI := (N₆ (I, oI) (.head _)).1
        have zC := (N₆ (C, oC) (.tail _ (.head _))).1
        have off6 := off₆.mem
        have hkl := (hJl _ _ _ _ hj).2
        refine wpAny_dictSet_pairs (knd := strKind prog w) (k := key) (strKind_is prog w key t) (Heap.dictOf_iff.mpr ⟨oD', zD, hdk⟩) (fun h₇ hd₇ hs₇ => ?_) (by rw [sizeLine_eq]; (first | lia | omega))
        rw [stored_new hnk] at hd₇
        obtain ⟨oD₇, ho₇, hd₇⟩ := Heap.dictOf_iff.mp hd₇
        refine ⟨vs.length + 1 - (i + 1), n_sub (Nat.lt_succ_of_lt hlt), h₇, _, i + 1, _, _, nw', oD₇, rfl, hlt, rfl, ⟨oI, hs₇.extBut _ _ (Nat.ne_of_lt hID) zI, hcI, hdI⟩, F₆.change hs₇ hDL hD0, (hoC.ns zC).sameBut hs₇ (Nat.ne_of_gt hDC), hd₇, fun p hp => ?_, off₆, hj₆⟩
        rcases List.mem_cons.mp hp with rfl | hp
        · exact ⟨ho₇, hDL, hD0⟩
        · exact ⟨hs₇.extBut _ _ (off6 p hp).2.2 (N₆ p (.tail _ (.tail _ (.tail _ hp)))).1, (N₆ p (.tail _ (.tail _ (.tail _ hp)))).2⟩
      · obtain rfl : i = vs.length := by (first | lia | omega)
        refine wpAny_pyNext_list_end (s := { s with heap := h', toks := tk }) hh hit hls (by simp) fun h₂ hs₂ => ?_
        obtain ⟨F₂, N₂, hn₂⟩ := keep h₂ hs₂
        exact hRR D C h₂ tk _ kvs nw oD' hj hdk F₂ N₂ off.one hn₂ hC0 (Nat.ne_of_gt hLC) (Nat.ne_of_gt hDC) fun p hp => (off3 p hp).2.1
    · rcases List.mem_cons.mp hp with rfl | hp
      · exact N3 _ (.head _)
      · exact N3 _ (.tail _ (.tail _ hp))
    · have := ltI p hp
      exact ⟨Nat.ne_of_lt this, Nat.ne_of_lt (Nat.lt_trans this hIC), Nat.ne_of_lt (Nat.lt_trans this hID)⟩
  refine codeAny_compStart_dict (loop _ rfl) ?_
  refine wpAny_pyIter_listiter hIl ?_
  exact loop _ rfl
noncomputable def DcFin (h₀ : Heap) (L : Addr) (m : Str → Option Value) (y : Str) (Q : Flow → Shared → Prop) (D : Addr) (_h : Heap) (_tk : Nat) (_kvs : List (Str × Value)) (nw : List (Addr × Obj)) (oD : Obj) (s : Shared) : Prop :=
  ∀ h' tk', Fr h₀ L h' (fun z => if z = y then some (.ref D) else m z) → News h₀ L h' ((D, oD) :: nw) → LCg.Off1 D nw → _tk ≤ tk' → Q .next { s with heap := h', toks := tk' }
theorem assign_dc {kx vx iter : PySem.Expr} {x y : Str} {px py : Pos} {scope : Scope} {cl : List (Str × Addr)} {pos spos : Pos} {Q : Flow → Shared → Prop} (_F₀ : Fr h₀ L s.heap m) (hLe : env.locals = L)
    (hsw : swapsWith (.DictComp kx vx [⟨.Name x px, iter, [], 0⟩] scope pos) (some (.Name y py)) spos.line env = pure true)
    (hclos : closureFor scope env = pure cl) (hcell : ∀ z ∈ scope.names, z.2 ≠ .cell) (hkind : scope.kind = .function)
    (hnames : ∀ z ∈ scope.names, z.2 = .local → scope.names.lookup z.1 = some .local) (hx : scope.names.lookup x = some .local)
    (hy : env.kindOf y = some .local) (hp : (env.scope.kind == .class || (env.scope.kind == .module && env.locals != env.globals)) = false)
    (h : wpAny (model prog w) A (eval iter env) (DcSrc prog w A h₀ L m env kx vx x scope cl (DcFin h₀ L m y Q)) E s)
    (hs : ∀ x, foldedSetIterable iter env x = pure x := by intro _; rfl) :
    wpAny (model prog w) A (exec (.Assign [.Name y py] (.DictComp kx vx [⟨.Name x px, iter, [], 0⟩] scope pos) spos) env) Q E s := by
  subst hLe
  rw [exec_Assign_Name_used _ _ _ _ hsw]
  refine wpAny_bind (wpAny_standAt (wpAny_bind ?_))
  show wpAny _ A (do let _ ← comprehension (.DictComp kx vx [⟨.Name x px, iter, [], 0⟩] scope pos) scope env _ newDict false (eval iter env) (some (assign (.Name y py) env))) _ _ s
  refine wpAny_bind (wpAny_mono (wpAny_comprehension_free (use := some (assign (.Name y py) env)) (Q := fun _ s' => Q .next s') rfl hs hclos hkind hnames
    (wpAny_mono h (fun xv s₁ h₁ => ?_) fun _ _ e => e)) (fun _ s' hq => wpAny_pure (wpAny_pure hq)) fun _ _ e => e)
  obtain ⟨l, vs, n, news, J, rfl, hh, F, N, hlen, hJ0, hJl, hJm, turn, fin⟩ := h₁
  refine dc_block hh hcell hkind hx F N hlen hJ0 hJl hJm turn ?_
  intro D C h' tk m' kvs nw oD hj hd F' N' o1 hn hC₀ hCL hCD offC
  show wpAny _ A (assign (.Name y py) env (.ref D)) _ _ _
  refine wpAny_assign_Name (wpAny_storeName_local hy F'.ns (fun h₂ hn₂ hs₂ => ?_) hp)
  have hL₀ : h₀.get? env.locals = none := Heap.get?_none_of_le F'.above
  have F₂ : Fr h₀ env.locals h₂ (fun z => if z = y then some (.ref D) else m z) := ⟨hn₂, fun b o e => hs₂.extBut b o (fun q => by rw [q, hL₀] at e; cases e) (F'.keep b o e), F'.above⟩
  refine ⟨m', hn.sameBut hs₂ hCL, fun h'' hs'' => fin s₁.heap D h' tk kvs nw oD hj hd F' N' o1 h'' _ (F₂.change hs'' hCL hC₀) (fun p hp => ?_) o1 (by simp)⟩
  have z : h₂.get? p.1 = some p.2 := hs₂.extBut _ _ (N' p hp).2.1 (N' p hp).1
  refine ⟨hs''.extBut _ _ ?_ z, (N' p hp).2⟩
  rcases List.mem_cons.mp hp with rfl | hp
  · exact Ne.symm hCD
  · exact offC p hp
end
end Mine
end
section
open PySem PySem.W PyProof.Rows PySem.Calls PySem.Spec
namespace Mine
inductive UpdT (d : Addr) (o : Obj) (tl : List (Addr × Obj)) : List (Addr × Obj) → (Obj → List (Addr × Obj) → List (Addr × Obj)) → Prop
  | here : (∀ p ∈ tl, p.1 ≠ d) → UpdT d o tl ((d, o) :: tl) (fun o' t => (d, o') :: t)
  | cons {p r g} : @Ne Nat p.1 d → UpdT d o tl r g → UpdT d o tl (p :: r) (fun o' t => p :: g o' t)
theorem UpdT.split {d : Addr} {o : Obj} {tl : List (Addr × Obj)} : ∀ {l : List (Addr × Obj)} {g : Obj → List (Addr × Obj) → List (Addr × Obj)}, UpdT d o tl l g → ∃ pre, l = pre ++ (d, o) :: tl ∧ (∀ o' t, g o' t = pre ++ (d, o') :: t) ∧ (∀ p ∈ pre, p.1 ≠ d) ∧ ∀ p ∈ tl, p.1 ≠ d
  | _, _, .here h => ⟨[], rfl, fun _ _ => rfl, (fun _ h => (nomatch h)), h⟩
  | _, _, .cons (p := p) h r => by
    obtain ⟨pre, a, b, c, e⟩ := r.split
    refine ⟨p :: pre, by rw [a]; rfl, fun o' t => by show p :: _ = _; rw [b]; rfl, fun q hq => ?_, e⟩
    rcases List.mem_cons.mp hq with rfl | hq
    · exact h
    · exact c q hq
theorem UpdT.updF {d : Addr} {o : Obj} {tl : List (Addr × Obj)} : ∀ {l : List (Addr × Obj)} {g : Obj → List (Addr × Obj) → List (Addr × Obj)}, UpdT d o tl l g → UpdF d o l (fun o' => g o' tl)
  | _, _, .here h => .head h
  | _, _, .cons h r => .tail h r.updF
noncomputable abbrev lamQ : Str := Str.ofString "C14NWriterTarget._start.<locals>." ++ Str.ofString "<lambda>"
noncomputable def TabOk (pt : Array Value) (tl : List (Addr × Obj)) : Prop := pt = #[] ∨ ∃ c' oc vs t, pt = #[rawInt 135, rawInt 71, .ref c'] ∧ (c', oc) ∈ tl ∧ oc.data = .fields vs ∧ vs[1]? = some (.str lamQ t)
section
variable {M : Model} {A : Around} {E : Value → Shared → Prop} {s : Shared} {h₀ : Heap} {L a c : Addr} {m mg mb : Str → Option Value} {cn : Str} {cs : Scope} {ccd : Value} {cl : List (Str × Addr)} {news tl : List (Addr × Obj)} {g : Obj → List (Addr × Obj) → List (Addr × Obj)}
  {p : Program} {loose : List Str} {mean : ExcName → Option Value} {name qual : Str} {params : Arguments} {body : PySem.Expr} {scope : Scope} {pt : Array Value} {pos : Pos} {firstLine : Nat} {clos : List (Str × Addr)}
theorem lam_any {Q : Value → Shared → Prop} (F : Fr h₀ L s.heap m) (N : News h₀ L s.heap news) (T : Top p loose mean mg mb h₀) (C : CodeHd h₀ c 123) (hcd : ccd = .ref c) (U : UpdT 123 (tabObj pt) tl news g) (hpt : TabOk pt tl) (hpl : pos.line = 135) (hpc : pos.col = 71) (hq : qual = lamQ)
    (hcl : closureFor scope (envX cn cs L a ccd cl) = pure clos)
    (h : ∀ (f : Nat) c' oc vs t ctv pt' ext h' tk, Fr h₀ L h' m → News h₀ L h' ((f, kla_obj name qual params body scope clos ((mg "__name__").getD .none) c' ctv) :: g (tabObj pt') (ext ++ tl)) → (∀ p ∈ ext, ∀ q ∈ news, q.1 < p.1) → (∀ q ∈ news, q.1 < f) → (∀ q ∈ ext, q.1 < f) → TabOk pt' (ext ++ tl) →
      (c', oc) ∈ ext ++ tl → oc.data = .fields vs → vs[1]? = some (.str qual t) → Q (.ref f) { s with heap := h', toks := tk }) :
    wpAny M A (makeFunction name qual params (.expr body) scope (envX cn cs L a ccd cl) [] [] [] pos firstLine) Q E s := by
  subst hq
  obtain ⟨pre, e0, hg, h1, h2⟩ := U.split
  rcases hpt with rfl | ⟨c', oc, vs, t, rfl, hm, hd, hv⟩
  · refine kla_nest F N T C hcd U.updF (by trivial) (by rfl) hcl fun f c' oc vs t ctv h' tk F' N' hd hv l1 l2 => ?_
    rw [hpl, hpc] at N'
    refine h f c' oc vs t ctv _ [(c', oc)] h' tk F' ?_ (fun p hp q hq => by rw [List.mem_singleton.mp hp]; exact l1 q hq) (fun q hq => Nat.lt_trans (l1 q hq) l2) (fun q hq => by rw [List.mem_singleton.mp hq]; exact l2) (.inr ⟨c', oc, vs, t, rfl, .head _, hd, hv⟩) (.head _) hd hv
    intro q hq
    refine N' q ?_
    rcases List.mem_cons.mp hq with rfl | hq
    · exact .head _
    · rw [hg] at hq
      refine .tail _ ?_
      rcases List.mem_append.mp hq with hq | hq
      · refine .tail _ ?_
        show q ∈ g _ tl
        rw [hg]; exact List.mem_append_left _ hq
      · rcases List.mem_cons.mp hq with rfl | hq
        · refine .tail _ ?_
          show _ ∈ g _ tl
          rw [hg]; exact List.mem_append_right _ (.head _)
        · rcases List.mem_cons.mp hq with rfl | hq
          · exact .head _
          · refine .tail _ ?_
            show q ∈ g _ tl
            rw [hg]; exact List.mem_append_right _ (.tail _ hq)
  · refine kla_hit (c' := c') F N T C hcd (by rw [e0]; exact List.mem_append_right _ (.head _)) (by simp [TriplesOk, rawInt]) (by simp [codeAmong, rawInt, hpl, hpc]) hcl fun f ctv h' tk F' N' l1 => ?_
    refine h f c' oc vs t ctv _ [] h' tk F' ?_ (fun p hp => by cases hp) l1 (fun q hq => by cases hq) (.inr ⟨c', oc, vs, t, rfl, hm, hd, hv⟩) hm hd hv
    rw [hg, List.nil_append, ← e0]
    exact N'
end
section
variable {prog : Program} {w : World} {A : Around} {E : Value → Shared → Prop} {s : Shared} {h₀ : Heap} {L : Addr} {m : Str → Option Value} {news : List (Addr × Obj)}
theorem split1 {x : Str} {t u v : Tok} {Q : Value → Shared → Prop} (F : Fr h₀ L s.heap m) (N : News h₀ L s.heap news) (hx : Txt.splitMax x (Str.ofString "}") 1 = [x]) (hl : x.length ≤ 10)
    (h : ∀ (D : Nat) t' h' tk, Fr h₀ L h' m → News h₀ L h' ((D, one x t' 0) :: news) → (∀ q ∈ news, q.1 < D) → Q (.ref D) { s with heap := h', toks := tk }) :
    wpAny (model prog w) A (call (.builtin "str.split") [.str x t, .str (Str.ofString "}") u, .int 1 v]) Q E s := by
  refine splitN2A F N (by decide) (by decide) (fun l h' tk e _ _ _ F' N' => ?_) (by rw [sizeLine_eq]; (first | lia | omega))
  rw [hx] at e
  obtain ⟨⟨y, t'⟩, rfl⟩ : ∃ p, l = [p] := by
    match l, e with
    | [p], _ => exact ⟨p, rfl⟩
  simp only [List.map_cons, List.map_nil, List.cons.injEq, and_true] at e
  subst e
  exact h _ t' h' tk F' N' fun q hq => Heap.lt_size (N q hq).1
noncomputable def IsName (x : Str) : Prop := x = Str.ofString "r" ∨ x = Str.ofString "a" ∨ x = Str.ofString "b" ∨ x = Str.ofString "m" ∨ x = Str.ofString "k"
theorem IsName.split {x : Str} (h : IsName x) : Txt.splitMax x (Str.ofString "}") 1 = [x] := by rcases h with rfl | rfl | rfl | rfl | rfl <;> decide +kernel
theorem IsName.len {x : Str} (h : IsName x) : x.length ≤ 10 := by rcases h with rfl | rfl | rfl | rfl | rfl <;> decide
noncomputable abbrev tup3 (x : Str) (t1 t2 t3 : Tok) (n : Nat) : Obj := { cls := .type "tuple", data := .seq #[.str x t1, .str x t2, .str (Str.ofString "") t3] n }
theorem KeyVals.get : ∀ {xs : List Str} {vs : List Value} {i : Nat} {v : Value}, KeyVals xs vs → vs[i]? = some v → ∃ x t, xs[i]? = some x ∧ v = .str x t
  | [], [], i, _, _, h => by simp at h
  | x :: r, u :: q, 0, v, h, e => by
    obtain ⟨⟨t, rfl⟩, _⟩ := h
    simp at e
    exact ⟨x, t, rfl, e.symm⟩
  | x :: r, u :: q, i + 1, v, h, e => by
    obtain ⟨y, t, h1, h2⟩ := KeyVals.get h.2 (by simpa using e)
    exact ⟨y, t, by simpa using h1, h2⟩
  | [], _ :: _, _, _, h, _ => h.elim
  | _ :: _, [], _, _, h, _ => h.elim
theorem KeyVals.perm {xs : List Str} {vs vs' : List Value} (h : KeyVals xs vs) (hp : vs'.Perm vs) : ∃ xs', xs'.Perm xs ∧ KeyVals xs' vs' := by
  induction hp generalizing xs with
  | nil => exact ⟨[], by cases xs <;> first | exact .nil | exact h.elim, trivial⟩
  | cons v _ ih =>
    match xs, h with
    | x :: r, h =>
      obtain ⟨xs', p, k⟩ := ih h.2
      exact ⟨x :: xs', p.cons x, h.1, k⟩
  | swap a b l =>
    match xs, h with
    | x :: y :: r, h => exact ⟨y :: x :: r, .swap .., h.2.1, h.1, h.2.2⟩
  | trans _ _ ih1 ih2 =>
    obtain ⟨xs1, p1, k1⟩ := ih2 h
    obtain ⟨xs2, p2, k2⟩ := ih1 k1
    exact ⟨xs2, p2.trans p1, k2⟩
end
end Mine
end
section
open PySem PySem.W PyProof.Rows PySem.Calls PySem.Spec
namespace Mine
section
variable {prog : Program} {w : World} {A : Around} {E : Value → Shared → Prop} {s : Shared} {h₀ : Heap} {L d : Addr} {m : Str → Option Value} {news : List (Addr × Obj)}
theorem news_cons {h : Heap} {p : Addr × Obj} {l : List (Addr × Obj)} (hp : h.get? p.1 = some p.2 ∧ p.1 ≠ L ∧ h₀.get? p.1 = none) (N : News h₀ L h l) : News h₀ L h (p :: l) := fun q hq => by
  rcases List.mem_cons.mp hq with rfl | hq
  · exact hp
  · exact N q hq
theorem dictOf_ents {l : List (Str × Tok × Value)} {n : Nat} (N : News h₀ L s.heap news) (hm : (d, dictOf (entS w l) n) ∈ news) (hnd : (l.map (·.1)).Nodup) : s.heap.DictOf (strKind prog w) d (l.map fun p => (p.1, p.2.2)) := (dictAt_ents (N _ hm).1 hnd).dictOf
theorem truthy_D {es : List DictEntry} {l : List (Str × Tok × Value)} {n : Nat} {b : Bool} {Q : Bool → Shared → Prop} (N : News h₀ L s.heap news) (hm : (d, dictOf es n) ∈ news) (he : es = entS w l) (hnd : (l.map (·.1)).Nodup) (hsm : (d == sysModules) = false) (hb : (!l.isEmpty) = b) (hz : l.length ≤ 1000)
    (h : Q b { s with toks := s.toks + 1 + 1 }) : wpAny (model prog w) A (truthy (.ref d)) Q E s := by
  subst he
  refine wpAny_truthy_dict hsm (dictOf_ents N hm hnd) (by rw [List.length_map]; (first | lia | omega)) ?_
  have e : (!(l.map fun p => (p.1, p.2.2)).isEmpty) = b := by rw [← hb]; cases l <;> rfl
  rw [e]; exact h
theorem isDict_ents {l : List (Str × Tok × Value)} {n : Nat} (hnd : (l.map (·.1)).Nodup) : (dictOf (entS w l) n).IsDictOf (strKind prog w) (l.map fun p => (p.1, p.2.2)) := by
  have h : (({} : Heap).push (dictOf (entS w l) n)).get? 0 = some (dictOf (entS w l) n) := Heap.get?_push_size _ rfl
  obtain ⟨o, es, ho, r⟩ := dictAt_ents (prog := prog) h hnd
  rw [h] at ho
  cases ho
  exact ⟨es, n, r⟩
theorem get_D {es : List DictEntry} {l : List (Str × Tok × Value)} {n : Nat} {k : Str} {t : Tok} {Q : Value → Shared → Prop} (N : News h₀ L s.heap news) (hm : (d, dictOf es n) ∈ news) (he : es = entS w l) (hnd : (l.map (·.1)).Nodup) (hsm : (d == sysModules) = false) (hk : valueAt (l.map fun p => (p.1, p.2.2)) k = none)
    (h : Q .none { s with toks := s.toks + 1 }) : wpAny (model prog w) A (call (.builtin "dict.get") [.ref d, .str k t]) Q E s := by
  subst he
  exact kdg_get1 (knd := strKind prog w) (k := k) N hm (isDict_ents hnd) hsm (strKind_is prog w k t) none hk h
theorem method_get {es : List DictEntry} {n : Nat} {pl : Sem Bool} {Q : Value × List Value → Shared → Prop} (N : News h₀ L s.heap news) (hm : (d, dictOf es n) ∈ news) (h : Q (.builtin "dict.get", [.ref d]) s) : wpAny (model prog w) A (getMethod (.ref d) (Str.ofString "get") pl) Q E s := by
  have hT : s.TypeIs (.ref d) "dict" := ⟨_, (N _ hm).1, rfl⟩
  exact getMethod_builtin hT PySem.F.plainAttrs_dict PySem.F.slot_dict_get PySem.F.type_dict_get (fun a e => by cases e; exact ⟨_, (N _ hm).1, rfl⟩) h
theorem valueAt_mem {kvs : List (Str × Value)} {k : Str} {v : Value} (hnd : (kvs.map (·.1)).Nodup) (hm : (k, v) ∈ kvs) : valueAt kvs k = some v := by
  induction kvs with
  | nil => cases hm
  | cons p r ih =>
    unfold valueAt
    rw [List.find?_cons]
    rw [List.map_cons, List.nodup_cons] at hnd
    rcases List.mem_cons.mp hm with rfl | hm
    · simp
    · have hne : ¬ p.1 = k := fun e => hnd.1 (e ▸ List.mem_map_of_mem (f := (·.1)) hm)
      rw [show (decide (p.1 = k)) = false from decide_eq_false hne]
      exact ih hnd.2 hm
theorem item_P {value slice : PySem.Expr} {o : Obj} {kvs : List (Str × Value)} {k : Str} {t : Tok} {v : Value} {Q : Value → Shared → Prop} (N : News h₀ L s.heap news) (hp : (d, o) ∈ news) (hd : o.IsDictOf (strKind prog w) kvs) (hm : (k, v) ∈ kvs) (h : Q v { s with toks := s.toks + 1 })
    (hs : subscripted slice false (.ref d) (.str k t) = operate [.ref d, .str k t] (getItem (.ref d) (.str k t)) := by with_unfolding_all rfl) :
    wpAny (model prog w) A (subscriptTail value slice (.ref d) (.str k t)) Q E s := by
  have hnd : (kvs.map (·.1)).Nodup := by obtain ⟨_, _, _, _, _, _, h⟩ := hd; exact h
  exact tail_any (kda_dict N hp hd).typeIs slot_dict_getitem.lookup (kdt_getItem (knd := strKind prog w) (k := k) N hp hd (strKind_is prog w k t) (valueAt_mem hnd hm) h) hs
theorem item_lastL {value slice : PySem.Expr} {l : List Value} {y : Value} {n : Nat} {t : Tok} {Q : Value → Shared → Prop} (N : News h₀ L s.heap news) (hm : (d, listOf (List.toArray (l ++ [y])) n) ∈ news) (hz : l.length ≤ 1000) (h : Q y s)
    (hs : subscripted slice false (.ref d) (.int (-1) t) = operate [.ref d, .int (-1) t] (getItem (.ref d) (.int (-1) t)) := by with_unfolding_all rfl) :
    wpAny (model prog w) A (subscriptTail value slice (.ref d) (.int (-1) t)) Q E s := by
  have hl : s.heap.IsList d (List.toArray (l ++ [y])) := News.isList N hm
  have hsz : (List.toArray (l ++ [y])).size = l.length + 1 := by simp
  refine tail_any hl.typeIs slot_list_getitem.lookup (wpAny_getItem_list_neg hl (by decide) (by rw [hsz]; (first | lia | omega)) (by decide) ?_ h) hs
  rw [hsz]
  have e : (-1 + ((l.length + 1 : Nat) : Int)).toNat = l.length := by (first | lia | omega)
  rw [e]
  simp
theorem item_tup {value slice : PySem.Expr} {x : Str} {t1 t2 t3 t : Tok} {n : Nat} {Q : Value → Shared → Prop} (N : News h₀ L s.heap news) (hm : (d, tup3 x t1 t2 t3 n) ∈ news) (h : Q (.str x t1) s)
    (hs : subscripted slice false (.ref d) (.int 0 t) = operate [.ref d, .int 0 t] (getItem (.ref d) (.int 0 t)) := by with_unfolding_all rfl) :
    wpAny (model prog w) A (subscriptTail value slice (.ref d) (.int 0 t)) Q E s := by
  have ht : IsTup s.heap d (List.toArray [.str x t1, .str x t2, .str (Str.ofString "") t3]) := ⟨_, (N _ hm).1, rfl, _, rfl⟩
  exact item_tupleT ht (by decide) (by decide) (j := 0) (by rfl) (by rfl) h hs
end
end Mine
end
section
open PySem PySem.W PyProof.Rows
namespace Mine
noncomputable def PairsAt (news : List (Addr × Obj)) : List Value → List (Str × Str) → Prop
  | [], [] => True
  | v :: vs, p :: ps => (∃ (a : Nat) (t1 t2 : Tok) (n : Nat), v = .ref a ∧ (a, ({ cls := .type "tuple", data := .seq #[.str p.1 t1, .str p.2 t2] n } : Obj)) ∈ news) ∧ PairsAt news vs ps
  | _, _ => False
noncomputable def Cl.kind : Cl → Str
  | .start .. => S "start"
  | .fin _ => S "end"
  | .comment _ => S "comment"
  | .data _ => S "data"
noncomputable def Cl.text : Cl → Str
  | .start t _ => t
  | .fin t => t
  | .comment t => t
  | .data t => t
noncomputable def Cl.pairs : Cl → List (Str × Str)
  | .start _ ps => ps
  | _ => []
structure ClAt (news : List (Addr × Obj)) (v : Value) (c : Cl) (a pl : Nat) (pv : List Value) (tk tt : Tok) (n n2 : Nat) : Prop where
  v_is : v = .ref a
  tup : (a, ({ cls := .type "tuple", data := .seq #[.str c.kind tk, .str c.text tt, .ref pl] n } : Obj)) ∈ news
  pl_is : (pl, W.listOf (List.toArray pv) n2) ∈ news
  prs : PairsAt news pv c.pairs
noncomputable def ClIn (news : List (Addr × Obj)) (v : Value) (c : Cl) : Prop := ∃ a pl pv tk tt n n2, ClAt news v c a pl pv tk tt n n2
structure CallsAt (news : List (Addr × Obj)) (vs : List Value) (cs : List Cl) : Prop where
  len : vs.length = cs.length
  at_ : ∀ (i : Nat) (v : Value), vs[i]? = some v → ∃ c, cs[i]? = some c ∧ ClIn news v c
theorem PairsAt.mono {n1 n2 : List (Addr × Obj)} (hs : ∀ p ∈ n1, p ∈ n2) : ∀ {vs : List Value} {ps : List (Str × Str)}, PairsAt n1 vs ps → PairsAt n2 vs ps
  | [], [], _ => trivial
  | _ :: _, _ :: _, h => ⟨let ⟨a, t1, t2, n, e, hm⟩ := h.1; ⟨a, t1, t2, n, e, hs _ hm⟩, h.2.mono hs⟩
  | [], _ :: _, h => h
  | _ :: _, [], h => h
theorem ClIn.mono {n1 n2 : List (Addr × Obj)} (hs : ∀ p ∈ n1, p ∈ n2) {v : Value} {c : Cl} (h : ClIn n1 v c) : ClIn n2 v c := by
  obtain ⟨a, pl, pv, tk, tt, n, m, h⟩ := h
  exact ⟨a, pl, pv, tk, tt, n, m, h.v_is, hs _ h.tup, hs _ h.pl_is, h.prs.mono hs⟩
theorem CallsAt.mono {n1 n2 : List (Addr × Obj)} (hs : ∀ p ∈ n1, p ∈ n2) {vs : List Value} {cs : List Cl} (h : CallsAt n1 vs cs) : CallsAt n2 vs cs :=
  ⟨h.len, fun i v hv => let ⟨c, hc, hi⟩ := h.at_ i v hv; ⟨c, hc, hi.mono hs⟩⟩
theorem CallsAt.snoc {news : List (Addr × Obj)} {vs : List Value} {cs : List Cl} {v : Value} {c : Cl} (h : CallsAt news vs cs) (hc : ClIn news v c) : CallsAt news (vs ++ [v]) (cs ++ [c]) := by
  refine ⟨by simp [h.len], fun i w hw => ?_⟩
  by_cases hi : i < vs.length
  · rw [List.getElem?_append_left hi] at hw
    obtain ⟨c', h1, h2⟩ := h.at_ i w hw
    exact ⟨c', by rw [List.getElem?_append_left (h.len ▸ hi)]; exact h1, h2⟩
  · have hi2 : i = vs.length := by
      have := (List.getElem?_eq_some_iff.mp hw).1
      simp at this
      (first | lia | omega)
    subst hi2
    simp at hw
    subst hw
    exact ⟨c, by rw [h.len]; simp, hc⟩
theorem due_take {cm : Bool} {cs : List Cl} {i : Nat} {c : Cl} (h : cs[i]? = some c) : due cm (cs.take (i + 1)) = (due cm (cs.take i)).step cm c := by
  obtain ⟨hk, rfl⟩ := List.getElem?_eq_some_iff.mp h
  rw [← due_snoc, List.take_append_getElem hk]
noncomputable def IsTag (t : Str) : Prop := t = S "r" ∨ t = S "a" ∨ t = S "b" ∨ t = S "x"
noncomputable def ClOk : Cl → Prop
  | .start t ps => IsTag t ∧ PairsOk ps
  | .fin t => IsTag t
  | .comment t => t ∈ texts10
  | .data t => t ∈ texts10
theorem goes_tag1 {ts ts' : List Str} {c : Cl} (hc : Goes ts c ts') (h1 : ∀ t ∈ ts, IsTag t) : (∀ t ∈ ts', IsTag t) ∧ ClOk c := by
  cases hc with
  | start h hl ht hp => exact ⟨fun t hm => (List.mem_cons.mp hm).elim (fun e => e ▸ .inr ht) (h1 t), .inr ht, hp⟩
  | fin => exact ⟨fun t hm => h1 t (List.mem_cons_of_mem _ hm), h1 _ (List.mem_cons_self ..)⟩
  | comment h ht => exact ⟨h1, ht⟩
  | data h ht => exact ⟨h1, ht⟩
theorem goes_tags {ts ts' : List Str} {cs : List Cl} (h : GoesAll ts cs ts') (hs : ∀ t ∈ ts, IsTag t) : (∀ t ∈ ts', IsTag t) ∧ ∀ c ∈ cs, ClOk c := by
  induction h with
  | nil => exact ⟨hs, nofun⟩
  | snoc h hc ih =>
    have key := goes_tag1 hc ih.1
    refine ⟨key.1, fun c hm => ?_⟩
    rcases List.mem_append.mp hm with hm | hm
    · exact ih.2 c hm
    · rw [List.mem_singleton.mp hm]; exact key.2
theorem lawful_ok {cs : List Cl} (h : Lawful cs) : ∀ c ∈ cs, ClOk c := by
  obtain ⟨r, rfl, h⟩ := h
  intro c hc
  rcases List.mem_cons.mp hc with rfl | hc
  · exact ⟨.inl rfl, .inl rfl⟩
  · exact (goes_tags h (by intro t ht; rw [List.mem_singleton.mp ht]; exact .inl rfl)).2 c hc
theorem str_len_app (a b : Str) : (a ++ b).length = a.length + b.length := by simp [Str.length, Str.cps_append]
theorem escA8_all : ∀ v ∈ values8, (escA v).length ≤ 9 := by decide +kernel
theorem escA8 {v : Str} (h : v ∈ values8) : (escA v).length ≤ 9 := escA8_all v h
theorem escT10_all : ∀ v ∈ texts10, (escT v).length ≤ 9 ∧ (shownOf v).length ≤ 9 ∧ (rowOf v).length ≤ 1 ∧ v.length ≤ 4 ∧ 0 < v.length := by decide +kernel
theorem escT10 {v : Str} (h : v ∈ texts10) : (escT v).length ≤ 9 ∧ (shownOf v).length ≤ 9 ∧ (rowOf v).length ≤ 1 ∧ v.length ≤ 4 ∧ 0 < v.length := escT10_all v h
theorem tag_len {t : Str} (h : IsTag t) : t.length = 1 := by rcases h with rfl | rfl | rfl | rfl <;> decide
theorem attr_len {k v : Str} (hk : k.length = 1) (hv : v ∈ values8) : (attrW (k, v)).length ≤ 14 ∧ (attrL (k, v)).length ≤ 3 := by
  have := escA8 hv
  have e1 : (S " ").length = 1 := by decide
  have e2 : (S "=\"").length = 2 := by decide
  have e3 : (S "\"").length = 1 := by decide
  have e4 : (S "=").length = 1 := by decide
  unfold attrW attrL
  simp only [str_len_app]
  (first | lia | omega)
theorem cat_fold_len {b : Nat} : ∀ (l : List Str) (a : Str), (∀ y ∈ l, y.length ≤ b) → (l.foldl (· ++ ·) a).length ≤ a.length + l.length * b
  | [], a, _ => Nat.le_add_right ..
  | x :: r, a, h => by
    have h1 := cat_fold_len r (a ++ x) fun y hy => h y (List.mem_cons_of_mem _ hy)
    have h2 := h x (List.mem_cons_self ..)
    rw [str_len_app] at h1
    rw [List.foldl_cons, List.length_cons, Nat.succ_mul]
    (first | lia | omega)
theorem cat_len_b {b : Nat} {l : List Str} (h : ∀ y ∈ l, y.length ≤ b) : (cat l).length ≤ l.length * b := by
  have h1 := cat_fold_len l (S "") h
  rwa [show (S "").length = 0 by decide, Nat.zero_add] at h1
theorem inOrder_ok {ps : List (Str × Str)} (h : PairsOk ps) : (∀ p ∈ inOrder ps, p.1.length = 1 ∧ p.2 ∈ values8) ∧ (inOrder ps).length ≤ 2 := by
  have em : (S "m").length = 1 := by decide
  have ek : (S "k").length = 1 := by decide
  rcases h with rfl | ⟨v, hv, rfl⟩ | ⟨v, hv, u, hu, rfl⟩
  · exact ⟨fun _ h => absurd h List.not_mem_nil, Nat.zero_le _⟩
  · exact ⟨fun p hp => (List.mem_singleton.mp hp) ▸ ⟨em, hv⟩, Nat.le_of_ble_eq_true rfl⟩
  · exact ⟨fun p hp => (List.mem_cons.mp hp).elim (fun e => e ▸ ⟨ek, hu⟩) fun hp => (List.mem_singleton.mp hp) ▸ ⟨em, hv⟩, Nat.le_of_ble_eq_true rfl⟩
theorem attrs_len {ps : List (Str × Str)} (h : PairsOk ps) (i : Nat) (hi : i ≤ 2) : (cat (((inOrder ps).take i).map attrW)).length ≤ 28 ∧ (cat (((inOrder ps).take i).map attrL)).length ≤ 28 := by
  obtain ⟨hio, hil⟩ := inOrder_ok h
  have hl : ((inOrder ps).take i).length ≤ 2 := Nat.le_trans (List.length_take_le ..) hi
  have h1 : ∀ p ∈ (inOrder ps).take i, (attrW p).length ≤ 14 ∧ (attrL p).length ≤ 3 := fun p hp => attr_len (k := p.1) (v := p.2) (hio p (List.mem_of_mem_take hp)).1 (hio p (List.mem_of_mem_take hp)).2
  have hw : ∀ y ∈ ((inOrder ps).take i).map attrW, y.length ≤ 14 := fun y hy => let ⟨p, hp, e⟩ := List.mem_map.mp hy; e ▸ (h1 p hp).1
  have hv : ∀ y ∈ ((inOrder ps).take i).map attrL, y.length ≤ 14 := fun y hy => let ⟨p, hp, e⟩ := List.mem_map.mp hy; e ▸ Nat.le_trans (h1 p hp).2 (Nat.le_of_ble_eq_true rfl)
  have g1 := cat_len_b hw
  have g2 := cat_len_b hv
  rw [List.length_map] at g1 g2
  exact ⟨Nat.le_trans g1 (Nat.mul_le_mul_right 14 hl), Nat.le_trans g2 (Nat.mul_le_mul_right 14 hl)⟩
theorem pairs_len {ps : List (Str × Str)} (h : PairsOk ps) : (cat ((inOrder ps).map attrW)).length ≤ 28 ∧ (cat ((inOrder ps).map attrL)).length ≤ 28 := by
  have h1 := attrs_len h 2 (Nat.le_refl _)
  rwa [List.take_of_length_le (inOrder_ok h).2] at h1
structure Due.Small (n : Nat) (d : Due) : Prop where
  w : d.whole.length ≤ 40 * n
  l : d.left.length ≤ 40 * n
  r : d.row.length ≤ 40 * n
  g : d.ig ≤ n
theorem small_add {n : Nat} {d : Due} (h : d.Small n) {x y z : Str} {g : Nat} (hx : x.length ≤ 40) (hy : y.length ≤ 40) (hz : z.length ≤ 40) (hg : g ≤ n + 1) : Due.Small (n + 1) ⟨d.whole ++ x, d.left ++ y, d.row ++ z, g⟩ := by
  have k : ∀ {a b : Str}, a.length ≤ 40 * n → b.length ≤ 40 → (a ++ b).length ≤ 40 * (n + 1) := fun h1 h2 => by rw [str_len_app]; exact Nat.add_le_add h1 h2
  exact ⟨k h.w hx, k h.l hy, k h.r hz, hg⟩
theorem small_up {n : Nat} {d : Due} {g : Nat} (h : d.Small n) (hg : g ≤ n + 1) : Due.Small (n + 1) { d with ig := g } :=
  have k : 40 * n ≤ 40 * (n + 1) := Nat.mul_le_mul_left 40 (Nat.le_succ n)
  ⟨Nat.le_trans h.w k, Nat.le_trans h.l k, Nat.le_trans h.r k, hg⟩
theorem len4 {a b c e : Str} {p q r u : Nat} (h1 : a.length ≤ p) (h2 : b.length ≤ q) (h3 : c.length ≤ r) (h4 : e.length ≤ u) (h : p + (q + (r + u)) ≤ 40) : (a ++ (b ++ (c ++ e))).length ≤ 40 := by
  rw [str_len_app, str_len_app, str_len_app]
  exact Nat.le_trans (Nat.add_le_add h1 (Nat.add_le_add h2 (Nat.add_le_add h3 h4))) h
theorem len3 {a b c : Str} {p q r : Nat} (h1 : a.length ≤ p) (h2 : b.length ≤ q) (h3 : c.length ≤ r) (h : p + (q + r) ≤ 40) : (a ++ (b ++ c)).length ≤ 40 := by
  rw [str_len_app, str_len_app]
  exact Nat.le_trans (Nat.add_le_add h1 (Nat.add_le_add h2 h3)) h
theorem app_nil0 (x : Str) : x ++ S "" = x := by
  refine str_ext ?_
  have e : (S "").cps = #[] := by decide
  simp [Str.cps_append, e]
theorem str_assoc0 (a b c : Str) : a ++ b ++ c = a ++ (b ++ c) := by
  refine str_ext ?_
  simp [Str.cps_append]
theorem step_small {cm : Bool} {d : Due} {n : Nat} {c : Cl} (ho : ClOk c) (h : d.Small n) : (d.step cm c).Small (n + 1) := by
  have a0 : (S "").length ≤ 40 := by decide
  have a1 : (S "<").length ≤ 1 := by decide
  have a2 : (S ">").length ≤ 1 := by decide
  have a3 : (S "</").length ≤ 2 := by decide
  have a4 : (S "<!--").length ≤ 4 := by decide
  have a5 : (S "-->").length ≤ 3 := by decide
  have g1 : d.ig ≤ n + 1 := Nat.le_succ_of_le h.g
  cases c with
  | start t ps =>
    have h1 := Nat.le_of_eq (tag_len ho.1)
    have h2 := pairs_len ho.2
    simp only [Due.step]
    split
    · exact small_up h (Nat.succ_le_succ h.g)
    · have := small_add h (len4 a1 h1 h2.1 a2 (by decide)) (len4 a1 h1 h2.2 a2 (by decide)) a0 g1
      simpa only [str_assoc0, app_nil0] using this
  | fin t =>
    have h1 := Nat.le_of_eq (tag_len ho)
    simp only [Due.step]
    split
    · exact small_up h (Nat.le_trans (Nat.sub_le ..) g1)
    · have := small_add h (len3 a3 h1 a2 (by decide)) (len3 a3 h1 a2 (by decide)) a0 g1
      simpa only [str_assoc0, app_nil0] using this
  | comment t =>
    obtain ⟨h1, h2, h3, _⟩ := escT10 ho
    simp only [Due.step]
    split
    · have := small_add h (len3 a4 h1 a5 (by decide)) (len3 a4 h2 a5 (by decide)) (Nat.le_trans h3 (by decide)) g1
      simpa only [str_assoc0] using this
    · exact small_up h g1
  | data t =>
    obtain ⟨h1, h2, h3, _⟩ := escT10 ho
    simp only [Due.step]
    split
    · exact small_add h (Nat.le_trans h1 (by decide)) (Nat.le_trans h2 (by decide)) (Nat.le_trans h3 (by decide)) g1
    · exact small_up h g1
theorem due_small {cm : Bool} : ∀ {cs : List Cl} {d : Due} {n : Nat}, (∀ c ∈ cs, ClOk c) → d.Small n → (cs.foldl (Due.step cm) d).Small (n + cs.length)
  | [], _, _, _, h => h
  | c :: r, d, n, hc, h => by
    have := due_small (cm := cm) (fun c h => hc c (List.mem_cons_of_mem _ h)) (step_small (cm := cm) (hc c (List.mem_cons_self ..)) h)
    rw [List.foldl_cons, List.length_cons, Nat.add_comm r.length 1, ← Nat.add_assoc]
    exact this
theorem due_take_small {cm : Bool} {cs : List Cl} (h : ∀ c ∈ cs, ClOk c) (i : Nat) : (due cm (cs.take i)).Small i := by
  have h1 : due0.Small 0 := ⟨by decide, by decide, by decide, Nat.le_refl _⟩
  have h2 := due_small (cm := cm) (cs := cs.take i) (fun c hc => h c (List.mem_of_mem_take hc)) h1
  have h3 : (cs.take i).length ≤ i := by simp; (first | lia | omega)
  exact ⟨by have := h2.w; unfold due; (first | lia | omega), by have := h2.l; unfold due; (first | lia | omega), by have := h2.r; unfold due; (first | lia | omega), by have := h2.g; unfold due; (first | lia | omega)⟩
theorem PairsAt.get {news : List (Addr × Obj)} : ∀ {vs : List Value} {ps : List (Str × Str)} {i : Nat} {v : Value}, PairsAt news vs ps → vs[i]? = some v → ∃ p, ps[i]? = some p ∧ ∃ (a : Nat) (t1 t2 : Tok) (n : Nat), v = .ref a ∧ (a, ({ cls := .type "tuple", data := .seq #[.str p.1 t1, .str p.2 t2] n } : Obj)) ∈ news
  | v :: vs, p :: ps, 0, w, h, e => by cases e; exact ⟨p, rfl, h.1⟩
  | v :: vs, p :: ps, i + 1, w, h, e => PairsAt.get (i := i) h.2 e
  | [], _, i, _, _, e => by simp at e
  | _ :: _, [], _, _, h, _ => h.elim
theorem PairsAt.len {news : List (Addr × Obj)} : ∀ {vs : List Value} {ps : List (Str × Str)}, PairsAt news vs ps → vs.length = ps.length
  | [], [], _ => rfl
  | _ :: _, _ :: _, h => by rw [List.length_cons, List.length_cons, h.2.len]
  | [], _ :: _, h => h.elim
  | _ :: _, [], h => h.elim
theorem str_assoc (a b c : Str) : a ++ b ++ c = a ++ (b ++ c) := by
  refine str_ext ?_
  simp [Str.cps_append]
theorem cat_snoc (l : List Str) (x : Str) : cat (l ++ [x]) = cat l ++ x := by simp [cat]
theorem take_map_snoc {α β : Type} {l : List α} {i : Nat} {x : α} (f : α → β) (h : l[i]? = some x) : (l.take (i + 1)).map f = (l.take i).map f ++ [f x] := by
  obtain ⟨hk, rfl⟩ := List.getElem?_eq_some_iff.mp h
  rw [← List.take_append_getElem hk, List.map_append]; rfl
theorem app_nil (x : Str) : x ++ S "" = x := by
  refine str_ext ?_
  have e : (S "").cps = #[] := by decide
  simp [Str.cps_append, e]
theorem txt_cat_all : ∀ t ∈ texts10, ((Txt.item t 0 == Str.ofString "\"") = true ∧ (t == Str.ofString "(") = false ∧ (t == Str.ofString ")") = false ∧ shownOf t = S "" ∧ rowOf t = S "") ∨
    ((Txt.item t 0 == Str.ofString "\"") = false ∧ (t == Str.ofString "(") = true ∧ shownOf t = escT t ∧ rowOf t = t) ∨
    ((Txt.item t 0 == Str.ofString "\"") = false ∧ (t == Str.ofString "(") = false ∧ (t == Str.ofString ")") = true ∧ shownOf t = escT t ∧ rowOf t = t) ∨
    ((Txt.item t 0 == Str.ofString "\"") = false ∧ (t == Str.ofString "(") = false ∧ (t == Str.ofString ")") = false ∧ shownOf t = escT t ∧ rowOf t = S "") := by decide +kernel
theorem txt_cat {t : Str} (h : t ∈ texts10) : ((Txt.item t 0 == Str.ofString "\"") = true ∧ (t == Str.ofString "(") = false ∧ (t == Str.ofString ")") = false ∧ shownOf t = S "" ∧ rowOf t = S "") ∨
    ((Txt.item t 0 == Str.ofString "\"") = false ∧ (t == Str.ofString "(") = true ∧ shownOf t = escT t ∧ rowOf t = t) ∨
    ((Txt.item t 0 == Str.ofString "\"") = false ∧ (t == Str.ofString "(") = false ∧ (t == Str.ofString ")") = true ∧ shownOf t = escT t ∧ rowOf t = t) ∨
    ((Txt.item t 0 == Str.ofString "\"") = false ∧ (t == Str.ofString "(") = false ∧ (t == Str.ofString ")") = false ∧ shownOf t = escT t ∧ rowOf t = S "") := txt_cat_all t h
end Mine
end
section
open PySem PySem.W PyProof.Rows
namespace Mine
noncomputable def valAt (k : Int) : Str := (values8[(k % 8).toNat]?).getD (S "v")
noncomputable def textAt (k : Int) : Str := (texts10[(k % 10).toNat]?).getD (S "c")
noncomputable def pairsOf (p : Int) : List (Str × Str) := [(S "m", valAt (p / 9)), (S "k", valAt (p / 72))].take (p / 3 % 3).toNat
theorem valAt_mem (k : Int) : valAt k ∈ values8 := by
  have h1 := Int.emod_nonneg k (show (8 : Int) ≠ 0 by decide)
  have h2 := Int.emod_lt_of_pos k (show (0 : Int) < 8 by decide)
  unfold valAt
  have : (k % 8).toNat < 8 := (Int.toNat_lt (Int.emod_nonneg _ (by decide))).mpr (Int.emod_lt_of_pos _ (by decide))
  rw [List.getElem?_eq_getElem (by simpa using this)]
  exact List.getElem_mem _
theorem textAt_mem (k : Int) : textAt k ∈ texts10 := by
  have h1 := Int.emod_nonneg k (show (10 : Int) ≠ 0 by decide)
  have h2 := Int.emod_lt_of_pos k (show (0 : Int) < 10 by decide)
  unfold textAt
  have : (k % 10).toNat < 10 := (Int.toNat_lt (Int.emod_nonneg _ (by decide))).mpr (Int.emod_lt_of_pos _ (by decide))
  rw [List.getElem?_eq_getElem (by simpa using this)]
  exact List.getElem_mem _
theorem pairsOf_ok (p : Int) : PairsOk (pairsOf p) := by
  have h1 := Int.emod_nonneg (p / 3) (show (3 : Int) ≠ 0 by decide)
  have h2 := Int.emod_lt_of_pos (p / 3) (show (0 : Int) < 3 by decide)
  have h : (p / 3 % 3).toNat = 0 ∨ (p / 3 % 3).toNat = 1 ∨ (p / 3 % 3).toNat = 2 := by (first | lia | omega)
  unfold pairsOf
  rcases h with h | h | h <;> rw [h]
  · exact .inl rfl
  · exact .inr (.inl ⟨_, valAt_mem _, rfl⟩)
  · exact .inr (.inr ⟨_, valAt_mem _, _, valAt_mem _, rfl⟩)
end Mine
end
section
open PySem PySem.W PyProof.Rows PySem.Calls
namespace Mine
noncomputable def IsStrs : List Value → List Str → Prop
  | [], [] => True
  | .str x _ :: vs, y :: ys => x = y ∧ IsStrs vs ys
  | _, _ => False
theorem IsStrs.get : ∀ {vs : List Value} {ys : List Str} {i : Nat} {y : Str}, IsStrs vs ys → ys[i]? = some y → ∃ t, vs[i]? = some (.str y t)
  | .str x t :: vs, y :: ys, 0, z, h, e => by cases e; exact ⟨t, by rw [← h.1]; rfl⟩
  | .str x t :: vs, y :: ys, i + 1, z, h, e => IsStrs.get (i := i) h.2 e
  | [], [], i, _, _, e => by simp at e
section
variable {prog : Program} {w : World} {A : Around} {E : Value → Shared → Prop} {s : Shared} {h₀ : Heap} {L : Addr} {m : Str → Option Value} {news : List (Addr × Obj)}
theorem item_strs {value slice : PySem.Expr} {l n : Nat} {vs : List Value} {ys : List Str} {k : Int} {u : Tok} {y : Str} {Q : Value → Shared → Prop} (N : News h₀ L s.heap news) (hm : (l, W.listOf (List.toArray vs) n) ∈ news) (hs : IsStrs vs ys) (h0 : 0 ≤ k) (hk : k < 1000) (hy : ys[k.toNat]? = some y)
    (h : ∀ t, Q (.str y t) s) (hsub : subscripted slice false (.ref l) (.int k u) = operate [.ref l, .int k u] (getItem (.ref l) (.int k u)) := by with_unfolding_all rfl) :
    wpAny (model prog w) A (subscriptTail value slice (.ref l) (.int k u)) Q E s := by
  obtain ⟨t, ht⟩ := hs.get hy
  have hl : s.heap.IsList l vs.toArray := News.isList N hm
  exact tail_any hl.typeIs slot_list_getitem.lookup (wpAny_getItem_list hl h0 (Int.lt_trans hk (by decide)) (by simpa using ht) (h t)) hsub
end
theorem fd (k : Int) (a : Nat) : k.fdiv (a : Int) = k / (a : Int) := Int.fdiv_eq_ediv_of_nonneg k (Int.natCast_nonneg a)
theorem fm (k : Int) (a : Nat) : k.fmod (a : Int) = k % (a : Int) := Int.fmod_eq_emod_of_nonneg k (Int.natCast_nonneg a)
theorem val_idx (p : Int) (a : Nat) : 0 ≤ (p.fdiv (a : Int)).fmod 8 ∧ (p.fdiv (a : Int)).fmod 8 < 8 ∧ values8[((p.fdiv (a : Int)).fmod 8).toNat]? = some (valAt (p / (a : Int))) := by
  have e : (p.fdiv (a : Int)).fmod 8 = p / (a : Int) % 8 := by rw [fd]; exact fm _ 8
  rw [e]
  have h1 := Int.emod_nonneg (p / (a : Int)) (show (8 : Int) ≠ 0 by decide)
  have h2 := Int.emod_lt_of_pos (p / (a : Int)) (show (0 : Int) < 8 by decide)
  refine ⟨h1, h2, ?_⟩
  unfold valAt
  have : (p / (a : Int) % 8).toNat < 8 := (Int.toNat_lt (Int.emod_nonneg _ (by decide))).mpr (Int.emod_lt_of_pos _ (by decide))
  rw [List.getElem?_eq_getElem (by simpa using this)]
  rfl
theorem text_idx (p : Int) : 0 ≤ p.fmod 10 ∧ p.fmod 10 < 10 ∧ texts10[(p.fmod 10).toNat]? = some (textAt p) := by
  have e : p.fmod 10 = p % 10 := fm _ 10
  rw [e]
  have h1 := Int.emod_nonneg p (show (10 : Int) ≠ 0 by decide)
  have h2 := Int.emod_lt_of_pos p (show (0 : Int) < 10 by decide)
  refine ⟨h1, h2, ?_⟩
  unfold textAt
  have : (p % 10).toNat < 10 := (Int.toNat_lt (Int.emod_nonneg _ (by decide))).mpr (Int.emod_lt_of_pos _ (by decide))
  rw [List.getElem?_eq_getElem (by simpa using this)]
  rfl
theorem slice_0 (a b : Value) : slicePick #[a, b] none (some 0) none = #[] := by first | rfl | decide | simp [slicePick, sliceBounds, sliceRange]
theorem slice_1 (a b : Value) : slicePick #[a, b] none (some 1) none = #[a] := by first | rfl | decide | simp [slicePick, sliceBounds, sliceRange]
theorem slice_2 (a b : Value) : slicePick #[a, b] none (some 2) none = #[a, b] := by first | rfl | decide | simp [slicePick, sliceBounds, sliceRange]
theorem pairsOf_0 {p : Int} (h : p / 3 % 3 = 0) : pairsOf p = [] := by unfold pairsOf; rw [h]; rfl
theorem pairsOf_1 {p : Int} (h : p / 3 % 3 = 1) : pairsOf p = [(S "m", valAt (p / 9))] := by unfold pairsOf; rw [h]; rfl
theorem pairsOf_2 {p : Int} (h : p / 3 % 3 = 2) : pairsOf p = [(S "m", valAt (p / 9)), (S "k", valAt (p / 72))] := by unfold pairsOf; rw [h]; rfl
end Mine
end
section
open PySem PySem.W PyProof.Rows PySem.Calls
namespace Mine
theorem add_S {prog : Program} {w : World} {A : Around} {E : Value → Shared → Prop} {s : Shared} {x y : Str} {t u : Tok} {n k : Nat} {Q : Value → Shared → Prop} (hx : x.length ≤ n) (hy : y.length ≤ k) (hz : n + k ≤ 16777216)
    (h : ∀ t' tk, (x ++ y).length ≤ n + k → Q (.str (x ++ y) t') { s with toks := tk }) : wpAny (model prog w) A (binaryOp .Add (.str x t) (.str y u)) Q E s :=
  PyProof.Rows.add_str (fun t' tk => h t' tk (by rw [str_len_app]; exact Nat.add_le_add hx hy)) (by rw [sizeLine_eq]; exact Nat.le_trans (Nat.add_le_add hx hy) hz)
end Mine
end
section
open PySem PySem.W PyProof.Rows PySem.Calls
namespace Mine
theorem execs_one {M : Model} {A : Around} {st : Stmt} {env : Env} {Q : Flow → Shared → Prop} {E : Value → Shared → Prop} {s : Shared} (h : wpAny M A (exec st env) Q E s) : wpAny M A (execs [st] env) Q E s := by
  refine wpAny_execs_cons (wpAny_mono h (fun f s' hf => ?_) fun _ _ x => x)
  cases f <;> first | exact wpAny_execs_nil hf | exact hf
end Mine
end
section
open PySem PySem.W PyProof.Rows PySem.Calls
namespace Mine
section
variable {α : Type} {x : α} {l : List α}
theorem memH0 : x ∈ x :: l := .head _
theorem memH1 {y0 : α} : x ∈ y0 :: x :: l := .tail _ memH0
theorem memH2 {y0 y1 : α} : x ∈ y0 :: y1 :: x :: l := .tail _ memH1
theorem memH3 {y0 y1 y2 : α} : x ∈ y0 :: y1 :: y2 :: x :: l := .tail _ memH2
theorem memH4 {y0 y1 y2 y3 : α} : x ∈ y0 :: y1 :: y2 :: y3 :: x :: l := .tail _ memH3
theorem memH5 {y0 y1 y2 y3 y4 : α} : x ∈ y0 :: y1 :: y2 :: y3 :: y4 :: x :: l := .tail _ memH4
theorem memH6 {y0 y1 y2 y3 y4 y5 : α} : x ∈ y0 :: y1 :: y2 :: y3 :: y4 :: y5 :: x :: l := .tail _ memH5
theorem memH7 {y0 y1 y2 y3 y4 y5 y6 : α} : x ∈ y0 :: y1 :: y2 :: y3 :: y4 :: y5 :: y6 :: x :: l := .tail _ memH6
theorem memH8 {y0 y1 y2 y3 y4 y5 y6 y7 : α} : x ∈ y0 :: y1 :: y2 :: y3 :: y4 :: y5 :: y6 :: y7 :: x :: l := .tail _ memH7
theorem memH9 {y0 y1 y2 y3 y4 y5 y6 y7 y8 : α} : x ∈ y0 :: y1 :: y2 :: y3 :: y4 :: y5 :: y6 :: y7 :: y8 :: x :: l := .tail _ memH8
theorem memH10 {y0 y1 y2 y3 y4 y5 y6 y7 y8 y9 : α} : x ∈ y0 :: y1 :: y2 :: y3 :: y4 :: y5 :: y6 :: y7 :: y8 :: y9 :: x :: l := .tail _ memH9
theorem memH11 {y0 y1 y2 y3 y4 y5 y6 y7 y8 y9 y10 : α} : x ∈ y0 :: y1 :: y2 :: y3 :: y4 :: y5 :: y6 :: y7 :: y8 :: y9 :: y10 :: x :: l := .tail _ memH10
theorem memH12 {y0 y1 y2 y3 y4 y5 y6 y7 y8 y9 y10 y11 : α} : x ∈ y0 :: y1 :: y2 :: y3 :: y4 :: y5 :: y6 :: y7 :: y8 :: y9 :: y10 :: y11 :: x :: l := .tail _ memH11
theorem memH13 {y0 y1 y2 y3 y4 y5 y6 y7 y8 y9 y10 y11 y12 : α} : x ∈ y0 :: y1 :: y2 :: y3 :: y4 :: y5 :: y6 :: y7 :: y8 :: y9 :: y10 :: y11 :: y12 :: x :: l := .tail _ memH12
theorem memH14 {y0 y1 y2 y3 y4 y5 y6 y7 y8 y9 y10 y11 y12 y13 : α} : x ∈ y0 :: y1 :: y2 :: y3 :: y4 :: y5 :: y6 :: y7 :: y8 :: y9 :: y10 :: y11 :: y12 :: y13 :: x :: l := .tail _ memH13
theorem memH15 {y0 y1 y2 y3 y4 y5 y6 y7 y8 y9 y10 y11 y12 y13 y14 : α} : x ∈ y0 :: y1 :: y2 :: y3 :: y4 :: y5 :: y6 :: y7 :: y8 :: y9 :: y10 :: y11 :: y12 :: y13 :: y14 :: x :: l := .tail _ memH14
theorem memT1 {y0 : α} (h : x ∈ l) : x ∈ y0 :: l := .tail _ h
theorem memT2 {y0 y1 : α} (h : x ∈ l) : x ∈ y0 :: y1 :: l := .tail _ (memT1 h)
theorem memT3 {y0 y1 y2 : α} (h : x ∈ l) : x ∈ y0 :: y1 :: y2 :: l := .tail _ (memT2 h)
theorem memT4 {y0 y1 y2 y3 : α} (h : x ∈ l) : x ∈ y0 :: y1 :: y2 :: y3 :: l := .tail _ (memT3 h)
theorem memT5 {y0 y1 y2 y3 y4 : α} (h : x ∈ l) : x ∈ y0 :: y1 :: y2 :: y3 :: y4 :: l := .tail _ (memT4 h)
theorem memT6 {y0 y1 y2 y3 y4 y5 : α} (h : x ∈ l) : x ∈ y0 :: y1 :: y2 :: y3 :: y4 :: y5 :: l := .tail _ (memT5 h)
theorem memT7 {y0 y1 y2 y3 y4 y5 y6 : α} (h : x ∈ l) : x ∈ y0 :: y1 :: y2 :: y3 :: y4 :: y5 :: y6 :: l := .tail _ (memT6 h)
theorem memT8 {y0 y1 y2 y3 y4 y5 y6 y7 : α} (h : x ∈ l) : x ∈ y0 :: y1 :: y2 :: y3 :: y4 :: y5 :: y6 :: y7 :: l := .tail _ (memT7 h)
theorem memT9 {y0 y1 y2 y3 y4 y5 y6 y7 y8 : α} (h : x ∈ l) : x ∈ y0 :: y1 :: y2 :: y3 :: y4 :: y5 :: y6 :: y7 :: y8 :: l := .tail _ (memT8 h)
theorem memT10 {y0 y1 y2 y3 y4 y5 y6 y7 y8 y9 : α} (h : x ∈ l) : x ∈ y0 :: y1 :: y2 :: y3 :: y4 :: y5 :: y6 :: y7 :: y8 :: y9 :: l := .tail _ (memT9 h)
theorem memT11 {y0 y1 y2 y3 y4 y5 y6 y7 y8 y9 y10 : α} (h : x ∈ l) : x ∈ y0 :: y1 :: y2 :: y3 :: y4 :: y5 :: y6 :: y7 :: y8 :: y9 :: y10 :: l := .tail _ (memT10 h)
theorem memT12 {y0 y1 y2 y3 y4 y5 y6 y7 y8 y9 y10 y11 : α} (h : x ∈ l) : x ∈ y0 :: y1 :: y2 :: y3 :: y4 :: y5 :: y6 :: y7 :: y8 :: y9 :: y10 :: y11 :: l := .tail _ (memT11 h)
theorem memT13 {y0 y1 y2 y3 y4 y5 y6 y7 y8 y9 y10 y11 y12 : α} (h : x ∈ l) : x ∈ y0 :: y1 :: y2 :: y3 :: y4 :: y5 :: y6 :: y7 :: y8 :: y9 :: y10 :: y11 :: y12 :: l := .tail _ (memT12 h)
theorem memT14 {y0 y1 y2 y3 y4 y5 y6 y7 y8 y9 y10 y11 y12 y13 : α} (h : x ∈ l) : x ∈ y0 :: y1 :: y2 :: y3 :: y4 :: y5 :: y6 :: y7 :: y8 :: y9 :: y10 :: y11 :: y12 :: y13 :: l := .tail _ (memT13 h)
theorem memT15 {y0 y1 y2 y3 y4 y5 y6 y7 y8 y9 y10 y11 y12 y13 y14 : α} (h : x ∈ l) : x ∈ y0 :: y1 :: y2 :: y3 :: y4 :: y5 :: y6 :: y7 :: y8 :: y9 :: y10 :: y11 :: y12 :: y13 :: y14 :: l := .tail _ (memT14 h)
theorem memT16 {y0 y1 y2 y3 y4 y5 y6 y7 y8 y9 y10 y11 y12 y13 y14 y15 : α} (h : x ∈ l) : x ∈ y0 :: y1 :: y2 :: y3 :: y4 :: y5 :: y6 :: y7 :: y8 :: y9 :: y10 :: y11 :: y12 :: y13 :: y14 :: y15 :: l := .tail _ (memT15 h)
end
noncomputable def Nd (as : List Addr) (tl : List (Addr × Obj)) : Prop := as.Nodup ∧ ∀ p ∈ tl, p.1 ∉ as
section
variable {as as2 r : List Addr} {tl led l : List (Addr × Obj)} {d a : Addr} {o o' : Obj}
theorem nd_new (hn : Nd as tl) (hl : led.map (·.1) = as ++ tl.map (·.1)) (l1 : ∀ p ∈ led, @LT.lt Nat _ p.1 d) : Nd (d :: as) tl := by
  have key : ∀ b ∈ as ++ tl.map (·.1), @LT.lt Nat _ b d := fun b hb => by
    rw [← hl] at hb
    obtain ⟨p, hp, rfl⟩ := List.mem_map.mp hb
    exact l1 p hp
  refine ⟨List.nodup_cons.mpr ⟨fun h => Nat.lt_irrefl _ (key d (List.mem_append_left _ h)), hn.1⟩, fun p hp h => ?_⟩
  rcases List.mem_cons.mp h with h | h
  · exact Nat.lt_irrefl _ (h ▸ key p.1 (List.mem_append_right _ (List.mem_map_of_mem hp)))
  · exact hn.2 p hp h
theorem nd_newN (hn : Nd as tl) (hl : led.map (·.1) = as ++ tl.map (·.1)) (l1 : ∀ p ∈ led, p.1 ≠ d) : Nd (d :: as) tl := by
  have key : ∀ b ∈ as ++ tl.map (·.1), b ≠ d := fun b hb => by
    rw [← hl] at hb
    obtain ⟨p, hp, rfl⟩ := List.mem_map.mp hb
    exact l1 p hp
  refine ⟨List.nodup_cons.mpr ⟨fun h => key d (List.mem_append_left _ h) rfl, hn.1⟩, fun p hp h => ?_⟩
  rcases List.mem_cons.mp h with h | h
  · exact key p.1 (List.mem_append_right _ (List.mem_map_of_mem hp)) h
  · exact hn.2 p hp h
theorem nd_nil : Nd [] tl := ⟨List.nodup_nil, fun _ _ h => nomatch h⟩
theorem nd_ne (hn : Nd as tl) (h : d ∈ as) : ∀ p ∈ tl, p.1 ≠ d := fun p hp e => hn.2 p hp (e ▸ h)
theorem Nd.drop1 (hn : Nd (d :: a :: as) tl) : Nd (d :: as) tl := by
  obtain ⟨h1, h2⟩ := hn
  refine ⟨h1.sublist (.cons_cons _ (.cons _ (.refl _))), fun p hp h => h2 p hp ?_⟩
  rcases List.mem_cons.mp h with h | h
  · exact h ▸ .head _
  · exact .tail _ (.tail _ h)
theorem Nd.drop2 {b : Addr} (hn : Nd (d :: b :: a :: as) tl) : Nd (d :: b :: as) tl := by
  obtain ⟨h1, h2⟩ := hn
  refine ⟨h1.sublist (.cons_cons _ (.cons_cons _ (.cons _ (.refl _)))), fun p hp h => h2 p hp ?_⟩
  rcases List.mem_cons.mp h with h | h
  · exact h ▸ .head _
  · rcases List.mem_cons.mp h with h | h
    · exact .tail _ (h ▸ .head _)
    · exact .tail _ (.tail _ (.tail _ h))
theorem nd_new2 {b c : Addr} {ob oc : Obj} (hn : Nd [b, c] tl) (l1 : ∀ p ∈ (b, ob) :: (c, oc) :: tl, p.1 ≠ d) : Nd [d, b] tl := (nd_newN hn rfl l1).drop2
theorem Nd.swap (hn : Nd (d :: a :: as) tl) : Nd (a :: d :: as) tl := by
  obtain ⟨h1, h2⟩ := hn
  refine ⟨(List.Perm.swap a d as).nodup h1, fun p hp h => h2 p hp ?_⟩
  exact (List.Perm.swap a d as).mem_iff.mpr h
theorem nd_part (as1 : List Addr) (hn : Nd (as1 ++ as2) tl) (hl : led.map (·.1) = as2 ++ tl.map (·.1)) : Nd as1 led := by
  have h1 := List.nodup_append.mp hn.1
  refine ⟨h1.1, fun p hp h => ?_⟩
  have : p.1 ∈ as2 ++ tl.map (·.1) := hl ▸ List.mem_map_of_mem hp
  rcases List.mem_append.mp this with h2 | h2
  · exact h1.2.2 _ h _ h2 rfl
  · obtain ⟨q, hq, e⟩ := List.mem_map.mp h2
    exact hn.2 q hq (by rw [e]; exact List.mem_append_left _ h)
theorem Nd.rest (hn : Nd (a :: as) tl) : Nd as tl := ⟨(List.nodup_cons.mp hn.1).2, fun p hp h => hn.2 p hp (.tail _ h)⟩
theorem Nd.off (hn : Nd (d :: r) tl) (hl : l.map (·.1) = r ++ tl.map (·.1)) : ∀ p ∈ l, p.1 ≠ d := fun p hp e => by
  have : p.1 ∈ r ++ tl.map (·.1) := hl ▸ List.mem_map_of_mem hp
  rw [e] at this
  rcases List.mem_append.mp this with h | h
  · exact (List.nodup_cons.mp hn.1).1 h
  · obtain ⟨q, hq, e⟩ := List.mem_map.mp h
    exact hn.2 q hq (e ▸ .head _)
theorem haveP {P Q : Prop} (a : P) (b : P → Q) : Q := b a
theorem Nd.ne (hn : Nd (a :: as) tl) (h : d ∈ as) : a ≠ d := fun e => (List.nodup_cons.mp hn.1).1 (e ▸ h)
theorem nd_mono {tl2 : List (Addr × Obj)} (hn : Nd as tl) (hs : ∀ p ∈ tl2, p ∈ tl) : Nd as tl2 := ⟨hn.1, fun p hp => hn.2 p (hs p hp)⟩

theorem upd0 (hn : Nd (d :: r) tl) (hl : l.map (·.1) = r ++ tl.map (·.1)) : Upd d o o' ((d, o) :: l) ((d, o') :: l) := .head (hn.off hl)
theorem upd1 {ay0 : Addr} {oy0 : Obj} (hn : Nd (ay0 :: d :: r) tl) (hl : l.map (·.1) = r ++ tl.map (·.1)) : Upd d o o' ((ay0, oy0) :: (d, o) :: l) ((ay0, oy0) :: (d, o') :: l) := .tail (hn.ne memH0) (upd0 hn.rest hl)
theorem upd2 {ay0 ay1 : Addr} {oy0 oy1 : Obj} (hn : Nd (ay0 :: ay1 :: d :: r) tl) (hl : l.map (·.1) = r ++ tl.map (·.1)) : Upd d o o' ((ay0, oy0) :: (ay1, oy1) :: (d, o) :: l) ((ay0, oy0) :: (ay1, oy1) :: (d, o') :: l) := .tail (hn.ne memH1) (upd1 hn.rest hl)
theorem upd3 {ay0 ay1 ay2 : Addr} {oy0 oy1 oy2 : Obj} (hn : Nd (ay0 :: ay1 :: ay2 :: d :: r) tl) (hl : l.map (·.1) = r ++ tl.map (·.1)) : Upd d o o' ((ay0, oy0) :: (ay1, oy1) :: (ay2, oy2) :: (d, o) :: l) ((ay0, oy0) :: (ay1, oy1) :: (ay2, oy2) :: (d, o') :: l) := .tail (hn.ne memH2) (upd2 hn.rest hl)
theorem upd4 {ay0 ay1 ay2 ay3 : Addr} {oy0 oy1 oy2 oy3 : Obj} (hn : Nd (ay0 :: ay1 :: ay2 :: ay3 :: d :: r) tl) (hl : l.map (·.1) = r ++ tl.map (·.1)) : Upd d o o' ((ay0, oy0) :: (ay1, oy1) :: (ay2, oy2) :: (ay3, oy3) :: (d, o) :: l) ((ay0, oy0) :: (ay1, oy1) :: (ay2, oy2) :: (ay3, oy3) :: (d, o') :: l) := .tail (hn.ne memH3) (upd3 hn.rest hl)
theorem upd5 {ay0 ay1 ay2 ay3 ay4 : Addr} {oy0 oy1 oy2 oy3 oy4 : Obj} (hn : Nd (ay0 :: ay1 :: ay2 :: ay3 :: ay4 :: d :: r) tl) (hl : l.map (·.1) = r ++ tl.map (·.1)) : Upd d o o' ((ay0, oy0) :: (ay1, oy1) :: (ay2, oy2) :: (ay3, oy3) :: (ay4, oy4) :: (d, o) :: l) ((ay0, oy0) :: (ay1, oy1) :: (ay2, oy2) :: (ay3, oy3) :: (ay4, oy4) :: (d, o') :: l) := .tail (hn.ne memH4) (upd4 hn.rest hl)
theorem upd6 {ay0 ay1 ay2 ay3 ay4 ay5 : Addr} {oy0 oy1 oy2 oy3 oy4 oy5 : Obj} (hn : Nd (ay0 :: ay1 :: ay2 :: ay3 :: ay4 :: ay5 :: d :: r) tl) (hl : l.map (·.1) = r ++ tl.map (·.1)) : Upd d o o' ((ay0, oy0) :: (ay1, oy1) :: (ay2, oy2) :: (ay3, oy3) :: (ay4, oy4) :: (ay5, oy5) :: (d, o) :: l) ((ay0, oy0) :: (ay1, oy1) :: (ay2, oy2) :: (ay3, oy3) :: (ay4, oy4) :: (ay5, oy5) :: (d, o') :: l) := .tail (hn.ne memH5) (upd5 hn.rest hl)
theorem upd7 {ay0 ay1 ay2 ay3 ay4 ay5 ay6 : Addr} {oy0 oy1 oy2 oy3 oy4 oy5 oy6 : Obj} (hn : Nd (ay0 :: ay1 :: ay2 :: ay3 :: ay4 :: ay5 :: ay6 :: d :: r) tl) (hl : l.map (·.1) = r ++ tl.map (·.1)) : Upd d o o' ((ay0, oy0) :: (ay1, oy1) :: (ay2, oy2) :: (ay3, oy3) :: (ay4, oy4) :: (ay5, oy5) :: (ay6, oy6) :: (d, o) :: l) ((ay0, oy0) :: (ay1, oy1) :: (ay2, oy2) :: (ay3, oy3) :: (ay4, oy4) :: (ay5, oy5) :: (ay6, oy6) :: (d, o') :: l) := .tail (hn.ne memH6) (upd6 hn.rest hl)
theorem upd8 {ay0 ay1 ay2 ay3 ay4 ay5 ay6 ay7 : Addr} {oy0 oy1 oy2 oy3 oy4 oy5 oy6 oy7 : Obj} (hn : Nd (ay0 :: ay1 :: ay2 :: ay3 :: ay4 :: ay5 :: ay6 :: ay7 :: d :: r) tl) (hl : l.map (·.1) = r ++ tl.map (·.1)) : Upd d o o' ((ay0, oy0) :: (ay1, oy1) :: (ay2, oy2) :: (ay3, oy3) :: (ay4, oy4) :: (ay5, oy5) :: (ay6, oy6) :: (ay7, oy7) :: (d, o) :: l) ((ay0, oy0) :: (ay1, oy1) :: (ay2, oy2) :: (ay3, oy3) :: (ay4, oy4) :: (ay5, oy5) :: (ay6, oy6) :: (ay7, oy7) :: (d, o') :: l) := .tail (hn.ne memH7) (upd7 hn.rest hl)
theorem upd9 {ay0 ay1 ay2 ay3 ay4 ay5 ay6 ay7 ay8 : Addr} {oy0 oy1 oy2 oy3 oy4 oy5 oy6 oy7 oy8 : Obj} (hn : Nd (ay0 :: ay1 :: ay2 :: ay3 :: ay4 :: ay5 :: ay6 :: ay7 :: ay8 :: d :: r) tl) (hl : l.map (·.1) = r ++ tl.map (·.1)) : Upd d o o' ((ay0, oy0) :: (ay1, oy1) :: (ay2, oy2) :: (ay3, oy3) :: (ay4, oy4) :: (ay5, oy5) :: (ay6, oy6) :: (ay7, oy7) :: (ay8, oy8) :: (d, o) :: l) ((ay0, oy0) :: (ay1, oy1) :: (ay2, oy2) :: (ay3, oy3) :: (ay4, oy4) :: (ay5, oy5) :: (ay6, oy6) :: (ay7, oy7) :: (ay8, oy8) :: (d, o') :: l) := .tail (hn.ne memH8) (upd8 hn.rest hl)
theorem upd10 {ay0 ay1 ay2 ay3 ay4 ay5 ay6 ay7 ay8 ay9 : Addr} {oy0 oy1 oy2 oy3 oy4 oy5 oy6 oy7 oy8 oy9 : Obj} (hn : Nd (ay0 :: ay1 :: ay2 :: ay3 :: ay4 :: ay5 :: ay6 :: ay7 :: ay8 :: ay9 :: d :: r) tl) (hl : l.map (·.1) = r ++ tl.map (·.1)) : Upd d o o' ((ay0, oy0) :: (ay1, oy1) :: (ay2, oy2) :: (ay3, oy3) :: (ay4, oy4) :: (ay5, oy5) :: (ay6, oy6) :: (ay7, oy7) :: (ay8, oy8) :: (ay9, oy9) :: (d, o) :: l) ((ay0, oy0) :: (ay1, oy1) :: (ay2, oy2) :: (ay3, oy3) :: (ay4, oy4) :: (ay5, oy5) :: (ay6, oy6) :: (ay7, oy7) :: (ay8, oy8) :: (ay9, oy9) :: (d, o') :: l) := .tail (hn.ne memH9) (upd9 hn.rest hl)
theorem upd11 {ay0 ay1 ay2 ay3 ay4 ay5 ay6 ay7 ay8 ay9 ay10 : Addr} {oy0 oy1 oy2 oy3 oy4 oy5 oy6 oy7 oy8 oy9 oy10 : Obj} (hn : Nd (ay0 :: ay1 :: ay2 :: ay3 :: ay4 :: ay5 :: ay6 :: ay7 :: ay8 :: ay9 :: ay10 :: d :: r) tl) (hl : l.map (·.1) = r ++ tl.map (·.1)) : Upd d o o' ((ay0, oy0) :: (ay1, oy1) :: (ay2, oy2) :: (ay3, oy3) :: (ay4, oy4) :: (ay5, oy5) :: (ay6, oy6) :: (ay7, oy7) :: (ay8, oy8) :: (ay9, oy9) :: (ay10, oy10) :: (d, o) :: l) ((ay0, oy0) :: (ay1, oy1) :: (ay2, oy2) :: (ay3, oy3) :: (ay4, oy4) :: (ay5, oy5) :: (ay6, oy6) :: (ay7, oy7) :: (ay8, oy8) :: (ay9, oy9) :: (ay10, oy10) :: (d, o') :: l) := .tail (hn.ne memH10) (upd10 hn.rest hl)
theorem updF0 (hn : Nd (d :: r) tl) (hl : l.map (·.1) = r ++ tl.map (·.1)) : UpdF d o ((d, o) :: l) (fun z => (d, z) :: l) := .head (hn.off hl)
theorem updF1 {ay0 : Addr} {oy0 : Obj} (hn : Nd (ay0 :: d :: r) tl) (hl : l.map (·.1) = r ++ tl.map (·.1)) : UpdF d o ((ay0, oy0) :: (d, o) :: l) (fun z => (ay0, oy0) :: (d, z) :: l) := .tail (hn.ne memH0) (updF0 hn.rest hl)
theorem updF2 {ay0 ay1 : Addr} {oy0 oy1 : Obj} (hn : Nd (ay0 :: ay1 :: d :: r) tl) (hl : l.map (·.1) = r ++ tl.map (·.1)) : UpdF d o ((ay0, oy0) :: (ay1, oy1) :: (d, o) :: l) (fun z => (ay0, oy0) :: (ay1, oy1) :: (d, z) :: l) := .tail (hn.ne memH1) (updF1 hn.rest hl)
theorem updF3 {ay0 ay1 ay2 : Addr} {oy0 oy1 oy2 : Obj} (hn : Nd (ay0 :: ay1 :: ay2 :: d :: r) tl) (hl : l.map (·.1) = r ++ tl.map (·.1)) : UpdF d o ((ay0, oy0) :: (ay1, oy1) :: (ay2, oy2) :: (d, o) :: l) (fun z => (ay0, oy0) :: (ay1, oy1) :: (ay2, oy2) :: (d, z) :: l) := .tail (hn.ne memH2) (updF2 hn.rest hl)
end

structure CxA (k : Nat) (w : World) (p : Program) (loose : List Str) (mean : ExcName → Option Value) (mg mb : Str → Option Value) (A : Around) (env : Env) (outer : List Env) (base h₀ : Heap) (L : Addr) : Prop where
  st : base.StaysIn h₀
  fr : h₀.FunFrames base outer
  T : Top p loose mean mg mb h₀
  X : (hd.heap_1 w.params).In h₀
  hf : A.frames = some (env :: outer)
  hl : env.frame = some L
  hk : env.scope.kind = .function
  hh : A.handled = none
  hd : A.depth + k < recursionLimit
  hu : A.units + 8 * k < cLine
noncomputable abbrev arO (outer : List Env) : Around := { frames := some outer }
section
variable {k j : Nat} {w : World} {p : Program} {loose : List Str} {mean : ExcName → Option Value} {mg mb : Str → Option Value} {A : Around} {env : Env} {outer : List Env} {base h₀ : Heap} {L : Addr}
theorem CxA.B (c : CxA k w p loose mean mg mb A env outer base h₀ L) : Below (arO outer) base outer h₀ := ⟨rfl, c.st, c.fr⟩
theorem CxA.le (c : CxA k w p loose mean mg mb A env outer base h₀ L) (h : j ≤ k) : CxA j w p loose mean mg mb A env outer base h₀ L := ⟨c.st, c.fr, c.T, c.X, c.hf, c.hl, c.hk, c.hh, by have := c.hd; (first | lia | omega), by have := c.hu; (first | lia | omega)⟩
theorem CxA.unit (c : CxA k w p loose mean mg mb A env outer base h₀ L) (hk : 1 ≤ k) : A.in1.in1.units < cLine := by
  have := c.hu
  show A.units + 1 + 1 < cLine
  (first | lia | omega)
end
noncomputable def nom : Str → Option Value := fun _ => none
noncomputable def QF (h₀ : Heap) (L : Addr) (m : Str → Option Value) (g : Heap) (Q : Value → Shared → Prop) : Flow → Shared → Prop := fun fl s' =>
  LeaveK h₀ L m g (fun r s' => match r with | .ok (.ret v) => Q v s' | .ok _ => False | .error e => Nay e s') (match fl with | .ret v => v | _ => .none) s'
noncomputable def QS (M : Model) (A : Around) (rest : List Stmt) (env : Env) (Q : Flow → Shared → Prop) : Flow → Shared → Prop := fun fl s' => match fl with
  | .next => wpAny M A (execs rest env) Q Nay s'
  | f => Q f s'
noncomputable def NextP (P : Shared → Prop) : Flow → Shared → Prop := fun f s' => f = .next ∧ P s'
section
variable {M : Model} {A : Around} {env : Env} {rest : List Stmt} {Q : Flow → Shared → Prop} {R : Value → Shared → Prop} {s s' : Shared} {st : Stmt} {h h₀ g : Heap} {gs : Array GenState} {d : Drawn} {k : Nat} {os : OsState} {L L' : Addr} {m m' : Str → Option Value} {news' : List (Addr × Obj)} {v : Value}
theorem execsS (h : wpAny M A (exec st env) (QS M A rest env Q) Nay s) : wpAny M A (execs (st :: rest) env) Q Nay s := by
  refine wpAny_execs_cons (wpAny_mono h (fun f s' hf => ?_) fun _ _ x => x)
  cases f <;> exact hf
theorem exec_join (P : Shared → Prop) (h : wpAny M A (exec st env) (NextP P) Nay s) (hk : ∀ s', P s' → wpAny M A (execs rest env) Q Nay s') : wpAny M A (execs (st :: rest) env) Q Nay s := by
  refine wpAny_execs_cons (wpAny_mono h (fun f s' hf => ?_) fun _ _ x => x)
  obtain ⟨rfl, hp⟩ := hf
  exact hk s' hp
theorem NextP.mk {P : Shared → Prop} (h : P s) : NextP P .next s := ⟨rfl, h⟩
theorem QS_next (hn : 0 < k) (hk : ∀ tk : Nat, 0 < tk → wpAny M A (execs rest env) Q Nay ⟨h, gs, d, tk, os⟩) : QS M A rest env Q .next ⟨h, gs, d, k, os⟩ := hk k hn
theorem QS_any (hk : ∀ tk : Nat, wpAny M A (execs rest env) Q Nay ⟨h, gs, d, tk, os⟩) : QS M A rest env Q .next ⟨h, gs, d, k, os⟩ := hk k
theorem QS_ret (h : Q (.ret v) s) : QS M A rest env Q (.ret v) s := h
theorem QF_ret (F' : Fr g L' s'.heap m') (N' : News g L' s'.heap news') (k : Fr h₀ L s'.heap m → News h₀ L s'.heap news' → R v s') : QF h₀ L m g R (.ret v) s' := leaveK_ F' N' k
theorem QF_next (F' : Fr g L' s'.heap m') (N' : News g L' s'.heap news') (k : Fr h₀ L s'.heap m → News h₀ L s'.heap news' → R .none s') : QF h₀ L m g R .next s' := leaveK_ F' N' k
end
section
variable {k : Nat} {w : World} {p : Program} {loose : List Str} {mean : ExcName → Option Value} {mg mb : Str → Option Value} {A : Around} {env : Env} {outer : List Env} {base h₀ : Heap} {L : Addr} {m : Str → Option Value} {s : Shared} {news : List (Addr × Obj)} {Q : Value → Shared → Prop}
  {name qual : Str} {params : Arguments} {body : List Stmt} {scope : Scope} {dV kV doc pm cdv ct oc : Value} {an od : Option Addr} {osl : Array (Option Value)} {f : Addr} {args : List Value} {binds ps : List (Str × Value)}
theorem CxA.in_ {g : Heap} {L' f : Addr} (c : CxA (k + 1) w p loose mean mg mb A env outer base h₀ L) (B' : Below A base (env :: outer) g) (X' : (hd.heap_1 w.params).In g) (T' : Top p loose mean mg mb g) (hk : scope.kind = .function) :
    CxA k w p loose mean mg mb (A.deeper (envOf qual scope L' f cdv)) (envOf qual scope L' f cdv) (env :: outer) base g L' := by
  refine ⟨B'.stays, B'.frames, T', X', ?_, rfl, hk, c.hh, ?_, ?_⟩
  · show A.frames.map _ = _
    rw [c.hf]; rfl
  · have := c.hd
    show A.depth + 1 + k < _
    (first | lia | omega)
  · have := c.hu
    show A.units + 3 + 8 * k < _
    (first | lia | omega)
theorem codeA (c : CxA (k + 1) w p loose mean mg mb A env outer base h₀ L) (F : Fr h₀ L s.heap m) (N : News h₀ L s.heap news)
    (ho : (hd.heap_1 w.params).lookup f = some ⟨oc, od, .func (fnOf name qual params body scope dV kV doc pm an cdv ct), osl⟩) (hcd : codeIn (hd.heap_1 w.params) cdv qual = true)
    (hbind : BindsTo s (fnOf name qual params body scope dV kV doc pm an cdv ct) ⟨args, []⟩ binds) (hps : binds.reverse = ps) (h0 : 0 < binds.length) (hloc : ∀ y ∈ binds, scope.names.lookup y.1 = some .local)
    (h : ∀ A' g L' h₁ tk, 0 < tk → CxA k w p loose mean mg mb A' (envOf qual scope L' f cdv) (env :: outer) base g L' → (hd.heap_1 w.params).In g → Fr h₀ L g m → Fr g L' h₁ (pinned nom ps) → News g L' h₁ news →
      wpAny (model thePr w) A' (execs body (envOf qual scope L' f cdv)) (QF h₀ L m g Q) Nay { s with heap := h₁, toks := tk })
    (hco : scope.isCoroutine = false) (hgen : scope.isGenerator = false) (hk : scope.kind = .function) (hcell : ∀ x ∈ scope.names, x.2 ≠ .cell) :
    codeAny (model thePr w) A (.call (.ref f) ⟨args, []⟩) (fun r s' => match r with | .ok (.ret v) => Q v s' | .ok _ => False | .error e => Nay e s') s := by
  refine code_def c.B F c.X N c.T c.hf c.hl c.hk ho hcd (by have := c.hd; (first | lia | omega)) hbind hloc (fun g L' h₁ FG F1 N1 B1 X1 T1 => ?_) hco hgen hk hcell
  subst hps
  exact ok_any (h _ g L' h₁ _ (Nat.lt_of_lt_of_le h0 (Nat.le_add_left ..)) (c.in_ B1 X1 T1 hk) X1 FG (lk_fr F1) N1)
theorem enterAC (c : CxA (k + 1) w p loose mean mg mb A env outer base h₀ L) (F : Fr h₀ L s.heap m) (N : News h₀ L s.heap news)
    (ho : (hd.heap_1 w.params).lookup f = some ⟨oc, od, .func (fnOf name qual params body scope dV kV doc pm an cdv ct), osl⟩) (hcd : codeIn (hd.heap_1 w.params) cdv qual = true)
    (hbind : BindsTo s (fnOf name qual params body scope dV kV doc pm an cdv ct) ⟨args, []⟩ binds) (hkind : (binds.all fun y => scope.names.lookup y.1 == some .local || scope.names.lookup y.1 == some .cell) = true) (hnd : ((cellsFrom 0 scope.names []).map (·.1)).Nodup) (hps : ∀ L', bindL (envOfC qual scope L' f cdv).kindOf binds (fun _ => none) = pinned nom ps)
    (h : ∀ A' g L' h₁ tk cells, CxA k w p loose mean mg mb A' (envOfC qual scope L' f cdv) (env :: outer) base g L' → (hd.heap_1 w.params).In g → Fr h₀ L g m → Fr g L' h₁ (pinned nom ps) → News g L' h₁ (cells ++ news) →
      CellsAre (bindC (envOfC qual scope L' f cdv).kindOf binds fun _ => none) (cellsFrom (L' + 1) scope.names []) cells → (∀ p ∈ news, @LT.lt Nat _ p.1 L') →
      wpAny (model thePr w) A' (execs body (envOfC qual scope L' f cdv)) (QF h₀ L m g Q) Nay { s with heap := h₁, toks := tk })
    (hco : scope.isCoroutine = false) (hgen : scope.isGenerator = false) (hk : scope.kind = .function) : wpAny (model thePr w) A (call (.ref f) args) Q Nay s := by
  refine wpAny_call (code_defC c.B F c.X N c.T c.hf c.hl c.hk ho hcd (by have := c.hd; (first | lia | omega)) hbind hkind hnd (fun g L' h₁ tk cells FG F1 N1 Y1 B1 X1 T1 l1 => ?_) hco hgen hk)
  refine ok_any (h (A.deeper (envOfC qual scope L' f cdv)) g L' h₁ tk cells ⟨B1.stays, B1.frames, T1, X1, ?_, rfl, hk, c.hh, ?_, ?_⟩ X1 FG (hps L' ▸ F1) N1 Y1 l1)
  · show A.frames.map _ = _
    rw [c.hf]; rfl
  · have := c.hd
    show A.depth + 1 + k < _
    (first | lia | omega)
  · have := c.hu
    show A.units + 3 + 8 * k < _
    (first | lia | omega)
theorem enterA (c : CxA (k + 1) w p loose mean mg mb A env outer base h₀ L) (F : Fr h₀ L s.heap m) (N : News h₀ L s.heap news)
    (ho : (hd.heap_1 w.params).lookup f = some ⟨oc, od, .func (fnOf name qual params body scope dV kV doc pm an cdv ct), osl⟩) (hcd : codeIn (hd.heap_1 w.params) cdv qual = true)
    (hbind : BindsTo s (fnOf name qual params body scope dV kV doc pm an cdv ct) ⟨args, []⟩ binds) (hps : binds.reverse = ps) (h0 : 0 < binds.length) (hloc : ∀ y ∈ binds, scope.names.lookup y.1 = some .local)
    (h : ∀ A' g L' h₁ tk, 0 < tk → CxA k w p loose mean mg mb A' (envOf qual scope L' f cdv) (env :: outer) base g L' → (hd.heap_1 w.params).In g → Fr h₀ L g m → Fr g L' h₁ (pinned nom ps) → News g L' h₁ news →
      wpAny (model thePr w) A' (execs body (envOf qual scope L' f cdv)) (QF h₀ L m g Q) Nay { s with heap := h₁, toks := tk })
    (hco : scope.isCoroutine = false) (hgen : scope.isGenerator = false) (hk : scope.kind = .function) (hcell : ∀ x ∈ scope.names, x.2 ≠ .cell) : wpAny (model thePr w) A (call (.ref f) args) Q Nay s :=
  wpAny_call (codeA c F N ho hcd hbind hps h0 hloc h hco hgen hk hcell)
end
section
variable {M : Model} {A : Around} {E : Value → Shared → Prop} {s : Shared} {h₀ : Heap} {L a : Addr} {m : Str → Option Value} {cn : Str} {cs : Scope} {ccd : Value} {cl : List (Str × Addr)} {news : List (Addr × Obj)} {x : Str} {v : Value} {Q : Unit → Shared → Prop} {ps : List (Str × Value)}
theorem storeP (F : Fr h₀ L s.heap (pinned m ps)) (N : News h₀ L s.heap news)
    (h : ∀ h', Fr h₀ L h' (pinned m ((x, v) :: ps)) → News h₀ L h' news → Q () { s with heap := h', toks := s.toks + 1 })
    (hk : cs.kind = .function := by rfl) (hx : (envX cn cs L a ccd cl).kindOf x = some .local := by rfl) : wpAny M A (storeName (envX cn cs L a ccd cl) x v) Q E s := storeX_L F N h hk hx
theorem fr_pinsP {ps : List (Str × Value)} {h : Heap} (F : Fr h₀ L h m) (hp : Pins m ps) : Fr h₀ L h (pinned m ps) := fr_pins F hp
theorem fr_again {ps : List (Str × Value)} {h : Heap} {x : Str} {u v : Value} (F : Fr h₀ L h (pinned m ((x, v) :: (x, u) :: ps))) : Fr h₀ L h (pinned m ((x, v) :: ps)) := by
  have e : pinned m ((x, v) :: (x, u) :: ps) = pinned m ((x, v) :: ps) := by
    funext y
    show (if y = x then some v else if y = x then some u else pinned m ps y) = if y = x then some v else pinned m ps y
    by_cases hy : y = x
    · rw [if_pos hy, if_pos hy]
    · rw [if_neg hy, if_neg hy, if_neg hy]
  rw [e] at F; exact F
end
structure AttrOk (w : World) (attr : Str) : Prop where
  g : plainGet (hd.heap_1 w.params) 150 attr = true
  d : hasDictIn (hd.heap_1 w.params) 150 = true
  a : ∃ z, findIn (hd.heap_1 w.params) (.ref 150) attr = some z ∧ noGet (hd.heap_1 w.params) z = true
section
variable {w : World} {A : Around} {s : Shared} {h₀ : Heap} {L f x dx n : Addr} {m : Str → Option Value} {q : Str} {sc : Scope} {cd v : Value} {news : List (Addr × Obj)} {attr : Str} {p1 p2 : Pos} {Q : Value → Shared → Prop} {es : List DictEntry}
theorem attrR (F : Fr h₀ L s.heap m) (X : (hd.heap_1 w.params).In h₀) (N : News h₀ L s.heap news) (hs : m (Str.ofString "self") = some (.ref x)) (h1 : (x, instObj 150 dx) ∈ news) (h2 : (dx, dictOf es n) ∈ news) (ok : AttrOk w attr) (hl : getL attr es = some (some v)) (hv : handedIn v = true)
    (h : Q v { s with toks := s.toks + 1 }) (hk : sc.kind = .function) (hx : (envOf q sc L f cd).kindOf (Str.ofString "self") = some .local) :
    wpAny (model thePr w) A (eval (.Attribute (.Name (Str.ofString "self") p1) attr p2) (envOf q sc L f cd)) Q Nay s := by
  obtain ⟨z, hz1, hz2⟩ := ok.a
  exact Attribute_Name_ (nameX_L (cl := []) F hs (get_own F X (InstAt.of_news N h1 h2) ok.g ok.d hz1 hz2 hl hv h) hk hx)
end
end Mine
end
section
open PySem PySem.W PyProof.Rows PySem.Calls
namespace Mine
noncomputable def attrNames : List Str := [Str.ofString "_write", Str.ofString "_data", Str.ofString "_with_comments", Str.ofString "_strip_text", Str.ofString "_exclude_attrs", Str.ofString "_exclude_tags", Str.ofString "_rewrite_prefixes", Str.ofString "_qname_aware_tags", Str.ofString "_find_qname_aware_attrs", Str.ofString "_declared_ns_stack", Str.ofString "_ns_stack", Str.ofString "_prefix_map", Str.ofString "_preserve_space", Str.ofString "_pending_start", Str.ofString "_root_seen", Str.ofString "_root_done", Str.ofString "_ignored_depth"]
theorem attr_all : ∀ (w : World), PySem.Challenge.rw_nb0300_01.row.prog = PySem.Challenge.rw_nb0300_01.row.prog → hd.heap_1 = hd.heap_1 → ∀ x ∈ attrNames, AttrOk w x := by
  k_fill
  intro w _ _ x hx
  simp only [attrNames, List.mem_cons, List.not_mem_nil, or_false] at hx
  rcases hx with rfl | rfl | rfl | rfl | rfl | rfl | rfl | rfl | rfl | rfl | rfl | rfl | rfl | rfl | rfl | rfl | rfl <;> exact ⟨by k_is, by k_is, _, by k_is, by k_is⟩
theorem attr_ok (w : World) (x : Str) (h : attrNames.contains x = true) : AttrOk w x := attr_all w rfl rfl x (List.contains_iff_mem.mp h)
noncomputable abbrev nsTup (tu tx : Tok) (n : Nat) : Obj := { cls := .type "tuple", data := .seq #[.str (Str.ofString "http://www.w3.org/XML/1998/namespace") tu, .str (Str.ofString "xml") tx] n }
noncomputable abbrev tgtEs (w : World) (wm dA et ds ns pm ps : Nat) (cm rs rd : Bool) (ig : Int) (tig : Tok) (T : Nat → Tok) : List DictEntry := [
  ⟨PyData.keyHash w.params (Str.ofString "_write"), .str (Str.ofString "_write") (T 0), .ref wm⟩,
  ⟨PyData.keyHash w.params (Str.ofString "_data"), .str (Str.ofString "_data") (T 1), .ref dA⟩,
  ⟨PyData.keyHash w.params (Str.ofString "_with_comments"), .str (Str.ofString "_with_comments") (T 2), .bool cm⟩,
  ⟨PyData.keyHash w.params (Str.ofString "_strip_text"), .str (Str.ofString "_strip_text") (T 3), .bool false⟩,
  ⟨PyData.keyHash w.params (Str.ofString "_exclude_attrs"), .str (Str.ofString "_exclude_attrs") (T 4), .none⟩,
  ⟨PyData.keyHash w.params (Str.ofString "_exclude_tags"), .str (Str.ofString "_exclude_tags") (T 5), .ref et⟩,
  ⟨PyData.keyHash w.params (Str.ofString "_rewrite_prefixes"), .str (Str.ofString "_rewrite_prefixes") (T 6), .bool false⟩,
  ⟨PyData.keyHash w.params (Str.ofString "_qname_aware_tags"), .str (Str.ofString "_qname_aware_tags") (T 7), .none⟩,
  ⟨PyData.keyHash w.params (Str.ofString "_find_qname_aware_attrs"), .str (Str.ofString "_find_qname_aware_attrs") (T 8), .none⟩,
  ⟨PyData.keyHash w.params (Str.ofString "_declared_ns_stack"), .str (Str.ofString "_declared_ns_stack") (T 9), .ref ds⟩,
  ⟨PyData.keyHash w.params (Str.ofString "_ns_stack"), .str (Str.ofString "_ns_stack") (T 10), .ref ns⟩,
  ⟨PyData.keyHash w.params (Str.ofString "_prefix_map"), .str (Str.ofString "_prefix_map") (T 11), .ref pm⟩,
  ⟨PyData.keyHash w.params (Str.ofString "_preserve_space"), .str (Str.ofString "_preserve_space") (T 12), .ref ps⟩,
  ⟨PyData.keyHash w.params (Str.ofString "_pending_start"), .str (Str.ofString "_pending_start") (T 13), .none⟩,
  ⟨PyData.keyHash w.params (Str.ofString "_root_seen"), .str (Str.ofString "_root_seen") (T 14), .bool rs⟩,
  ⟨PyData.keyHash w.params (Str.ofString "_root_done"), .str (Str.ofString "_root_done") (T 15), .bool rd⟩,
  ⟨PyData.keyHash w.params (Str.ofString "_ignored_depth"), .str (Str.ofString "_ignored_depth") (T 16), .int ig tig⟩,
  ⟨PyData.keyHash w.params (Str.ofString "_iter_namespaces"), .str (Str.ofString "_iter_namespaces") (T 17), .ref 220⟩]
end Mine
end
namespace Mine
open PySem PySem.W PyProof.Rows PySem.Calls
local macro_rules | `(tactic| walk_at $s:str) => `(tactic| k_extra $s)
local macro_rules | `(tactic| k_lt $h:ident) => `(tactic| (refine' haveP (nd_new ?hn ?hl $h:ident) ?_; (case hn => with_reducible assumption); (case hl => k_dflt exact rfl); clear $h:ident; intro $h:ident))
local macro_rules | `(tactic| k_mem) => `(tactic| k_extra "k_mem")
local macro_rules | `(tactic| k_upd) => `(tactic| k_extra "k_upd")
local macro_rules | `(tactic| k_updF) => `(tactic| k_extra "k_updF")
theorem words : PySem.Challenge.rw_nb0300_01.row.prog = PySem.Challenge.rw_nb0300_01.row.prog → hd.heap_1 = hd.heap_1 → True := by
  k_fill
  k_with "k_mem" => first | exact memH0 | exact memH1 | exact memH2 | exact memH3 | exact memH4 | exact memH5 | exact memH6 | exact memH7 | exact memH8 | exact memH9 | exact memH10 | exact memH11 | exact memH12 | exact memH13 | exact memH14 | exact memH15 | exact memH16 | (with_reducible assumption) | (refine memT1 ?_; with_reducible assumption) | (refine memT2 ?_; with_reducible assumption) | (refine memT3 ?_; with_reducible assumption) | (refine memT4 ?_; with_reducible assumption) | (refine memT5 ?_; with_reducible assumption) | (refine memT6 ?_; with_reducible assumption) | (refine memT7 ?_; with_reducible assumption) | (refine memT8 ?_; with_reducible assumption) | (refine memT9 ?_; with_reducible assumption) | (refine memT10 ?_; with_reducible assumption) | (refine memT11 ?_; with_reducible assumption) | (refine memT12 ?_; with_reducible assumption) | (refine memT13 ?_; with_reducible assumption) | (refine memT14 ?_; with_reducible assumption) | (refine memT15 ?_; with_reducible assumption) | (refine memT16 ?_; with_reducible assumption) | (refine memT17 ?_; with_reducible assumption)
  k_with "k_upd" => first | (refine' upd0 ?a ?b; (case a => with_reducible assumption); (case b => k_dflt exact rfl)) | (refine' upd1 ?a ?b; (case a => with_reducible assumption); (case b => k_dflt exact rfl)) | (refine' upd2 ?a ?b; (case a => with_reducible assumption); (case b => k_dflt exact rfl)) | (refine' upd3 ?a ?b; (case a => with_reducible assumption); (case b => k_dflt exact rfl)) | (refine' upd4 ?a ?b; (case a => with_reducible assumption); (case b => k_dflt exact rfl)) | (refine' upd5 ?a ?b; (case a => with_reducible assumption); (case b => k_dflt exact rfl)) | (refine' upd6 ?a ?b; (case a => with_reducible assumption); (case b => k_dflt exact rfl)) | (refine' upd7 ?a ?b; (case a => with_reducible assumption); (case b => k_dflt exact rfl)) | (refine' upd8 ?a ?b; (case a => with_reducible assumption); (case b => k_dflt exact rfl)) | (refine' upd9 ?a ?b; (case a => with_reducible assumption); (case b => k_dflt exact rfl)) | (refine' upd10 ?a ?b; (case a => with_reducible assumption); (case b => k_dflt exact rfl)) | (refine' upd11 ?a ?b; (case a => with_reducible assumption); (case b => k_dflt exact rfl)) | (refine' upd12 ?a ?b; (case a => with_reducible assumption); (case b => k_dflt exact rfl)) | (refine' upd13 ?a ?b; (case a => with_reducible assumption); (case b => k_dflt exact rfl))
  k_with "k_updF" => first | (refine' updF0 ?a ?b; (case a => with_reducible assumption); (case b => k_dflt exact rfl)) | (refine' updF1 ?a ?b; (case a => with_reducible assumption); (case b => k_dflt exact rfl)) | (refine' updF2 ?a ?b; (case a => with_reducible assumption); (case b => k_dflt exact rfl)) | (refine' updF3 ?a ?b; (case a => with_reducible assumption); (case b => k_dflt exact rfl)) | (refine' updF4 ?a ?b; (case a => with_reducible assumption); (case b => k_dflt exact rfl)) | (refine' updF5 ?a ?b; (case a => with_reducible assumption); (case b => k_dflt exact rfl)) | (refine' updF6 ?a ?b; (case a => with_reducible assumption); (case b => k_dflt exact rfl)) | (refine' updF7 ?a ?b; (case a => with_reducible assumption); (case b => k_dflt exact rfl)) | (refine' updF8 ?a ?b; (case a => with_reducible assumption); (case b => k_dflt exact rfl)) | (refine' updF9 ?a ?b; (case a => with_reducible assumption); (case b => k_dflt exact rfl)) | (refine' updF10 ?a ?b; (case a => with_reducible assumption); (case b => k_dflt exact rfl)) | (refine' updF11 ?a ?b; (case a => with_reducible assumption); (case b => k_dflt exact rfl)) | (refine' updF12 ?a ?b; (case a => with_reducible assumption); (case b => k_dflt exact rfl)) | (refine' updF13 ?a ?b; (case a => with_reducible assumption); (case b => k_dflt exact rfl))
  k_with "cx" => exact CxA.le (by with_reducible assumption) (by decide)
  k_with "go" => repeat' (first
    | (k_unfold; (try dsimp only))
    | ((fail_if_success (with_reducible show wpAny _ _ (PySem.exec (PySem.Stmt.For _ _ _ _ _) _) _ _ _)); (fail_if_success (with_reducible show wpAny _ _ (PySem.exec (PySem.Stmt.While _ _ _ _) _) _ _ _)); (fail_if_success (with_reducible show wpAny _ _ (pyIter _) _ _ _)); (fail_if_success (with_reducible show wpAny _ _ (subscriptTail _ (PySem.Expr.Slice _ _ _ _) (Value.ref _) _) _ _ _)); first | walk1 | (dsimp only; walk1))
    | fail "no step")
  k_with "goJ" => repeat' (first
    | (k_unfold; (try dsimp only))
    | ((fail_if_success (with_reducible show wpAny _ _ (PySem.execs (PySem.Stmt.If _ _ (_ :: _) _ :: _) _) _ _ _)); (fail_if_success (with_reducible show wpAny _ _ (PySem.execs (PySem.Stmt.If (PySem.Expr.Attribute _ (PySem.Str.ofString "_data") _) _ _ _ :: _) _) _ _ _)); first | walk1 | (dsimp only; walk1))
    | fail "no step")
  k_with "goL" => repeat' (first
    | (k_unfold; (try dsimp only))
    | ((fail_if_success (with_reducible show wpAny _ _ (PySem.eval (PySem.Expr.ListComp _ _ _ _) _) _ _ _)); first | walk1 | (dsimp only; walk1))
    | fail "no step")
  k_with "goG" => repeat' (first
    | (k_unfold; (try dsimp only))
    | ((fail_if_success (with_reducible show wpAny _ _ (PySem.call (Value.builtin _) _) _ _ _)); first | walk1 | (dsimp only; walk1))
    | fail "no step")
  k_with "execs cons" => (try dsimp only); first | (with_reducible refine execs_one ?_) | (with_reducible refine execsS ?_)
  k_with "execs nil" => with_reducible refine wpAny_execs_nil ?_
  k_with "tpos" => (try dsimp only); first | exact Nat.succ_pos _ | assumption | (first | lia | omega)
  k_with "QS" => (try dsimp only); first | ((with_reducible refine QS_next (by first | exact Nat.succ_pos _ | assumption | (first | lia | omega)) ?_); intro tk htk) | ((with_reducible refine QS_any ?_); intro tk) | (with_reducible refine QS_ret ?_) | (with_reducible refine QS_brk ?_) | (with_reducible refine QS_cont ?_)
  k_with "QF" => (first | (with_reducible refine QF_ret (by k_asm) (by k_asm) ?_) | (with_reducible refine QF_next (by k_asm) (by k_asm) ?_)); intro kF kN
  k_with "storeName" => k_here; k_dflt (refine' storeP ?F ?N ?_ ?a ?b; (case F => k_asm); (case N => k_asm); (case a => rfl); (case b => rfl); k_whole); intro h' F' N'; (try k_sweep)
  k_with "eval Attribute Name" => k_here; (with_reducible show wpAny _ _ (eval (PySem.Expr.Attribute (PySem.Expr.Name (PySem.Str.ofString "self") _) _ _) (envOf _ _ _ _ _)) _ _ _); k_dflt (refine' attrR ?F ?X ?N ?s ?h1 ?h2 (attr_ok _ _ ?ok) ?hl ?hv ?_ ?hk ?hx; (case F => k_asm); (case X => k_asm); (case N => k_asm); (case s => exact rfl); (case h1 => k_mem); (case h2 => k_mem); (case ok => exact rfl); (case hl => k_get); (case hv => k_handed); (case hk => exact rfl); (case hx => exact rfl); k_whole); (try dsimp only)
  k_with "call builtin:list.append" => k_here; (with_reducible show wpAny _ _ (call (Value.builtin _) [Value.ref _, _]) _ _ _); k_dflt (refine' append_L ?k1 ?k2 ?k3 ?z ?_; (case k1 => k_asm); (case k2 => k_asm); (case k3 => k_upd); (case z => first | exact n_le (by with_reducible assumption) rfl | (first | lia | omega) | (simp only [strValues, List.length_map, List.length_append, List.length_cons, List.length_nil]; (first | lia | omega))); k_whole); intro h' F' N'; (try k_sweep)
  k_with "call builtin:str.replace" => (with_reducible show wpAny _ _ (call (Value.builtin "str.replace") [Value.str _ _, Value.str _ _, Value.str _ _]) _ _ _); k_dflt (refine' replace_P ?a ?b ?c ?d ?e ?_; (case a => (refine ltN ?_; first | assumption | (first | lia | omega))); (case b => (refine ltN ?_; first | assumption | (first | lia | omega))); (case c => decide); (case d => (first | lia | omega)); (case e => decide)); intro t' k' hk'; (try dsimp only at hk')
  k_with "bound" => first | exact BndAt.ofK (by k_asm) (by k_asm) (by assumption) | exact (BndAt.of (by k_asm) (by k_mem))
  k_with "callWith" => (with_reducible show wpAny _ _ (callWith _ (Value.builtin _) (_ :: _) _ _) _ _ _); refine PyProof.Rows.callWith_method1 ?_
  k_with "callWith ref" => k_here; (with_reducible show wpAny _ _ (callWith _ (Value.ref _) _ (backTo _ (starEach (_ :: _) _)) []) _ _ _); k_dflt (refine' callWith_B ?kb ?_; (case kb => walk_at "bound"); k_whole)
  k_with "And" => (with_reducible show BndAt _ _ _ _ ∧ _); k_dflt (refine ⟨by walk_at "bound", ?_⟩); (try dsimp only [List.nil_append, List.cons_append])
  k_with "delItem ref ref" => k_here; (with_reducible show wpAny _ _ (delItem (Value.ref _) (Value.ref _)) _ _ _); k_dflt (refine' del_all ?F ?N ?U ?z ?_; (case F => k_asm); (case N => k_asm); (case U => k_updF); (case z => first | exact n_le (by with_reducible assumption) rfl | (first | lia | omega) | (simp only [strValues, List.length_map]; (first | lia | omega)))); intro h' n' F' N'; (try dsimp only at N')
  k_with "call ref" => k_here; (with_reducible show wpAny _ _ (call (Value.ref 98) [Value.ref _]) _ _ _); k_dflt (refine' join_B ?b ?l rfl ?j ?t ?_; (case b => walk_at "bound"); (case l => exact News.isList (by k_asm) (by k_mem)); (case j => assumption); (case t => ((try dsimp only); first | assumption | (first | lia | omega)))); intro t' k' hk'
  k_with "call ref" => k_here; (with_reducible show wpAny _ _ (call (Value.ref _) [Value.str _ _]) _ _ _); k_dflt (refine' append_B ?F ?N ?b ?U ?z ?_; (case F => k_asm); (case N => k_asm); (case b => k_mem); (case U => k_upd); (case z => first | exact n_le (by with_reducible assumption) rfl | (first | lia | omega) | (simp only [strValues, List.length_append, List.length_map, List.length_cons, List.length_nil]; (first | lia | omega)))); intro h' F' N'; (try dsimp only at N')
  k_with "truthy str" => (with_reducible show wpAny _ _ (PySem.truthy (Value.str _ _)) _ _ _); refine truthy_yes (by assumption) (by (first | lia | omega)) ?_
  k_with "binaryOp Add ref ref" => k_here; (with_reducible show wpAny _ _ (binaryOp _ (Value.ref _) (Value.ref _)) _ _ _); k_dflt (refine' add_L ?F ?N ?a ?b ?z ?_; (case F => k_asm); (case N => k_asm); (case a => exact News.isList (by k_asm) (by k_mem)); (case b => exact News.isList (by k_asm) (by k_mem)); (case z => (simp only [List.length_nil, List.length_cons]; (first | lia | omega)))); intro D' h' F' N' l1; (try k_lt l1); (try k_sweep)
  k_with "hh" => first | exact CxA.hh (by with_reducible assumption) | assumption
  k_with "assign Tuple" => k_here; (with_reducible show wpAny _ _ (assign (Expr.Tuple _ _ _) _ (Value.ref _)) _ _ _); k_dflt (refine' unpackN_ ?F ?N ?T ?k1 ?k2 ?k3 ?_; (case F => k_asm); (case N => k_asm); (case T => refine News.isTup (by k_asm) (by k_mem)); (case k1 => walk_at "hh"); (case k2 => exact rfl); (case k3 => exact rfl)); intro h' F' N'; (try k_sweep)
  k_with "truthy ref" => (with_reducible show wpAny _ _ (PySem.truthy (Value.ref _)) _ _ _); k_dflt (first | (refine truthy_L (b := false) (by k_asm) (by k_mem) rfl ?_ ?_) | (refine truthy_L (b := true) (by k_asm) (by k_mem) rfl ?_ ?_)); (case' refine_1 => first | exact n_le (by with_reducible assumption) rfl | (first | lia | omega) | (simp only [strValues, List.length_map, List.length_cons, List.length_nil] at *; (first | lia | omega))); skip
  k_with "call builtin:list.pop" => k_here; (with_reducible show wpAny _ _ (call (Value.builtin _) [Value.ref _]) _ _ _); k_dflt (refine' pop_L ?F ?N ?U ?z ?_; (case F => k_asm); (case N => k_asm); (case U => k_upd); (case z => first | exact n_le (by with_reducible assumption) rfl | (first | lia | omega) | (simp only [List.length_append, List.length_cons, List.length_nil]; (first | lia | omega)))); intro h' F' N'; (try dsimp only at N')
  k_with "call builtin:len" => k_here; (with_reducible show wpAny _ _ (call (Value.builtin "len") [Value.ref _]) _ _ _); k_dflt (refine' len_L ?N ?m ?z ?_; (case N => k_asm); (case m => k_mem); (case z => first | exact n_le (by with_reducible assumption) rfl | (first | lia | omega) | (simp only [strValues, List.length_map, List.length_append, List.length_cons, List.length_nil]; (first | lia | omega)))); intro t'
  k_with "sset" => first | assumption | exact sset_fresh _
  k_with "getMethod ref" => k_here; (with_reducible show wpAny _ _ (getMethod (Value.ref _) (PySem.Str.ofString "_iter_namespaces") _) _ _ _); k_dflt (refine' method_shadow ?k1 ?k2 ?k3 ?k4 ?k5 ?k6 ?k7 ?k8 ?k9 ?k10 ?k11 ?_; (case k1 => k_asm); (case k2 => k_asm); (case k3 => k_inst); (case k4 => k_is); (case k5 => k_is); (case k6 => k_is); (case k7 => k_is); (case k8 => k_is); (case k9 => k_is); (case k10 => k_get); (case k11 => k_handed); k_whole)
  k_with "getMethod ref" => (with_reducible show wpAny _ _ (getMethod (Value.ref _) (PySem.Str.ofString "_write") _) _ _ _); walk_at "last getMethod ref"
  k_with "getMethod ref" => k_here; (with_reducible show wpAny _ _ (getMethod (Value.ref _) (PySem.Str.ofString "add") _) _ _ _); k_dflt (refine' sset_method ?N ?m ?o ?b ?_; (case N => k_asm); (case m => k_mem); (case o => walk_at "sset"); (case b => decide))
  k_with "call builtin:set.add" => k_here; (with_reducible show wpAny _ _ (call (Value.builtin _) [Value.ref _, Value.str _ _]) _ _ _); k_dflt (refine' sset_add ?F ?N ?U ?o ?b ?_; (case F => k_asm); (case N => k_asm); (case U => k_updF); (case o => walk_at "sset"); (case b => decide)); intro h' so' F' N' hS'; (try dsimp only at N')
  k_with "compareOp NotIn str ref" => k_here; (with_reducible show wpAny _ _ (compareOp _ (Value.str _ _) (Value.ref _)) _ _ _); k_dflt (refine' sset_notin ?N ?m ?o ?b ?_; (case N => k_asm); (case m => k_mem); (case o => walk_at "sset"); (case b => first | decide | (split <;> decide)))
  k_with "compareOp In str ref" => k_here; (with_reducible show wpAny _ _ (compareOp _ (Value.str _ _) (Value.ref _)) _ _ _); k_dflt (refine' sset_in ?N ?m ?o ?b ?_; (case N => k_asm); (case m => k_mem); (case o => walk_at "sset"); (case b => first | decide | (split <;> decide)))
  intros
  trivial
section
open PySem PySem.W PyProof.Rows PySem.Calls
theorem pairs_spec : ∀ {w : World} {p : Program} {loose : List Str} {mean : ExcName → Option Value} {mg mb : Str → Option Value} {A : Around} {env : Env} {outer : List Env} {base h₀ : Heap} {L : Addr} {m : Str → Option Value} {s : Shared} {Q : Value → Shared → Prop} {news : List (Addr × Obj)} {k9 : Int} {t : Tok}
    (_ : CxA 3 w p loose mean mg mb A env outer base h₀ L) (_ : Fr h₀ L s.heap m)
    (_ : News h₀ L s.heap news)
    (_ : ∀ (D : Nat) pv ext n h' tk', 0 < tk' → PairsAt ext pv (pairsOf k9) → Fr h₀ L h' m → News h₀ L h' ((D, W.listOf (List.toArray pv) n) :: ext ++ news) → (∀ p ∈ (D, W.listOf (List.toArray pv) n) :: ext, ∀ q ∈ news, q.1 ≠ p.1) → Q (.ref D) { s with heap := h', toks := tk' }),
    wpAny (model PySem.Challenge.rw_nb0300_01.row.prog w) A (call (.ref 206) [.int k9 t]) Q Nay s := by
  intro w p loose mean mg mb A env outer base h₀ L m s Q news k9 t c F N hret
  have X := c.X
  k_dflt (refine' enterA (ps := [(Str.ofString "part", .int k9 t)]) ?c ?F ?N ?ho ?hcd ?hb ?hps ?h0 ?hloc ?_ ?c2 ?c3 ?c4 ?c5; (case c => assumption); (case F => k_asm); (case N => k_asm); (case ho => k_is); (case hcd => k_is); (case hb => first | exact BindsTo.of_eq rfl | exact binds_K (by k_in) rfl (by k_is) rfl rfl rfl); (case hps => exact rfl); (case h0 => exact Nat.le_of_ble_eq_true rfl); (case hloc => exact locs rfl); (case c2 => exact rfl); (case c3 => exact rfl); (case c4 => exact rfl); (case c5 => decide); k_whole)
  intro A1 g1 L1 h1' tk0 htk0 c1 X1 FG1 F1 N1
  have T1 := c1.T
  have hn := @nd_nil news
  walk_at "go"
  obtain ⟨i1, i2, i3⟩ := val_idx k9 9
  k_dflt (refine' item_strs ?N (.head _) ?st i1 (Int.lt_trans i2 (by decide)) i3 ?_ ?hs; (case N => k_asm); (case st => exact ⟨rfl, rfl, rfl, rfl, rfl, rfl, rfl, rfl, trivial⟩); (case hs => exact rfl))
  intro t1
  walk_at "go"
  obtain ⟨j1, j2, j3⟩ := val_idx k9 72
  k_dflt (refine' item_strs ?N (.tail _ (.head _)) ?st j1 (Int.lt_trans j2 (by decide)) j3 ?_ ?hs; (case N => k_asm); (case st => exact ⟨rfl, rfl, rfl, rfl, rfl, rfl, rfl, rfl, trivial⟩); (case hs => exact rfl))
  intro t2
  walk_at "go"
  have e3 : (k9.fdiv 3).fmod 3 = k9 / 3 % 3 := by rw [show (3 : Int) = ((3 : Nat) : Int) from rfl, fd, fm]
  have h1 := Int.emod_nonneg (k9 / 3) (show (3 : Int) ≠ 0 by decide)
  have h2 := Int.emod_lt_of_pos (k9 / 3) (show (0 : Int) < 3 by decide)
  have h3 : k9 / 3 % 3 = 0 ∨ k9 / 3 % 3 = 1 ∨ k9 / 3 % 3 = 2 := by (first | lia | omega)
  rename Nd _ _ => hq9
  rename_i hX F9 N9
  refine kba_turn (value' := PySem.Expr.Name (Str.ofString "values") default) (fun _ => rfl) ?_
  k_dflt (refine' slice_list3 F9 N9 (News.isList N9 (.head _)) .none (IsPart.int _ _) .none ?n ?_ ?s ?t ?z; (case n => exact nofun); (case s => with_unfolding_all rfl); (case t => kmk_pure); (case z => (rw [sizeLine_eq]; simp)))
  intro h5 F5 N5
  rw [e3] at N5
  have hlr : ∀ q ∈ news, q.1 ≠ hX.objs.size + 1 := fun q hq => Nat.ne_of_lt (Nat.lt_succ_of_lt (Heap.lt_size (N9 q (.tail _ (.tail _ (.tail _ (.tail _ hq))))).1))
  walk_at "go"
  dsimp only at kN kF
  rcases h3 with h3 | h3 | h3
  · rw [h3, slice_0] at kN
    refine hret _ [] [_, _, _, _] 0 _ _ (by walk_at "tpos") (by rw [pairsOf_0 h3]; exact trivial) kF kN ?_
    intro p hp q hq
    simp only [List.mem_cons, List.not_mem_nil, or_false] at hp
    rcases hp with rfl | rfl | rfl | rfl | rfl
    · exact hlr q hq
    · exact nd_ne hq9 memH0 q hq
    · exact nd_ne hq9 memH1 q hq
    · exact nd_ne hq9 memH2 q hq
    · exact nd_ne hq9 memH3 q hq
  · rw [h3, slice_1] at kN
    refine hret _ [_] [_, _, _, _] 0 _ _ (by walk_at "tpos") (by rw [pairsOf_1 h3]; exact ⟨⟨_, _, _, _, rfl, memH2⟩, trivial⟩) kF kN ?_
    intro p hp q hq
    simp only [List.mem_cons, List.not_mem_nil, or_false] at hp
    rcases hp with rfl | rfl | rfl | rfl | rfl
    · exact hlr q hq
    · exact nd_ne hq9 memH0 q hq
    · exact nd_ne hq9 memH1 q hq
    · exact nd_ne hq9 memH2 q hq
    · exact nd_ne hq9 memH3 q hq
  · rw [h3, slice_2] at kN
    refine hret _ [_, _] [_, _, _, _] 0 _ _ (by walk_at "tpos") (by rw [pairsOf_2 h3]; exact ⟨⟨_, _, _, _, rfl, memH2⟩, ⟨_, _, _, _, rfl, memH1⟩, trivial⟩) kF kN ?_
    intro p hp q hq
    simp only [List.mem_cons, List.not_mem_nil, or_false] at hp
    rcases hp with rfl | rfl | rfl | rfl | rfl
    · exact hlr q hq
    · exact nd_ne hq9 memH0 q hq
    · exact nd_ne hq9 memH1 q hq
    · exact nd_ne hq9 memH2 q hq
    · exact nd_ne hq9 memH3 q hq
end
section
open PySem PySem.W PyProof.Rows PySem.Calls
section
variable {prog : Program} {w : World} {A : Around} {s : Shared} {env : Env} {h₀ : Heap} {L : Addr}
noncomputable def WhileP (h₀ : Heap) (L : Addr) (s : Shared) (J : Nat → (Str → Option Value) → List (Addr × Obj) → Nat → Prop) (n : Nat) (f : Flow) (s₃ : Shared) : Prop :=
  f = .next ∧ ∃ h' tk m' news' n', s₃ = { s with heap := h', toks := tk } ∧ Fr h₀ L h' m' ∧ News h₀ L h' news' ∧ n' < n ∧ J n' m' news' tk
theorem WhileP.next {J : Nat → (Str → Option Value) → List (Addr × Obj) → Nat → Prop} {n n' tk : Nat} {m' : Str → Option Value} {news' : List (Addr × Obj)} {h' : Heap} (F : Fr h₀ L h' m') (N : News h₀ L h' news') (hn : n' < n) (hj : J n' m' news' tk) : WhileP h₀ L s J n .next { s with heap := h', toks := tk } := ⟨rfl, h', tk, m', news', n', rfl, F, N, hn, hj⟩
theorem while_any {test : PySem.Expr} {body : List Stmt} {pos : Pos} {m : Str → Option Value} {news : List (Addr × Obj)} {Q : Flow → Shared → Prop} (J : Nat → (Str → Option Value) → List (Addr × Obj) → Nat → Prop) {n₀ : Nat}
    (F : Fr h₀ L s.heap m) (N : News h₀ L s.heap news) (hj : J n₀ m news s.toks)
    (turn : ∀ n m₁ news₁ h tk, J n m₁ news₁ tk → Fr h₀ L h m₁ → News h₀ L h news₁ →
      wpAny (model prog w) A (isTrue test env (eval test env)) (fun b s₂ => if b = true then wpAny (model prog w) A (execs body env) (WhileP h₀ L s J n) Nay s₂ else Q .next s₂) Nay { s with heap := h, toks := tk }) :
    wpAny (model prog w) A (exec (.While test body [] pos) env) Q Nay s := by
  refine wpAny_While (codeAny_whileLoop (fun n s' => ∃ h tk m₁ news₁, s' = { s with heap := h, toks := tk } ∧ Fr h₀ L h m₁ ∧ News h₀ L h news₁ ∧ J n m₁ news₁ tk) ?_ n₀ ⟨s.heap, s.toks, m, news, rfl, F, N, hj⟩)
  rintro n s' ⟨h, tk, m₁, news₁, rfl, F₁, N₁, J₁⟩
  refine ok_mono (turn n m₁ news₁ h tk J₁ F₁ N₁) fun b s₂ h₂ => ?_
  cases b with
  | false =>
    simp only [Bool.false_eq_true, if_false] at h₂ ⊢
    exact wpAny_execs_nil h₂
  | true =>
    simp only [if_true] at h₂ ⊢
    refine ok_mono h₂ fun f s₃ h₃ => ?_
    obtain ⟨rfl, h', tk', m', news', n', rfl, F₂, N₂, hn, J₂⟩ := h₃
    exact ⟨n', hn, h', tk', m', news', rfl, F₂, N₂, J₂⟩
end
end
section
open PySem PySem.W PyProof.Rows PySem.Calls
noncomputable def LevJ (tp l0 D' : Nat) (rest : List Value) (news : List (Addr × Obj)) (i : Nat) (m : Str → Option Value) (news₁ : List (Addr × Obj)) (tk : Nat) : Prop := 0 < tk ∧ ∃ (P n : Nat), m (Str.ofString "pairs") = some (.ref P) ∧ Nd [P, D'] news ∧ news₁ = (P, W.listOf (List.toArray (if i = rest.length + 1 then [.ref tp] else [])) n) :: (D', W.listOf (List.toArray ((Value.ref l0 :: rest).reverse)) 0) :: news
theorem levels_spec : ∀ {w : World} {p : Program} {loose : List Str} {mean : ExcName → Option Value} {mg mb : Str → Option Value} {A : Around} {env : Env} {outer : List Env} {base h₀ : Heap} {L : Addr} {m : Str → Option Value} {s : Shared} {Q : Value → Shared → Prop} {news : List (Addr × Obj)} {ds l0 tp n0 n1 : Nat} {rest : List Value}
    (_ : CxA 3 w p loose mean mg mb A env outer base h₀ L) (_ : Fr h₀ L s.heap m)
    (_ : News h₀ L s.heap news)
    (_ : (ds, W.listOf (List.toArray (.ref l0 :: rest)) n0) ∈ news)
    (_ : (l0, W.listOf (List.toArray [.ref tp]) n1) ∈ news)
    (_ : ∀ v ∈ rest, ∃ a n, v = .ref a ∧ (a, W.listOf (List.toArray []) n) ∈ news)
    (_ : rest.length ≤ 10)
    (_ : ∀ (D n : Nat) h' tk', 0 < tk' → Fr h₀ L h' m → News h₀ L h' ((D, W.listOf (List.toArray [.ref tp]) n) :: news) → (∀ q ∈ news, q.1 ≠ D) → Q (.ref D) { s with heap := h', toks := tk' }),
    wpAny (model PySem.Challenge.rw_nb0300_01.row.prog w) A (call (.ref 220) [.ref ds]) Q Nay s := by
  intro w p loose mean mg mb A env outer base h₀ L m s Q news ds l0 tp n0 n1 rest c F N h1 h2 h3 hr hret
  have X := c.X
  k_dflt (refine' enterA (ps := [(Str.ofString "levels", .ref ds)]) ?c ?F ?N ?ho ?hcd ?hb ?hps ?h0 ?hloc ?_ ?c2 ?c3 ?c4 ?c5; (case c => assumption); (case F => k_asm); (case N => k_asm); (case ho => k_is); (case hcd => k_is); (case hb => first | exact BindsTo.of_eq rfl | exact binds_K (by k_in) rfl (by k_is) rfl rfl rfl); (case hps => exact rfl); (case h0 => exact Nat.le_of_ble_eq_true rfl); (case hloc => exact locs rfl); (case c2 => exact rfl); (case c3 => exact rfl); (case c4 => exact rfl); (case c5 => decide); k_whole)
  intro A1 g1 L1 h1' tk0 htk0 c1 X1 FG1 F1 N1
  have T1 := c1.T
  have hn := @nd_nil news
  walk_at "go"
  refine For_go ?_
  walk_at "go"
  (k_here; k_dflt (refine' krv_lit ?F ?N ?l ?k ?e ?_ ?s ?t ?z; (case F => k_asm); (case N => k_asm)))
  case l => exact News.isList (by k_asm) (by k_mem)
  case k => exact IsPart.int _ _
  case e => exact rfl
  case s => with_unfolding_all rfl
  case t => kmk_pure
  case z => (rw [List.size_toArray, sizeLine_eq]; simp only [List.length_cons]; (first | lia | omega))
  intro D' h' F' N' l1; (try k_lt l1); (try k_sweep)
  refine for_list (vs := (Value.ref l0 :: rest).reverse) (LevJ tp l0 D' rest news) c1.hh F' (News.swap N') ?_ ?_ ?_ ?_
  · exact ⟨by walk_at "tpos", _, _, rfl, Nd.swap l1, by rw [if_neg (by (first | lia | omega))]⟩
  · rintro i m₁ news₁ tk h ⟨_, P, n, _, _, rfl⟩ _ N₁
    exact News.isList N₁ (.tail _ (.head _))
  · rintro i v m₁ news₁ h tk It oI hv ⟨htk, P, n, hP, hPn, rfl⟩ hoc hlt hne F₁ N₁
    replace F₁ := fr_pinsP (ps := [(Str.ofString "pairs", .ref P)]) F₁ ⟨hP, trivial⟩
    have hnI := nd_newN hPn rfl hne
    have hi : i < rest.length + 1 := by
      have := (List.getElem?_eq_some_iff.mp hv).1
      simpa using this
    rw [if_neg (by (first | lia | omega))] at N₁
    have key : ∃ a' n' its, v = .ref a' ∧ (a', W.listOf (List.toArray its) n') ∈ news ∧ its = (if i + 1 = rest.length + 1 then [.ref tp] else []) := by
      rw [List.reverse_cons] at hv
      by_cases h : i < rest.length
      · rw [List.getElem?_append_left (by simpa using h)] at hv
        obtain ⟨a', n', e, hm⟩ := h3 v (List.mem_reverse.mp (List.mem_of_getElem? hv))
        exact ⟨a', n', [], e, hm, by rw [if_neg (by (first | lia | omega))]⟩
      · have e : i = rest.length := by (first | lia | omega)
        subst e
        rw [List.getElem?_append_right (by simp)] at hv
        simp at hv
        exact ⟨l0, n1, [.ref tp], hv.symm, h2, by rw [if_pos rfl]⟩
    obtain ⟨a', n', its, rfl, hm', hits⟩ := key
    have hlen : its.length ≤ 1 := by rw [hits]; split <;> simp
    walk_at "go"
    subst hits
    rename Nd _ _ => hq
    exact TurnP.next (by k_asm) (News.sub (by k_asm) (fun p hp => by
      simp only [List.mem_cons, List.nil_append] at hp ⊢
      rcases hp with h | h | h | h <;> simp [h])) (Nd.off (l := _ :: _ :: _) hq.swap.drop2 rfl) ⟨by walk_at "tpos", _, 0, rfl, hq.drop1.drop1, rfl⟩
  · rintro m₁ news₁ h tk ⟨htk, P, n, hP, hPn, rfl⟩ F₁ N₁
    rw [if_pos (by simp)] at N₁
    replace F₁ := fr_pinsP (ps := [(Str.ofString "pairs", .ref P)]) F₁ ⟨hP, trivial⟩
    walk_at "go"
    exact hret _ _ _ _ (by walk_at "tpos") kF (News.sub kN (fun p hp => by
      rcases List.mem_cons.mp hp with rfl | hp
      · exact .head _
      · exact .tail _ (.tail _ hp))) (nd_ne hPn (.head _))
end
section
open PySem PySem.W PyProof.Rows PySem.Calls
noncomputable def QnJ (w : World) (x dS D' n' tp : Nat) (tg : Str) (news : List (Addr × Obj)) (i : Nat) (m : Str → Option Value) (news₁ : List (Addr × Obj)) (tk : Nat) : Prop := ∃ so t2 t3, 0 < tk ∧ Pins m [(Str.ofString "self", .ref x), (Str.ofString "tag", .str tg t2), (Str.ofString "uri", .str (Str.ofString "") t3), (Str.ofString "prefixes_seen", .ref dS)] ∧ news₁ = (D', W.listOf (List.toArray [.ref tp]) n') :: (dS, so) :: news ∧ ((i = 0 ∧ SSet thePr w so (fun _ => false) 0) ∨ (i = 1 ∧ SSet thePr w so (fun k => false || decide (k = Str.ofString "xml")) 1))
theorem qname_code : ∀ {w : World} {p : Program} {loose : List Str} {mean : ExcName → Option Value} {mg mb : Str → Option Value} {A : Around} {env : Env} {outer : List Env} {base h₀ : Heap} {L : Addr} {m : Str → Option Value} {s : Shared} {Q : Value → Shared → Prop} {news : List (Addr × Obj)} {x dx nn ds l0 tp n0 n1 : Nat} {rest : List Value} {wm dA et ns pm ps : Nat} {cm rs rd : Bool} {ig : Int} {tig : Tok} {T : Nat → Tok} {tg : Str} {ttg tu tx : Tok} {ntp : Nat}
    (_ : CxA 5 w p loose mean mg mb A env outer base h₀ L) (_ : Fr h₀ L s.heap m)
    (_ : News h₀ L s.heap news)
    (_ : (x, instObj 150 dx) ∈ news)
    (_ : (dx, dictOf (tgtEs w wm dA et ds ns pm ps cm rs rd ig tig T) nn) ∈ news)
    (_ : (ds, W.listOf (List.toArray (.ref l0 :: rest)) n0) ∈ news)
    (_ : (l0, W.listOf (List.toArray [.ref tp]) n1) ∈ news)
    (_ : ∀ v ∈ rest, ∃ a n, v = .ref a ∧ (a, W.listOf (List.toArray []) n) ∈ news)
    (_ : rest.length ≤ 10)
    (_ : (tp, nsTup tu tx ntp) ∈ news)
    (_ : tg = Str.ofString "r" ∨ tg = Str.ofString "a" ∨ tg = Str.ofString "b" ∨ tg = Str.ofString "m" ∨ tg = Str.ofString "k")
    (_ : ∀ (D : Nat) t1 t2 t3 n h' tk', 0 < tk' → Fr h₀ L h' m → News h₀ L h' ((D, tup3 tg t1 t2 t3 n) :: news) → (∀ q ∈ news, q.1 ≠ D) → Q (.ref D) { s with heap := h', toks := tk' }),
    codeAny (model PySem.Challenge.rw_nb0300_01.row.prog w) A (.call (.ref 90) ⟨[.ref x, .str tg ttg], []⟩) (fun r s' => match r with | .ok (.ret v) => Q v s' | .ok _ => False | .error e => Nay e s') s := by
  intro w p loose mean mg mb A env outer base h₀ L m s Q news x dx nn ds l0 tp n0 n1 rest wm dA et ns pm ps cm rs rd ig tig Tt tg ttg tu tx ntp c F N h1 h2 h3 h4 h5 hr h6 htg hret
  have hn := @nd_nil news
  have hc : tg.length ≤ 10 := by rcases htg with rfl | rfl | rfl | rfl | rfl <;> decide
  have hsl : (Txt.slice tg none (some 1) == Str.ofString "{") = false := by rcases htg with rfl | rfl | rfl | rfl | rfl <;> decide
  have X := c.X
  k_dflt (refine' codeA (ps := [(Str.ofString "uri", .none), (Str.ofString "qname", .str tg ttg), (Str.ofString "self", .ref x)]) ?c ?F ?N ?ho ?hcd ?hb ?hps ?h0 ?hloc ?_ ?c2 ?c3 ?c4 ?c5; (case c => assumption); (case F => k_asm); (case N => k_asm); (case ho => k_is); (case hcd => k_is); (case hb => first | exact BindsTo.of_eq rfl | exact binds_K (by k_in) rfl (by k_is) rfl rfl rfl); (case hps => exact rfl); (case h0 => exact Nat.le_of_ble_eq_true rfl); (case hloc => exact locs rfl); (case c2 => exact rfl); (case c3 => exact rfl); (case c4 => exact rfl); (case c5 => decide); k_whole)
  intro A1 g1 L1 h1' tk0 htk0 c1 X1 FG1 F1 N1
  have T1 := c1.T
  walk_at "go"
  refine For_go ?_
  walk_at "go"
  k_dflt (refine' levels_spec ?c ?F ?N ?h1 ?h2 ?h3 ?h4 ?_)
  case F => k_asm
  case N => k_asm
  case h1 => k_mem
  case h2 => k_mem
  case c => walk_at "cx"
  case h3 => (intro v hv; obtain ⟨a, n, e, hm⟩ := h5 v hv; exact ⟨a, n, e, by k_mem⟩)
  case h4 => assumption
  intro D' n' h' tk' htk' F' N' l1
  rename Nd _ _ => hq
  rename_i dS _ led _ _ _ _ _
  have hq2 : Nd [D', dS] news := nd_new2 hq l1
  have N2 := News.sub (l' := (D', W.listOf (List.toArray [.ref tp]) n') :: (dS, ({ cls := .type "set", data := .set #[] 0 (.fresh 0 0 led) } : Obj)) :: news) N' (by
    intro p hp
    rcases List.mem_cons.mp hp with h | hp
    · exact h ▸ .head _
    · rcases List.mem_cons.mp hp with h | hp
      · exact h ▸ .tail _ (.head _)
      · exact .tail _ (.tail _ (.tail _ hp)))
  refine for_list (vs := [.ref tp]) (QnJ w x dS D' n' tp tg news) c1.hh F' N2 ?_ ?_ ?_ ?_
  · exact ⟨_, _, _, by walk_at "tpos", ⟨rfl, rfl, rfl, rfl, trivial⟩, rfl, .inl ⟨rfl, sset_fresh led⟩⟩
  · rintro i m₁ news₁ tk h ⟨so, _, _, _, _, rfl, _⟩ _ N₁
    exact News.isList N₁ (.head _)
  · rintro i v m₁ news₁ h tk It oI hv ⟨so, t2, t3, htk, q, rfl, hso⟩ hoc hlt hne F₁ N₁
    have hi : i = 0 := by
      have := (List.getElem?_eq_some_iff.mp hv).1
      simpa using this
    subst hi
    replace hso := hso.resolve_right fun h => Nat.zero_ne_one h.1
    replace hso := hso.2
    cases hv
    replace F₁ := fr_pinsP F₁ q
    have hnI := nd_newN hq2 rfl hne
    walk_at "go"
    rename Obj.SetObjOf _ _ _ _ => hS9
    exact TurnP.next (by k_asm) (by k_asm) (Nd.off (l := _ :: _ :: news) hnI rfl) ⟨_, _, _, by walk_at "tpos", ⟨rfl, rfl, rfl, rfl, trivial⟩, rfl, .inr ⟨rfl, hS9⟩⟩
  · rintro m₁ news₁ h tk ⟨so, t2, t3, htk, q, rfl, hso⟩ F₁ N₁
    replace hso := hso.resolve_left fun h => Nat.one_ne_zero h.1
    replace hso := hso.2
    replace F₁ := fr_pinsP F₁ q
    walk_at "go"
    rename Nd _ _ => hq3
    exact hret _ _ _ _ _ _ _ (by walk_at "tpos") kF (News.sub kN (fun p hp => by
      rcases List.mem_cons.mp hp with rfl | hp
      · exact .head _
      · exact .tail _ (.tail _ (.tail _ hp)))) (nd_ne hq3 (.head _))

theorem qname_spec : ∀ {w : World} {p : Program} {loose : List Str} {mean : ExcName → Option Value} {mg mb : Str → Option Value} {A : Around} {env : Env} {outer : List Env} {base h₀ : Heap} {L : Addr} {m : Str → Option Value} {s : Shared} {Q : Value → Shared → Prop} {news : List (Addr × Obj)} {x dx nn ds l0 tp n0 n1 : Nat} {rest : List Value} {wm dA et ns pm ps : Nat} {cm rs rd : Bool} {ig : Int} {tig : Tok} {T : Nat → Tok} {tg : Str} {ttg tu tx : Tok} {ntp : Nat}
    (_ : CxA 5 w p loose mean mg mb A env outer base h₀ L) (_ : Fr h₀ L s.heap m)
    (_ : News h₀ L s.heap news)
    (_ : (x, instObj 150 dx) ∈ news)
    (_ : (dx, dictOf (tgtEs w wm dA et ds ns pm ps cm rs rd ig tig T) nn) ∈ news)
    (_ : (ds, W.listOf (List.toArray (.ref l0 :: rest)) n0) ∈ news)
    (_ : (l0, W.listOf (List.toArray [.ref tp]) n1) ∈ news)
    (_ : ∀ v ∈ rest, ∃ a n, v = .ref a ∧ (a, W.listOf (List.toArray []) n) ∈ news)
    (_ : rest.length ≤ 10)
    (_ : (tp, nsTup tu tx ntp) ∈ news)
    (_ : tg = Str.ofString "r" ∨ tg = Str.ofString "a" ∨ tg = Str.ofString "b" ∨ tg = Str.ofString "m" ∨ tg = Str.ofString "k")
    (_ : ∀ (D : Nat) t1 t2 t3 n h' tk', 0 < tk' → Fr h₀ L h' m → News h₀ L h' ((D, tup3 tg t1 t2 t3 n) :: news) → (∀ q ∈ news, q.1 ≠ D) → Q (.ref D) { s with heap := h', toks := tk' }),
    wpAny (model PySem.Challenge.rw_nb0300_01.row.prog w) A (call (.ref 90) [.ref x, .str tg ttg]) Q Nay s := fun c F N h1 h2 h3 h4 h5 hr h6 htg hret => wpAny_call (qname_code c F N h1 h2 h3 h4 h5 hr h6 htg hret)
end
section
open PySem PySem.W PyProof.Rows PySem.Calls
theorem esc_if {w : World} {A : Around} {s : Shared} {Q : Flow → Shared → Prop} {g : Heap} {L f : Addr} {q : Str} {sc : Scope} {cd : Value} {news : List (Addr × Obj)} {x C Z : Str} {t : Tok} {c : Nat} {p1 p2 p3 p4 p5 p6 p7 p8 p9 pa pb : Pos} {k1 k2 k3 : Nat}
    (F : Fr g L s.heap (pinned nom [(Str.ofString "text", .str x t)])) (N : News g L s.heap news) (X : (hd.heap_1 w.params).In g) (ht : 0 < s.toks) (hC : C = ⟨#[c]⟩) (hCZ : (C == Z) = false) (hZ : Z.length ≤ 6) (hx : x.length ≤ 1000000) (hk : sc.kind = .function) (hn : (envX q sc L f cd []).kindOf (Str.ofString "text") = some .local)
    {pl : Sem Bool} (he : eval (.Call (.Attribute (.Name (Str.ofString "text") p5) (Str.ofString "replace") p6) [.Constant (.str C) k2 p7, .Constant (.str Z) k3 p8] [] p9) (envOf q sc L f cd) = (do
      let ov ← eval (.Name (Str.ofString "text") p5) (envOf q sc L f cd)
      standAt p6.atName
      let (f', first) ← holding [ov] (getMethod ov (Str.ofString "replace") pl)
      callWith p9 f' first (backTo p9 (starEach [.Constant (.str C) k2 p7, .Constant (.str Z) k3 p8] (envOf q sc L f cd))) []))
    (hret : ∀ t' h' tk', 0 < tk' → (Txt.replace x C Z).length ≤ x.length * 7 → Fr g L h' (pinned nom [(Str.ofString "text", .str (Txt.replace x C Z) t')]) → News g L h' news → Q .next { s with heap := h', toks := tk' }) :
    wpAny (model PySem.Challenge.rw_nb0300_01.row.prog w) A (exec (.If (.Compare (.Constant (.str C) k1 p1) [.In] [.Name (Str.ofString "text") p2] p3) [.Assign [.Name (Str.ofString "text") p4] (.Call (.Attribute (.Name (Str.ofString "text") p5) (Str.ofString "replace") p6) [.Constant (.str C) k2 p7, .Constant (.str Z) k3 p8] [] p9) pa] [] pb) (envOf q sc L f cd)) Q Nay s := by
  (k_with "eval Name" => k_here; k_dflt (refine' nameX_L (cl := []) ?F ?v ?_ ?a ?b; (case F => k_asm); (case a => assumption); (case b => assumption); (case v => rfl); k_whole))
  (k_with "storeName" => k_here; k_dflt (refine' storeP (cl := []) ?F ?N ?_ ?a ?b; (case F => k_asm); (case N => k_asm); (case a => assumption); (case b => assumption); k_whole); intro h' F' N'; (try k_sweep))
  (k_with "call builtin:str.replace" => (with_reducible show wpAny _ _ (call (Value.builtin "str.replace") [Value.str _ _, Value.str _ _, Value.str _ _]) _ _ _); k_dflt (refine' replace_P ?a ?b ?c ?d ?e ?_; (case a => (refine ltN ?_; (first | lia | omega))); (case b => (refine ltN ?_; (first | lia | omega))); (case c => assumption); (case d => assumption); (case e => (first | lia | omega))); intro t' k' hk'; (try dsimp only at hk'))
  (k_with "goE" => repeat' (first | (k_unfold; (try dsimp only)) | walk1 | (dsimp only; walk1) | fail "no step"))
  obtain ⟨hp, gs, d, tk, os⟩ := s
  have hlen := replace_lenS (x := x) (z := Z) hC hZ
  walk_at "goE"
  · exact hret _ _ _ (Nat.succ_pos _) hlen (by rw [replace_absent (c := c) _ hC (by assumption)]; exact F) N
  · refine MethodCall_ ?_ he
    walk_at "goE"
    exact hret _ _ _ (by walk_at "tpos") hlen (fr_again F') N'

theorem cdata_spec : ∀ {w : World} {p : Program} {loose : List Str} {mean : ExcName → Option Value} {mg mb : Str → Option Value} {A : Around} {env : Env} {outer : List Env} {base h₀ : Heap} {L : Addr} {m : Str → Option Value} {s : Shared} {Q : Value → Shared → Prop} {x : Str} {t : Tok} {news : List (Addr × Obj)}
    (_ : CxA 3 w p loose mean mg mb A env outer base h₀ L) (_ : Fr h₀ L s.heap m)
    (_ : News h₀ L s.heap news)
    (_ : x.length ≤ 100)
    (_ : ∀ t' h' tk', 0 < tk' → Fr h₀ L h' m → News h₀ L h' news → Q (.str (escT x) t') { s with heap := h', toks := tk' }),
    wpAny (model PySem.Challenge.rw_nb0300_01.row.prog w) A (call (.ref 161) [.str x t]) Q Nay s := by
  intro w p loose mean mg mb A env outer base h₀ L m s Q x t news c F N hx hret
  have X := c.X
  k_dflt (refine' enterA (ps := [(Str.ofString "text", .str x t)]) ?c ?F ?N ?ho ?hcd ?hb ?hps ?h0 ?hloc ?_ ?c2 ?c3 ?c4 ?c5; (case c => assumption); (case F => k_asm); (case N => k_asm); (case ho => k_is); (case hcd => k_is); (case hb => first | exact BindsTo.of_eq rfl | exact binds_K (by k_in) rfl (by k_is) rfl rfl rfl); (case hps => exact rfl); (case h0 => exact Nat.le_of_ble_eq_true rfl); (case hloc => exact locs rfl); (case c2 => exact rfl); (case c3 => exact rfl); (case c4 => exact rfl); (case c5 => decide); k_whole)
  intro A1 g1 L1 h1' tk0 htk0 c1 X1 FG1 F1 N1
  have T1 := c1.T
  refine execs_one ?_
  walk1
  refine ok_any ?_
  refine execsS ?_
  k_dflt (refine' esc_if (c := 38) F1 N1 X1 htk0 rfl rfl (Nat.le_of_ble_eq_true rfl) (Nat.le_trans hx (Nat.le_of_ble_eq_true rfl)) rfl rfl rfl ?_)
  intro t1 h1 tk1 htk1 hl1 F21 N21
  clear F1 N1
  have hb1 : (Txt.replace x (Str.ofString "&") (Str.ofString "&amp;")).length ≤ 700 := Nat.le_trans hl1 (Nat.mul_le_mul_right 7 hx)
  refine QS_next (by assumption) ?_
  intro tq1 htq1
  refine execsS ?_
  k_dflt (refine' esc_if (c := 60) F21 N21 X1 htq1 rfl rfl (Nat.le_of_ble_eq_true rfl) (Nat.le_trans hb1 (Nat.le_of_ble_eq_true rfl)) rfl rfl rfl ?_)
  intro t2 h2 tk2 htk2 hl2 F22 N22
  clear F21 N21
  have hb2 : (Txt.replace (Txt.replace x (Str.ofString "&") (Str.ofString "&amp;")) (Str.ofString "<") (Str.ofString "&lt;")).length ≤ 4900 := Nat.le_trans hl2 (Nat.mul_le_mul_right 7 hb1)
  refine QS_next (by assumption) ?_
  intro tq2 htq2
  refine execsS ?_
  k_dflt (refine' esc_if (c := 62) F22 N22 X1 htq2 rfl rfl (Nat.le_of_ble_eq_true rfl) (Nat.le_trans hb2 (Nat.le_of_ble_eq_true rfl)) rfl rfl rfl ?_)
  intro t3 h3 tk3 htk3 hl3 F23 N23
  clear F22 N22
  have hb3 : (Txt.replace (Txt.replace (Txt.replace x (Str.ofString "&") (Str.ofString "&amp;")) (Str.ofString "<") (Str.ofString "&lt;")) (Str.ofString ">") (Str.ofString "&gt;")).length ≤ 34300 := Nat.le_trans hl3 (Nat.mul_le_mul_right 7 hb2)
  refine QS_next (by assumption) ?_
  intro tq3 htq3
  refine execsS ?_
  k_dflt (refine' esc_if (c := 13) F23 N23 X1 htq3 rfl rfl (Nat.le_of_ble_eq_true rfl) (Nat.le_trans hb3 (Nat.le_of_ble_eq_true rfl)) rfl rfl rfl ?_)
  intro t4 h4 tk4 htk4 hl4 F24 N24
  clear F23 N23
  refine QS_next (by assumption) ?_
  intro tq4 htq4
  walk_at "go"
  rw [escT_eq]
  exact hret _ _ _ (by walk_at "tpos") kF kN

theorem attrib_spec : ∀ {w : World} {p : Program} {loose : List Str} {mean : ExcName → Option Value} {mg mb : Str → Option Value} {A : Around} {env : Env} {outer : List Env} {base h₀ : Heap} {L : Addr} {m : Str → Option Value} {s : Shared} {Q : Value → Shared → Prop} {x : Str} {t : Tok} {news : List (Addr × Obj)}
    (_ : CxA 3 w p loose mean mg mb A env outer base h₀ L) (_ : Fr h₀ L s.heap m)
    (_ : News h₀ L s.heap news)
    (_ : x.length ≤ 8)
    (_ : ∀ t' h' tk', 0 < tk' → Fr h₀ L h' m → News h₀ L h' news → Q (.str (escA x) t') { s with heap := h', toks := tk' }),
    wpAny (model PySem.Challenge.rw_nb0300_01.row.prog w) A (call (.ref 168) [.str x t]) Q Nay s := by
  intro w p loose mean mg mb A env outer base h₀ L m s Q x t news c F N hx hret
  have X := c.X
  k_dflt (refine' enterA (ps := [(Str.ofString "text", .str x t)]) ?c ?F ?N ?ho ?hcd ?hb ?hps ?h0 ?hloc ?_ ?c2 ?c3 ?c4 ?c5; (case c => assumption); (case F => k_asm); (case N => k_asm); (case ho => k_is); (case hcd => k_is); (case hb => first | exact BindsTo.of_eq rfl | exact binds_K (by k_in) rfl (by k_is) rfl rfl rfl); (case hps => exact rfl); (case h0 => exact Nat.le_of_ble_eq_true rfl); (case hloc => exact locs rfl); (case c2 => exact rfl); (case c3 => exact rfl); (case c4 => exact rfl); (case c5 => decide); k_whole)
  intro A1 g1 L1 h1' tk0 htk0 c1 X1 FG1 F1 N1
  have T1 := c1.T
  refine execs_one ?_
  walk1
  refine ok_any ?_
  refine execsS ?_
  k_dflt (refine' esc_if (c := 38) F1 N1 X1 htk0 rfl rfl (Nat.le_of_ble_eq_true rfl) (Nat.le_trans hx (Nat.le_of_ble_eq_true rfl)) rfl rfl rfl ?_)
  intro t1 h1 tk1 htk1 hl1 F21 N21
  clear F1 N1
  have hb1 : (Txt.replace x (Str.ofString "&") (Str.ofString "&amp;")).length ≤ 56 := Nat.le_trans hl1 (Nat.mul_le_mul_right 7 hx)
  refine QS_next (by assumption) ?_
  intro tq1 htq1
  refine execsS ?_
  k_dflt (refine' esc_if (c := 60) F21 N21 X1 htq1 rfl rfl (Nat.le_of_ble_eq_true rfl) (Nat.le_trans hb1 (Nat.le_of_ble_eq_true rfl)) rfl rfl rfl ?_)
  intro t2 h2 tk2 htk2 hl2 F22 N22
  clear F21 N21
  have hb2 : (Txt.replace (Txt.replace x (Str.ofString "&") (Str.ofString "&amp;")) (Str.ofString "<") (Str.ofString "&lt;")).length ≤ 392 := Nat.le_trans hl2 (Nat.mul_le_mul_right 7 hb1)
  refine QS_next (by assumption) ?_
  intro tq2 htq2
  refine execsS ?_
  k_dflt (refine' esc_if (c := 34) F22 N22 X1 htq2 rfl rfl (Nat.le_of_ble_eq_true rfl) (Nat.le_trans hb2 (Nat.le_of_ble_eq_true rfl)) rfl rfl rfl ?_)
  intro t3 h3 tk3 htk3 hl3 F23 N23
  clear F22 N22
  have hb3 : (Txt.replace (Txt.replace (Txt.replace x (Str.ofString "&") (Str.ofString "&amp;")) (Str.ofString "<") (Str.ofString "&lt;")) (Str.ofString "\"") (Str.ofString "&quot;")).length ≤ 2744 := Nat.le_trans hl3 (Nat.mul_le_mul_right 7 hb2)
  refine QS_next (by assumption) ?_
  intro tq3 htq3
  refine execsS ?_
  k_dflt (refine' esc_if (c := 9) F23 N23 X1 htq3 rfl rfl (Nat.le_of_ble_eq_true rfl) (Nat.le_trans hb3 (Nat.le_of_ble_eq_true rfl)) rfl rfl rfl ?_)
  intro t4 h4 tk4 htk4 hl4 F24 N24
  clear F23 N23
  have hb4 : (Txt.replace (Txt.replace (Txt.replace (Txt.replace x (Str.ofString "&") (Str.ofString "&amp;")) (Str.ofString "<") (Str.ofString "&lt;")) (Str.ofString "\"") (Str.ofString "&quot;")) (Str.ofString "\t") (Str.ofString "&#x9;")).length ≤ 19208 := Nat.le_trans hl4 (Nat.mul_le_mul_right 7 hb3)
  refine QS_next (by assumption) ?_
  intro tq4 htq4
  refine execsS ?_
  k_dflt (refine' esc_if (c := 10) F24 N24 X1 htq4 rfl rfl (Nat.le_of_ble_eq_true rfl) (Nat.le_trans hb4 (Nat.le_of_ble_eq_true rfl)) rfl rfl rfl ?_)
  intro t5 h5 tk5 htk5 hl5 F25 N25
  clear F24 N24
  have hb5 : (Txt.replace (Txt.replace (Txt.replace (Txt.replace (Txt.replace x (Str.ofString "&") (Str.ofString "&amp;")) (Str.ofString "<") (Str.ofString "&lt;")) (Str.ofString "\"") (Str.ofString "&quot;")) (Str.ofString "\t") (Str.ofString "&#x9;")) (Str.ofString "\n") (Str.ofString "&#xA;")).length ≤ 134456 := Nat.le_trans hl5 (Nat.mul_le_mul_right 7 hb4)
  refine QS_next (by assumption) ?_
  intro tq5 htq5
  refine execsS ?_
  k_dflt (refine' esc_if (c := 13) F25 N25 X1 htq5 rfl rfl (Nat.le_of_ble_eq_true rfl) (Nat.le_trans hb5 (Nat.le_of_ble_eq_true rfl)) rfl rfl rfl ?_)
  intro t6 h6 tk6 htk6 hl6 F26 N26
  clear F25 N25
  refine QS_next (by assumption) ?_
  intro tq6 htq6
  walk_at "go"
  rw [escA_eq]
  exact hret _ _ _ (by walk_at "tpos") kF kN
end
section
open PySem PySem.W PyProof.Rows PySem.Calls PySem.Spec
noncomputable def Parsed2 (news : List (Addr × Obj)) (x : Str) (v : Value) (nw : List (Addr × Obj)) : Prop := ∃ a : Nat, ∃ t1 t2 t3 n, v = .ref a ∧ (a, tup3 x t1 t2 t3 n) ∈ nw ∧ ∀ q ∈ news, @Ne Nat q.1 a
section
variable {prog : Program} {w : World} {A : Around} {E : Value → Shared → Prop} {s : Shared} {h₀ : Heap} {L : Addr} {m : Str → Option Value} {news : List (Addr × Obj)}
theorem dc_names2 {kx vx : PySem.Expr} {x y : Str} {px : Pos} {scope : Scope} {cl : List (Str × Addr)} {env : Env} {l : Addr} {vs : List Value} {names : List Str} {n : Nat} {Q : Flow → Shared → Prop} (hh : A.handled = none) (F : Fr h₀ L s.heap m) (N : News h₀ L s.heap news) (hl : (l, listOf (List.toArray vs) n) ∈ news) (hlen : vs.length ≤ 1000)
    (hvs : KeyVals names vs) (hnd : names.Nodup) (hnm : ∀ x ∈ names, IsName x) (ht : 0 < s.toks) (hkx : kx = .Name x px) (hk : ∀ C, (compEnvC scope cl C env).scope.kind = .function) (hk2 : ∀ C, (compEnvC scope cl C env).kindOf x = some .local) (hdb : (x == ("__debug__" : Str)) = false)
    (turn : ∀ (z : Str) t nw h tk I oI C oC D oD m₂ (Q' : Value → Shared → Prop), IsName z → 0 < tk → (∀ p ∈ news, p ∈ nw) → LCg.NsObj oC m₂ → m₂ x = some (.str z t) → Fr h₀ L h m → News h₀ L h ((I, oI) :: (C, oC) :: (D, oD) :: nw) →
      (∀ (a : Nat) t1 t2 t3 n h' tk', Fr h₀ L h' m → News h₀ L h' ((a, tup3 z t1 t2 t3 n) :: (I, oI) :: (C, oC) :: (D, oD) :: nw) → (∀ q ∈ (I, oI) :: (C, oC) :: (D, oD) :: nw, @Ne Nat q.1 a) → Q' (.ref a) { s with heap := h', toks := tk' }) →
      wpAny (model prog w) A (eval vx (compEnvC scope cl C env)) Q' Nay { s with heap := h, toks := tk })
    (fin : ∀ (D : Nat) kvs nw oD h' tk', Fr h₀ L h' (fun z => if z = y then some (.ref D) else m z) → News h₀ L h' ((D, oD) :: nw) → oD.IsDictOf (strKind prog w) kvs → (∀ p ∈ nw, p.1 ≠ D) → (∀ p ∈ news, p ∈ nw) → (∀ z ∈ names, ∃ v, (z, v) ∈ kvs ∧ Parsed2 news z v nw) → 0 < tk' → Q .next { s with heap := h', toks := tk' }) :
    DcSrc prog w A h₀ L m env kx vx x scope cl (DcFin h₀ L m y Q) (.ref l) s := by
  have hvl := hvs.length
  refine ⟨l, vs, n, news, fun i kvs nw tk => 0 < tk ∧ (∀ p ∈ news, p ∈ nw) ∧ kvs.map (·.1) = names.take i ∧ i ≤ names.length ∧ ∀ kv ∈ kvs, Parsed2 news kv.1 kv.2 nw, rfl, hh, F, N, hlen, fun tk h => ⟨Nat.lt_of_lt_of_le ht h, fun _ hp => hp, rfl, Nat.zero_le _, fun _ h => by cases h⟩, ?_, ?_, ?_, ?_⟩
  · rintro i kvs nw tk ⟨_, hs, hm, hi, _⟩
    refine ⟨hs _ hl, ?_⟩
    rw [← List.length_map (f := (·.1)), hm, List.length_take, Nat.min_eq_left hi]
  · rintro i kvs nw tk tk' ⟨h1, h2⟩ h
    exact ⟨Nat.lt_of_lt_of_le h1 h, h2⟩
  · rintro g i v kvs nw tk h I oI C oC D oD m₂ hv ⟨htk, hs, hm, hi, hp⟩ hC hx hD F' N' off ne
    obtain ⟨z, t, hz, rfl⟩ := hvs.get hv
    subst hkx
    refine LCgL.ld_own N' (.tail _ (.head _)) hC hx ?_ (hk C) (hk2 C) hdb
    refine turn z t nw h tk I oI C oC D oD m₂ _ (hnm z (List.mem_of_getElem? hz)) htk hs hC hx F' N' fun a t1 t2 t3 n h' tk' F₂ N₂ hlt => ?_
    have hzi := (List.getElem?_eq_some_iff.mp hz).1
    refine ⟨z, t, (a, tup3 z t1 t2 t3 n) :: nw, h', tk', rfl, ?_, rfl, F₂, ?_, ?_, Nat.succ_pos _, fun p hp => .tail _ (hs p hp), ?_, hzi, ?_⟩
    · rw [hm]
      intro hmem
      obtain ⟨j, hj, hje⟩ := List.mem_take_iff_getElem.mp hmem
      have hne := List.pairwise_iff_getElem.mp hnd j i (Nat.lt_of_lt_of_le hj (Nat.min_le_right ..)) hzi (Nat.lt_of_lt_of_le hj (Nat.min_le_left ..))
      exact hne (by rw [hje]; exact ((List.getElem?_eq_some_iff.mp hz).2).symm)
    · intro p hp
      refine N₂ p ?_
      simp only [List.mem_cons] at hp ⊢
      rcases hp with h | h | h | h | h <;> simp [h]
    · exact ⟨⟨(hlt _ (.head _)).symm, (hlt _ (.tail _ (.head _))).symm, (hlt _ (.tail _ (.tail _ (.head _)))).symm⟩, off⟩
    · rw [List.map_append, hm, List.take_add_one, hz]; rfl
    · intro kv hkv
      rcases List.mem_append.mp hkv with hkv | hkv
      · obtain ⟨b, u1, u2, u3, k, e1, e2, e3⟩ := hp kv hkv
        exact ⟨b, u1, u2, u3, k, e1, .tail _ e2, e3⟩
      · rw [List.mem_singleton.mp hkv]
        exact ⟨a, t1, t2, t3, n, rfl, .head _, fun q hq => hlt q (.tail _ (.tail _ (.tail _ (hs q hq))))⟩
  · rintro g D h tk kvs nw oD ⟨htk, hs, hm, hi, hp⟩ hD F' N' off h' tk' F₂ N₂ off₂ htk'
    rw [hvl] at hm
    rw [List.take_length] at hm
    refine fin D kvs nw oD h' tk' F₂ N₂ hD (fun p hp => ?_) hs (fun z hz => ?_) (Nat.lt_of_lt_of_le htk htk')
    · have : ∀ (l : List (Addr × Obj)), LCg.Off1 D l → ∀ p ∈ l, p.1 ≠ D := by
        intro l
        induction l with
        | nil => intro _ p h; cases h
        | cons q r ih =>
          intro ho p hp
          rcases List.mem_cons.mp hp with rfl | hp
          · exact ho.1
          · exact ih ho.2 p hp
      exact this nw off p hp
    · rw [← hm] at hz
      obtain ⟨kv, hkv, rfl⟩ := List.mem_map.mp hz
      exact ⟨kv.2, hkv, hp kv hkv⟩
end
section
variable {as : List Addr} {tl ext led : List (Addr × Obj)} {f : Addr}
theorem nd_ext (hn : Nd as tl) (hl : led.map (·.1) = as ++ tl.map (·.1)) (hx : ∀ p ∈ ext, ∀ q ∈ led, @LT.lt Nat _ q.1 p.1) : Nd as (ext ++ tl) := by
  refine ⟨hn.1, fun p hp h => ?_⟩
  rcases List.mem_append.mp hp with hp | hp
  · have : p.1 ∈ led.map (·.1) := by rw [hl]; exact List.mem_append_left _ h
    obtain ⟨q, hq, e⟩ := List.mem_map.mp this
    exact Nat.lt_irrefl _ (e ▸ hx p hp q hq)
  · exact hn.2 p hp h
theorem nd_two {L1 : Nat} (hn : Nd as tl) (hl : led.map (·.1) = as ++ tl.map (·.1)) (lN : ∀ p ∈ led, @LT.lt Nat _ p.1 L1) : Nd ((L1 + 1) :: (L1 + 1 + 1) :: as) tl := by
  have h2 : Nd ((L1 + 1 + 1) :: as) tl := nd_new hn hl fun p hp => Nat.lt_succ_of_lt (Nat.lt_succ_of_lt (lN p hp))
  have h1 : Nd ((L1 + 1) :: as) tl := nd_new hn hl fun p hp => Nat.lt_succ_of_lt (lN p hp)
  refine ⟨List.nodup_cons.mpr ⟨fun h => ?_, h2.1⟩, fun p hp h => ?_⟩
  · rcases List.mem_cons.mp h with h | h
    · exact Nat.ne_of_lt (Nat.lt_succ_self _) h
    · exact (List.nodup_cons.mp h1.1).1 h
  · rcases List.mem_cons.mp h with h | h
    · exact h1.2 p hp (h ▸ .head _)
    · exact h2.2 p hp h
theorem nd_lam (hn : Nd as tl) (hl : led.map (·.1) = as ++ tl.map (·.1)) (hx : ∀ p ∈ ext, ∀ q ∈ led, @LT.lt Nat _ q.1 p.1) (h1 : ∀ q ∈ led, @LT.lt Nat _ q.1 f) (h2 : ∀ q ∈ ext, @LT.lt Nat _ q.1 f) : Nd (f :: as) (ext ++ tl) := by
  have h3 := nd_ext hn hl hx
  refine ⟨List.nodup_cons.mpr ⟨fun h => ?_, h3.1⟩, fun p hp h => ?_⟩
  · have : f ∈ led.map (·.1) := by rw [hl]; exact List.mem_append_left _ h
    obtain ⟨q, hq, e⟩ := List.mem_map.mp this
    exact Nat.lt_irrefl _ (e ▸ h1 q hq)
  · rcases List.mem_cons.mp h with h | h
    · rcases List.mem_append.mp hp with hp | hp
      · exact Nat.lt_irrefl _ (h ▸ h2 p hp)
      · have : p.1 ∈ led.map (·.1) := by rw [hl]; exact List.mem_append_right _ (List.mem_map_of_mem hp)
        obtain ⟨q, hq, e⟩ := List.mem_map.mp this
        have := h1 q hq
        rw [e, h] at this
        exact Nat.lt_irrefl _ this
    · exact h3.2 p hp h
end
theorem is_ne {w : World} {k x : Str} {t : Tok} (h : k ≠ x) : (strKind thePr w).is k (.str x t) = false := by
  cases hc : (strKind thePr w).is k (Value.str x t) with
  | false => rfl
  | true => exact absurd ((strKind thePr w).inj _ _ _ hc (strKind_is thePr w x t)) h
theorem kv_mem {xs : List Str} {vs : List Value} {v : Value} (h : KeyVals xs vs) (hm : v ∈ vs) : ∃ x t, x ∈ xs ∧ v = .str x t := by
  induction xs generalizing vs with
  | nil =>
    cases vs with
    | nil => exact absurd hm List.not_mem_nil
    | cons u q => exact h.elim
  | cons x r ih =>
    cases vs with
    | nil => exact absurd hm List.not_mem_nil
    | cons u q =>
      rcases List.mem_cons.mp hm with rfl | hm
      · obtain ⟨t, rfl⟩ := h.1
        exact ⟨x, t, .head _, rfl⟩
      · obtain ⟨y, t, h1, h2⟩ := ih h.2 hm
        exact ⟨y, t, .tail _ h1, h2⟩
noncomputable def offs (as : List Addr) (nw : List (Addr × Obj)) : List (Addr × Obj) := nw.filter fun p => decide (p.1 ∉ as)
theorem mem_offs {as : List Addr} {nw : List (Addr × Obj)} {p : Addr × Obj} (h : p ∈ nw) (h2 : p.1 ∉ as) : p ∈ offs as nw := List.mem_filter.mpr ⟨h, decide_eq_true h2⟩
theorem nd_offs {as : List Addr} {tl nw : List (Addr × Obj)} (hn : Nd as tl) : Nd as (offs as nw) := ⟨hn.1, fun p hp => of_decide_eq_true (List.mem_filter.mp hp).2⟩
theorem offs_sub {as : List Addr} {nw : List (Addr × Obj)} {p : Addr × Obj} (h : p ∈ offs as nw) : p ∈ nw := (List.mem_filter.mp h).1
theorem not_as {d : Addr} {as : List Addr} {tl led nw : List (Addr × Obj)} {p : Addr × Obj} (hl : led.map (·.1) = as ++ tl.map (·.1)) (hd : ∀ q ∈ nw, q.1 ≠ d) (hp : p ∈ nw) (hn : ∀ q ∈ led, @Ne Nat q.1 p.1) : p.1 ∉ d :: as := fun h => by
  rcases List.mem_cons.mp h with h | h
  · exact hd p hp h
  · have : p.1 ∈ led.map (·.1) := by rw [hl]; exact List.mem_append_left _ h
    obtain ⟨q, hq, e⟩ := List.mem_map.mp this
    exact hn q hq e
theorem fr_cons {h₀ h : Heap} {L : Addr} {m : Str → Option Value} {y : Str} {v : Value} {ps : List (Str × Value)} (F : Fr h₀ L h (fun z => if z = y then some v else pinned m ps z)) : Fr h₀ L h (pinned m ((y, v) :: ps)) := F
theorem updT0 {d : Addr} {o : Obj} {tl : List (Addr × Obj)} (hn : Nd (d :: []) tl) : UpdT d o tl ((d, o) :: tl) (fun z t => (d, z) :: t) := .here (fun p hp => nd_ne hn memH0 p hp)
theorem updT1 {ay0 : Addr} {oy0 : Obj} {d : Addr} {o : Obj} {tl : List (Addr × Obj)} (hn : Nd (ay0 :: d :: []) tl) : UpdT d o tl ((ay0, oy0) :: (d, o) :: tl) (fun z t => (ay0, oy0) :: (d, z) :: t) := .cons (hn.ne memH0) (updT0 hn.rest)
theorem updT2 {ay0 ay1 : Addr} {oy0 oy1 : Obj} {d : Addr} {o : Obj} {tl : List (Addr × Obj)} (hn : Nd (ay0 :: ay1 :: d :: []) tl) : UpdT d o tl ((ay0, oy0) :: (ay1, oy1) :: (d, o) :: tl) (fun z t => (ay0, oy0) :: (ay1, oy1) :: (d, z) :: t) := .cons (hn.ne memH1) (updT1 hn.rest)
theorem updT3 {ay0 ay1 ay2 : Addr} {oy0 oy1 oy2 : Obj} {d : Addr} {o : Obj} {tl : List (Addr × Obj)} (hn : Nd (ay0 :: ay1 :: ay2 :: d :: []) tl) : UpdT d o tl ((ay0, oy0) :: (ay1, oy1) :: (ay2, oy2) :: (d, o) :: tl) (fun z t => (ay0, oy0) :: (ay1, oy1) :: (ay2, oy2) :: (d, z) :: t) := .cons (hn.ne memH2) (updT2 hn.rest)
theorem updT4 {ay0 ay1 ay2 ay3 : Addr} {oy0 oy1 oy2 oy3 : Obj} {d : Addr} {o : Obj} {tl : List (Addr × Obj)} (hn : Nd (ay0 :: ay1 :: ay2 :: ay3 :: d :: []) tl) : UpdT d o tl ((ay0, oy0) :: (ay1, oy1) :: (ay2, oy2) :: (ay3, oy3) :: (d, o) :: tl) (fun z t => (ay0, oy0) :: (ay1, oy1) :: (ay2, oy2) :: (ay3, oy3) :: (d, z) :: t) := .cons (hn.ne memH3) (updT3 hn.rest)
theorem updT5 {ay0 ay1 ay2 ay3 ay4 : Addr} {oy0 oy1 oy2 oy3 oy4 : Obj} {d : Addr} {o : Obj} {tl : List (Addr × Obj)} (hn : Nd (ay0 :: ay1 :: ay2 :: ay3 :: ay4 :: d :: []) tl) : UpdT d o tl ((ay0, oy0) :: (ay1, oy1) :: (ay2, oy2) :: (ay3, oy3) :: (ay4, oy4) :: (d, o) :: tl) (fun z t => (ay0, oy0) :: (ay1, oy1) :: (ay2, oy2) :: (ay3, oy3) :: (ay4, oy4) :: (d, z) :: t) := .cons (hn.ne memH4) (updT4 hn.rest)
theorem updT6 {ay0 ay1 ay2 ay3 ay4 ay5 : Addr} {oy0 oy1 oy2 oy3 oy4 oy5 : Obj} {d : Addr} {o : Obj} {tl : List (Addr × Obj)} (hn : Nd (ay0 :: ay1 :: ay2 :: ay3 :: ay4 :: ay5 :: d :: []) tl) : UpdT d o tl ((ay0, oy0) :: (ay1, oy1) :: (ay2, oy2) :: (ay3, oy3) :: (ay4, oy4) :: (ay5, oy5) :: (d, o) :: tl) (fun z t => (ay0, oy0) :: (ay1, oy1) :: (ay2, oy2) :: (ay3, oy3) :: (ay4, oy4) :: (ay5, oy5) :: (d, z) :: t) := .cons (hn.ne memH5) (updT5 hn.rest)
theorem updT7 {ay0 ay1 ay2 ay3 ay4 ay5 ay6 : Addr} {oy0 oy1 oy2 oy3 oy4 oy5 oy6 : Obj} {d : Addr} {o : Obj} {tl : List (Addr × Obj)} (hn : Nd (ay0 :: ay1 :: ay2 :: ay3 :: ay4 :: ay5 :: ay6 :: d :: []) tl) : UpdT d o tl ((ay0, oy0) :: (ay1, oy1) :: (ay2, oy2) :: (ay3, oy3) :: (ay4, oy4) :: (ay5, oy5) :: (ay6, oy6) :: (d, o) :: tl) (fun z t => (ay0, oy0) :: (ay1, oy1) :: (ay2, oy2) :: (ay3, oy3) :: (ay4, oy4) :: (ay5, oy5) :: (ay6, oy6) :: (d, z) :: t) := .cons (hn.ne memH6) (updT6 hn.rest)
theorem updT8 {ay0 ay1 ay2 ay3 ay4 ay5 ay6 ay7 : Addr} {oy0 oy1 oy2 oy3 oy4 oy5 oy6 oy7 : Obj} {d : Addr} {o : Obj} {tl : List (Addr × Obj)} (hn : Nd (ay0 :: ay1 :: ay2 :: ay3 :: ay4 :: ay5 :: ay6 :: ay7 :: d :: []) tl) : UpdT d o tl ((ay0, oy0) :: (ay1, oy1) :: (ay2, oy2) :: (ay3, oy3) :: (ay4, oy4) :: (ay5, oy5) :: (ay6, oy6) :: (ay7, oy7) :: (d, o) :: tl) (fun z t => (ay0, oy0) :: (ay1, oy1) :: (ay2, oy2) :: (ay3, oy3) :: (ay4, oy4) :: (ay5, oy5) :: (ay6, oy6) :: (ay7, oy7) :: (d, z) :: t) := .cons (hn.ne memH7) (updT7 hn.rest)
theorem updT9 {ay0 ay1 ay2 ay3 ay4 ay5 ay6 ay7 ay8 : Addr} {oy0 oy1 oy2 oy3 oy4 oy5 oy6 oy7 oy8 : Obj} {d : Addr} {o : Obj} {tl : List (Addr × Obj)} (hn : Nd (ay0 :: ay1 :: ay2 :: ay3 :: ay4 :: ay5 :: ay6 :: ay7 :: ay8 :: d :: []) tl) : UpdT d o tl ((ay0, oy0) :: (ay1, oy1) :: (ay2, oy2) :: (ay3, oy3) :: (ay4, oy4) :: (ay5, oy5) :: (ay6, oy6) :: (ay7, oy7) :: (ay8, oy8) :: (d, o) :: tl) (fun z t => (ay0, oy0) :: (ay1, oy1) :: (ay2, oy2) :: (ay3, oy3) :: (ay4, oy4) :: (ay5, oy5) :: (ay6, oy6) :: (ay7, oy7) :: (ay8, oy8) :: (d, z) :: t) := .cons (hn.ne memH8) (updT8 hn.rest)
theorem updT10 {ay0 ay1 ay2 ay3 ay4 ay5 ay6 ay7 ay8 ay9 : Addr} {oy0 oy1 oy2 oy3 oy4 oy5 oy6 oy7 oy8 oy9 : Obj} {d : Addr} {o : Obj} {tl : List (Addr × Obj)} (hn : Nd (ay0 :: ay1 :: ay2 :: ay3 :: ay4 :: ay5 :: ay6 :: ay7 :: ay8 :: ay9 :: d :: []) tl) : UpdT d o tl ((ay0, oy0) :: (ay1, oy1) :: (ay2, oy2) :: (ay3, oy3) :: (ay4, oy4) :: (ay5, oy5) :: (ay6, oy6) :: (ay7, oy7) :: (ay8, oy8) :: (ay9, oy9) :: (d, o) :: tl) (fun z t => (ay0, oy0) :: (ay1, oy1) :: (ay2, oy2) :: (ay3, oy3) :: (ay4, oy4) :: (ay5, oy5) :: (ay6, oy6) :: (ay7, oy7) :: (ay8, oy8) :: (ay9, oy9) :: (d, z) :: t) := .cons (hn.ne memH9) (updT9 hn.rest)
theorem updT11 {ay0 ay1 ay2 ay3 ay4 ay5 ay6 ay7 ay8 ay9 ay10 : Addr} {oy0 oy1 oy2 oy3 oy4 oy5 oy6 oy7 oy8 oy9 oy10 : Obj} {d : Addr} {o : Obj} {tl : List (Addr × Obj)} (hn : Nd (ay0 :: ay1 :: ay2 :: ay3 :: ay4 :: ay5 :: ay6 :: ay7 :: ay8 :: ay9 :: ay10 :: d :: []) tl) : UpdT d o tl ((ay0, oy0) :: (ay1, oy1) :: (ay2, oy2) :: (ay3, oy3) :: (ay4, oy4) :: (ay5, oy5) :: (ay6, oy6) :: (ay7, oy7) :: (ay8, oy8) :: (ay9, oy9) :: (ay10, oy10) :: (d, o) :: tl) (fun z t => (ay0, oy0) :: (ay1, oy1) :: (ay2, oy2) :: (ay3, oy3) :: (ay4, oy4) :: (ay5, oy5) :: (ay6, oy6) :: (ay7, oy7) :: (ay8, oy8) :: (ay9, oy9) :: (ay10, oy10) :: (d, z) :: t) := .cons (hn.ne memH10) (updT10 hn.rest)
end
section
open PySem PySem.W PyProof.Rows PySem.Calls PySem.Spec
theorem lk_list_keys : typeLookup (.type "list") "keys" = pure none := by rw [typeLookup_type, builtinLookup_eq_fast]; kernel_rfl
theorem entry_du_loop : entryFor table "dict.update.loop" = some Builtin.«dict.update.loop» := entryFor_of_tree (by kernel_rfl)
theorem plain_du_loop : plainId "dict.update.loop" = true := by decide +kernel
theorem keys_none {prog : Program} {w : World} {A : Around} {E : Value → Shared → Prop} {s : Shared} {a : Addr} {xs : Array Value} {n : Nat} {Q : Option Value → Shared → Prop}
    (hx : s.heap.get? a = some (W.listOf xs n)) (hA : A.handled = none) (h : ∀ h' tk, (∀ b o, s.heap.get? b = some o → h'.get? b = some o) → Q none { s with heap := h', toks := tk }) :
    wpAny (model prog w) A (getAttr? (.ref a) "keys") Q E s := by
  obtain ⟨hp, g, d, tk, os⟩ := s
  have hT : ∀ tk', (⟨hp, g, d, tk', os⟩ : Shared).TypeIs (.ref a) "list" := fun _ => ⟨_, hx, rfl⟩
  have f1 := sub_AttributeError
  have f3 := F.slot_list_getattribute.lookup
  have f4 := F.slot_list_getattribute.bind (.ref a)
  have f5 := am_list_getattr_none
  have hmiss := lk_list_keys
  unfold getAttr? getAttrBy? getAttrBy
  repeat (any_goals (first | assumption | exact hT _ | ((with_reducible show wpAny _ _ (call (Value.builtin "list.__getattribute__") _ _) _ _ _); refine call_meets F.slot_list_getattribute (hT _) am_entry_list_getattribute (F.args_list_getattribute_2 _ _) (meets_getattribute_miss_list a xs n #[] (Str.ofString "keys") _ hmiss (by decide +kernel)) ⟨hx, hA, fun h' tk' e hx' => ?_⟩) | wp_step))
  obtain ⟨t', u', he⟩ := hx'.there
  show wpAny _ _ (getattributeRaised _ _ _ _ _ _ _) _ _ _
  unfold getattributeRaised
  have hTe : (⟨h', g, d, tk', os⟩ : Shared).TypeIs (.ref e) "AttributeError" := ⟨_, he, rfl⟩
  repeat (any_goals (first | assumption | wp_step))
  all_goals exact h _ _ hx'.keeps

section
variable {prog : Program} {w : World} {A : Around} {E : Value → Shared → Prop} {s : Shared}
theorem dict_set_new {d : Addr} {l : List (Str × Tok × Value)} {n : Nat} {k : Str} {t : Tok} {v : Value} {Q : Unit → Shared → Prop} (ho : s.heap.get? d = some (dictOf (entS w l) n)) (hk : ∀ p ∈ l, p.1 ≠ k) (hz : l.length ≤ 1000)
    (h : ∀ h', h'.get? d = some (dictOf (entS w (l ++ [(k, t, v)])) (n + 1)) → Heap.SameBut d s.heap h' → Q () { s with heap := h', toks := s.toks + 1 }) :
    wpAny (model prog w) A (dictSet d (.str k t) v) Q E s := by
  have hkey := strKind_is prog w k t
  have hK : KeysOf (strKind prog w) (entS w l).toArray := fun e he => by
    simp only [entS, List.mem_toArray, List.mem_map] at he
    obtain ⟨p, _, rfl⟩ := he
    exact ⟨p.1, strKind_is prog w _ _, rfl⟩
  unfold dictSet
  try with_reducible refine wpAny_holding ?_
  refine wpAny_bind ((strKind prog w).pyHash hkey ?_)
  unfold dictSetHashed
  try with_reducible refine wpAny_holding ?_
  refine wpAny_bind (wpAny_dictFind_of (s := { s with toks := s.toks + 1 }) hkey ho rfl hK ?_)
  have hi : ((entS w l).toArray.findIdx? fun e => (strKind prog w).is k e.key) = none := by
    rw [Array.findIdx?_eq_none_iff]
    intro e he
    simp only [entS, List.mem_toArray, List.mem_map] at he
    obtain ⟨p, hp, rfl⟩ := he
    cases hc : (strKind prog w).is k (Value.str p.1 p.2.1) with
    | false => rfl
    | true => exact absurd ((strKind prog w).inj _ _ _ (strKind_is prog w p.1 p.2.1) hc) (hk p hp)
  rw [hi]
  have hsz : (entS w l).toArray.size ≤ sizeLine := by rw [List.size_toArray, sizeLine_eq]; simp only [entS, List.length_map]; (first | lia | omega)
  refine wpAny_bind (wpAny_rule (wpAny_updateDictKeys (hz := hsz) (s := { s with toks := s.toks + 1 }) ho rfl (h _ ?_ (Heap.SameBut.update ..))))
  rw [Heap.get?_update_self _ ho rfl]
  simp only [Obj.mapDictKeys, entS, List.map_append, List.map_cons, List.map_nil, List.push_toArray]
  rfl

noncomputable def EntsOf : List (Str × Tok × Value) → List (Str × Str) → Prop
  | [], [] => True
  | e :: es, p :: ps => (e.1 = p.1 ∧ ∃ t, e.2.2 = .str p.2 t) ∧ EntsOf es ps
  | _, _ => False
theorem EntsOf.snoc {e : Str × Tok × Value} {p : Str × Str} (h1 : e.1 = p.1) (h2 : ∃ t, e.2.2 = .str p.2 t) : ∀ {es : List (Str × Tok × Value)} {ps : List (Str × Str)}, EntsOf es ps → EntsOf (es ++ [e]) (ps ++ [p])
  | [], [], _ => ⟨⟨h1, h2⟩, trivial⟩
  | _ :: _, _ :: _, h => ⟨h.1, h.2.snoc h1 h2⟩
  | [], _ :: _, h => h.elim
  | _ :: _, [], h => h.elim
theorem EntsOf.keys : ∀ {es : List (Str × Tok × Value)} {ps : List (Str × Str)}, EntsOf es ps → es.map (·.1) = ps.map (·.1)
  | [], [], _ => rfl
  | _ :: _, _ :: _, h => by rw [List.map_cons, List.map_cons, h.1.1, h.2.keys]
  | [], _ :: _, h => h.elim
  | _ :: _, [], h => h.elim
theorem pair_items {a : Addr} {x y : Value} {n : Nat} {Q : List Value → Shared → Prop} (ha : s.heap.get? a = some ({ cls := .type "tuple", data := .seq #[x, y] n } : Obj)) (h : Q [x, y] s) : wpAny (model prog w) A (Builtin.Dict.pairItems (.ref a)) Q E s := by
  have hT : s.TypeIs (.ref a) "tuple" := ⟨_, ha, rfl⟩
  obtain ⟨hp, g, d, t, os⟩ := s
  unfold Builtin.Dict.pairItems
  repeat (any_goals (first | assumption | wp_step))
theorem dp_loop {R : Result → Shared → Prop} {d It l : Addr} {vs : List Value} {ps : List (Str × Str)} {h₁ : Heap} (hh : A.handled = none) (hdI : d ≠ It) (hlen : vs.length = ps.length)
    (hps : ∀ (i : Nat) v, vs[i]? = some v → ∃ p, ps[i]? = some p ∧ ∃ (a : Nat) (t1 t2 : Tok) (n : Nat), v = .ref a ∧ a ≠ d ∧ a ≠ It ∧ h₁.get? a = some ({ cls := .type "tuple", data := .seq #[.str p.1 t1, .str p.2 t2] n } : Obj))
    (hld : l ≠ d) (hlI : l ≠ It) (hl : h₁.IsList l vs.toArray) (hnd : (ps.map (·.1)).Nodup) (hz : ps.length ≤ 100)
    (hR : ∀ h' tk n ll, (∀ b o, b ≠ d → b ≠ It → h₁.get? b = some o → h'.get? b = some o) → h'.get? d = some (dictOf (entS w ll) n) → EntsOf ll ps → R (.ok (.ret .none)) { s with heap := h', toks := tk }) :
    ∀ (k i : Nat) (h : Heap) (tk n : Nat) (ll : List (Str × Tok × Value)), ps.length - i = k → i ≤ ps.length → h.IsListIter It l i → h.get? d = some (dictOf (entS w ll) n) → EntsOf ll (ps.take i) → (∀ b o, b ≠ d → b ≠ It → h₁.get? b = some o → h.get? b = some o) →
      codeAny (model prog w) A (.builtin "dict.update.loop" ⟨[.ref d, .ref It, rawInt (i : Int), .none], []⟩) R { s with heap := h, toks := tk } := by
  intro k
  induction k with
  | zero =>
    intro i h tk n ll hk hi hit hd he hkeep
    have hin : i = ps.length := n_all hi hk
    refine codeAny_builtin entry_du_loop ?_
    rw [Around.under_plainId plain_du_loop _]
    show wpAny _ A.in1 (pyNext (.ref It) >>= _) _ _ _
    have hls : h.IsList l vs.toArray := by obtain ⟨o, ho, r⟩ := hl; exact ⟨o, hkeep _ _ hld hlI ho, r⟩
    refine wpAny_bind (wpAny_pyNext_list_end (s := { s with heap := h, toks := tk }) (A := A.in1) hh hit hls (by simp [hin, hlen]) fun h' hs => ?_)
    dsimp only
    refine wpAny_bind (wpAny_pure (wpAny_pure ?_))
    rw [hin, List.take_length] at he
    exact hR h' tk n ll (fun b o h1 h2 e => hs b o h2 (hkeep b o h1 h2 e)) (hs d _ hdI hd) he
  | succ k ih =>
    intro i h tk n ll hk hi hit hd he hkeep
    have hlt : i < ps.length := Nat.lt_of_sub_eq_succ hk
    have hls : h.IsList l vs.toArray := by obtain ⟨o, ho, r⟩ := hl; exact ⟨o, hkeep _ _ hld hlI ho, r⟩
    obtain ⟨v, hv⟩ : ∃ v, vs[i]? = some v := ⟨vs[i]'(Nat.lt_of_lt_of_eq hlt hlen.symm), List.getElem?_eq_getElem (Nat.lt_of_lt_of_eq hlt hlen.symm)⟩
    obtain ⟨p, hp, a, t1, t2, n2, rfl, had, haI, ha⟩ := hps i v hv
    refine codeAny_builtin entry_du_loop ?_
    rw [Around.under_plainId plain_du_loop _]
    show wpAny _ A.in1 (pyNext (.ref It) >>= _) _ _ _
    refine wpAny_bind (wpAny_pyNext_list_item (s := { s with heap := h, toks := tk }) (A := A.in1) hit hls (by simpa using hv) fun h' hit' hs => ?_)
    dsimp only
    have ha' : h'.get? a = some ({ cls := .type "tuple", data := .seq #[.str p.1 t1, .str p.2 t2] n2 } : Obj) := hs.extBut _ _ haI (hkeep _ _ had haI ha)
    have hd' : h'.get? d = some (dictOf (entS w ll) n) := hs.extBut _ _ hdI hd
    have hT : (⟨h', s.gens, s.drawn, tk, s.os⟩ : Shared).TypeIs (.ref a) "tuple" := ⟨_, ha', rfl⟩
    have hkl : ∀ q ∈ ll, q.1 ≠ p.1 := fun q hq e => by
      have h1 : q.1 ∈ (ps.take i).map (·.1) := by rw [← he.keys]; exact List.mem_map_of_mem hq
      have h3 : (ps.take i ++ ps.drop i).map (·.1) = ps.map (·.1) := by rw [List.take_append_drop]
      rw [← h3, List.map_append, List.nodup_append] at hnd
      refine hnd.2.2 q.1 h1 p.1 ?_ e
      refine List.mem_map_of_mem (f := fun x : Str × Str => x.1) (?_ : p ∈ _)
      rw [List.mem_iff_getElem?]
      exact ⟨0, by rw [List.getElem?_drop]; simpa using hp⟩
    have hzl : ll.length ≤ 1000 := by
      have := congrArg List.length he.keys
      simp at this; exact n_min this (n_le (by assumption) rfl)
    refine wpAny_bind (wpAny_holding ?_)
    refine wpAny_bind (wpAny_tryCatch (pair_items ha' ?_))
    dsimp only
    refine wpAny_holding (dict_set_new hd' hkl hzl ?_)
    intro h2 hd2 hs2
    have e1 : ((i : Int) + 1) = ((i + 1 : Nat) : Int) := rfl
    rw [e1]
    have hit2 : h2.IsListIter It l (i + 1) := by
      obtain ⟨o, ho, r⟩ := hit'
      exact ⟨o, hs2.extBut _ _ (Ne.symm hdI) ho, r⟩
    refine wpAny_pure ⟨plainId_quiet plain_du_loop _, ih (i + 1) h2 (tk + 1) (n + 1) _ (n_pred hk) hlt hit2 hd2 ?_ (fun b o h1 h3 e => hs2.extBut _ _ h1 (hs.extBut _ _ h3 (hkeep b o h1 h3 e)))⟩
    rw [List.take_add_one, hp]
    exact he.snoc rfl ⟨t2, rfl⟩
end
section
variable {prog : Program} {w : World} {A : Around} {E : Value → Shared → Prop} {s : Shared} {h₀ : Heap} {L : Addr} {m : Str → Option Value} {news : List (Addr × Obj)}
theorem dict_pairs {pl n2 : Nat} {pv : List Value} {ps : List (Str × Str)} {Q : Value → Shared → Prop} (hh : A.handled = none) (F : Fr h₀ L s.heap m) (N : News h₀ L s.heap news) (hpl : (pl, W.listOf (List.toArray pv) n2) ∈ news) (hp : PairsAt news pv ps) (hnd : (ps.map (·.1)).Nodup) (hz : ps.length ≤ 100)
    (h : ∀ (D : Nat) n ll h' tk', EntsOf ll ps → Fr h₀ L h' m → News h₀ L h' ((D, dictOf (entS w ll) n) :: news) → (∀ q ∈ news, @LT.lt Nat _ q.1 D) → Q (.ref D) { s with heap := h', toks := tk' }) :
    wpAny (model prog w) A (call (.type "dict") [.ref pl]) Q E s := by
  refine callType_codes (Q₁ := fun obj s₁ => obj = .ref s.heap.objs.size ∧ s₁ = { s with heap := s.heap.push { cls := .type "dict", data := .dict #[] } }) PySem.F.kt_called_dict (PySem.F.kt_typeCall_dict_1 _) PySem.F.entry_dict_init (kt_code_dict_new _ ⟨rfl, rfl⟩) ?_
  rintro obj s₁ ⟨rfl, rfl⟩
  have N1 := News.push F N (dictOf (entS w []) 0)
  have F1 : Fr h₀ L (s.heap.push (dictOf (entS w []) 0)) m := F.push _
  have hlt : ∀ q ∈ news, @LT.lt Nat _ q.1 s.heap.objs.size := fun q hq => Heap.lt_size (N q hq).1
  have hz1 : (s.heap.push (dictOf (entS w []) 0)).objs.size = s.heap.objs.size + 1 := Heap.size_push ..
  have hd1 : (s.heap.push (dictOf (entS w []) 0)).get? s.heap.objs.size = some (dictOf (entS w []) 0) := Heap.get?_push_size _ rfl
  have hpd : @LT.lt Nat _ pl s.heap.objs.size := hlt _ hpl
  show Shared.TypeIs { s with heap := s.heap.push (dictOf (entS w []) 0) } _ _ ∧ _ ∧ wpAny _ _ _ _ _ { s with heap := s.heap.push (dictOf (entS w []) 0) }
  generalize s.heap.objs.size = D at *
  generalize s.heap.push (dictOf (entS w []) 0) = h1 at *
  refine ⟨⟨_, hd1, rfl⟩, PySem.F.args_dict_init_2 _ _, ?_⟩
  have hTd : Shared.TypeIs { s with heap := h1 } (.ref D) "dict" := ⟨_, hd1, rfl⟩
  have hlp : h1.get? pl = some (W.listOf (List.toArray pv) n2) := (N1 _ (.tail _ hpl)).1
  have hTl : Shared.TypeIs { s with heap := h1 } (.ref pl) "list" := ⟨_, hlp, rfl⟩
  unfold Builtin.«dict.__init__»
  refine wpAny_bind ?_
  unfold Builtin.Dict.selfAndRest
  refine wpAny_bind (wpAny_notOrdered_dict hTd ?_)
  show wpAny _ _ (pure (D, [Value.ref pl])) _ _ _
  refine wpAny_pure ?_
  show wpAny _ _ (Builtin.Dict.updateFrom "dict.__init__" D (.ref pl) [] .none) _ _ _
  unfold Builtin.Dict.updateFrom
  refine wpAny_bind (wpAny_typeOf hTl ?_)
  rw [if_pos (by decide)]
  refine wpAny_bind (keys_none hlp hh fun h2 tk2 hk2 => ?_)
  dsimp only [Option.isNone]
  rw [if_pos rfl]
  refine wpAny_bind (wpAny_rule ?_)
  have hl2 : h2.IsList pl pv.toArray := ⟨_, hk2 _ _ hlp, rfl, _, rfl⟩
  refine wpAny_bind (wpAny_pyIter_list (s := { s with heap := h2, toks := tk2 }) hl2 ?_)
  have N2 := N1.grown hk2
  have F2 := F1.keeps hk2
  have N3 := News.push F2 N2 ({ cls := .type "list_iterator", data := .fields #[.ref pl, .int 0 0] } : Obj)
  have F3 : Fr h₀ L (h2.push ({ cls := .type "list_iterator", data := .fields #[.ref pl, .int 0 0] } : Obj)) m := F2.push _
  dsimp only
  have hIt : (h2.push ({ cls := .type "list_iterator", data := .fields #[.ref pl, .int 0 0] } : Obj)).IsListIter h2.objs.size pl 0 := ⟨_, Heap.get?_push_size _ rfl, rfl, rfl⟩
  have hDI : @LT.lt Nat _ D h2.objs.size := Heap.lt_size (N2 _ (.head _)).1
  have hIn := N3 _ (.head _)
  dsimp only at hIn
  generalize h2.objs.size = It at *
  generalize h2.push ({ cls := .type "list_iterator", data := .fields #[.ref pl, .int 0 0] } : Obj) = h3 at *
  have hD3 := N3 _ (.tail _ (.head _))
  have N3t : News h₀ L h3 news := fun q hq => N3 q (.tail _ (.tail _ hq))
  refine wpAny_pure ⟨plainId_quiet plain_du_loop _, dp_loop (prog := prog) (A := A.in1) (s := s) (R := wants (fun r s₂ => r = Value.none ∧ Q (.ref D) s₂) E) (h₁ := h3) (d := D) (It := It) (l := pl) (vs := pv) (ps := ps) hh (Nat.ne_of_lt hDI) hp.len (fun i v hv => ?_) (Nat.ne_of_lt hpd) (Nat.ne_of_lt (Nat.lt_trans hpd hDI)) (News.isList N3t hpl) hnd hz (fun h' tk n ll hk hd he => ?_) _ 0 h3 tk2 0 [] rfl (Nat.zero_le _) hIt hD3.1 trivial (fun b o _ _ e => e)⟩
  · obtain ⟨p, hq, a, t1, t2, n, rfl, hm⟩ := hp.get hv
    have hlt' := hlt _ hm
    exact ⟨p, hq, a, t1, t2, n, rfl, Nat.ne_of_lt hlt', Nat.ne_of_lt (Nat.lt_trans hlt' hDI), (N3t _ hm).1⟩
  · refine ⟨rfl, h D n ll h' tk he ⟨F3.ns.at' fun o e => hk L o (Ne.symm hD3.2.1) (Ne.symm hIn.2.1) e, fun b ob e => hk b ob (fun q => by rw [q, hD3.2.2] at e; cases e) (fun q => by rw [q, hIn.2.2] at e; cases e) (F3.keep b ob e), F3.above⟩ ?_ hlt⟩
    intro q hq
    rcases List.mem_cons.mp hq with rfl | hq
    · exact ⟨hd, hD3.2⟩
    · have h9 := hlt _ hq
      exact ⟨hk _ _ (Nat.ne_of_lt h9) (Nat.ne_of_lt (Nat.lt_trans h9 hDI)) (N3t q hq).1, (N3t q hq).2⟩
end
end
section
open PySem PySem.W PyProof.Rows PySem.Calls
section
variable {prog : Program} {w : World} {A : Around} {E : Value → Shared → Prop} {s : Shared} {h₀ : Heap} {L : Addr} {m : Str → Option Value} {news : List (Addr × Obj)}
theorem list_sort1 {a : Addr} {v : Value} {n : Nat} {P : PySem.Fin → Shared → Prop} (F : Fr h₀ L s.heap m) (N : News h₀ L s.heap news) (ho : s.heap.get? a = some (seqObj "list" (List.toArray [v]) n)) (haL : a ≠ L) (ha0 : h₀.get? a = none) (hna : ∀ p ∈ news, p.1 ≠ a)
    (h : ∀ n' h', Fr h₀ L h' m → News h₀ L h' ((a, seqObj "list" (List.toArray [v]) n') :: news) → P (.done (.ret .none)) { s with heap := h' }) :
    wpAny (model prog w) A (Builtin.«list.sort» ⟨[.ref a], []⟩) P E s := by
  have s1 := Heap.SameBut.update s.heap a (Obj.mapSeq fun _ => (#[] : Array Value))
  obtain ⟨e1, ho1⟩ : ∃ e1, (s.heap.update a (Obj.mapSeq fun _ => (#[] : Array Value))).get? a = some (seqObj "list" #[] e1) := ⟨_, get?_update_seq ho fun _ => #[]⟩
  have F3 : Fr h₀ L (((s.heap.update a (Obj.mapSeq fun _ => (#[] : Array Value))).push (seqObj "tuple" (List.toArray [v]) 0)).push (seqObj "list" #[] 0)) m := ((F.change s1 haL ha0).push _).push _
  have N3 : News h₀ L (((s.heap.update a (Obj.mapSeq fun _ => (#[] : Array Value))).push (seqObj "tuple" (List.toArray [v]) 0)).push (seqObj "list" #[] 0)) ((a, seqObj "list" #[] e1) :: news) := fun p hp => by
    rcases List.mem_cons.mp hp with rfl | hp
    · exact ⟨Heap.get?_push_of_some _ (Heap.get?_push_of_some _ ho1), haL, ha0⟩
    · exact ⟨Heap.get?_push_of_some _ (Heap.get?_push_of_some _ (s1.extBut _ _ (hna p hp) (N p hp).1)), (N p hp).2⟩
  rw [list_sort_plain]
  refine wpAny_bind (listItems_at ho rfl ?_)
  refine wpAny_bind (listUpdate_at ho rfl ?_ (by rw [sizeLine_eq]; simp) (Nat.zero_le _))
  refine wpAny_bind (seqEpoch_at ho1 rfl ?_)
  refine wpAny_bind (wpAny_newTuple ?_ (by rw [sizeLine_eq]; simp))
  refine wpAny_bind (wpAny_newList ?_ (Nat.zero_le _))
  refine wpAny_holding ?_
  show wpAny (model prog w) A _ P E { s with heap := ((s.heap.update a (Obj.mapSeq fun _ => (#[] : Array Value))).push (seqObj "tuple" (List.toArray [v]) 0)).push (seqObj "list" #[] 0) }
  dsimp only
  rw [if_pos (by simp), if_pos (by simp)]
  refine wpAny_bind (wpAny_pure ?_)
  refine wpAny_bind (wpAny_of_eq (a := ((), SortSt.mk' general' ((List.toArray [v]).zip (List.toArray [v])) #[] 7 none)) (by rfl) ?_)
  have na := N3 (a, seqObj "list" #[] e1) (.head _)
  generalize (((s.heap.update a (Obj.mapSeq fun _ => (#[] : Array Value))).push (seqObj "tuple" (List.toArray [v]) 0)).push (seqObj "list" #[] 0)) = h1 at *
  have s2 := Heap.SameBut.update h1 a (Obj.mapSeq fun _ => List.toArray [v])
  obtain ⟨c2, hc2⟩ : ∃ c2, (h1.update a (Obj.mapSeq fun _ => List.toArray [v])).get? a = some (seqObj "list" (List.toArray [v]) c2) := ⟨_, get?_update_seq na.1 fun _ => List.toArray [v]⟩
  refine wpAny_bind (seqEpoch_at (s := { s with heap := h1 }) na.1 rfl ?_)
  have hm : (Array.map (fun x => x.2) (arrOf (SortSt.mk' general' ((List.toArray [v]).zip (List.toArray [v])) #[] 7 none))) = List.toArray [v] := by
    show Array.map (fun x => x.snd) ((List.toArray [v]).zip (List.toArray [v])) = List.toArray [v]
    simp
  rw [hm]
  refine wpAny_bind (listUpdate_at (s := { s with heap := h1 }) na.1 rfl ?_ (Nat.zero_le _) (by rw [sizeLine_eq]; simp))
  show wpAny _ _ (if (e1 != e1) = true then _ else ret Value.none) _ _ _
  simp only [bne_self_eq_false, Bool.false_eq_true, if_false]
  refine wpAny_pure (h c2 _ (F3.change s2 na.2.1 na.2.2) fun p hp => ?_)
  rcases List.mem_cons.mp hp with rfl | hp
  · exact ⟨hc2, na.2⟩
  · exact ⟨s2.extBut _ _ (hna p hp) (N3 p (.tail _ hp)).1, (N3 p (.tail _ hp)).2⟩
theorem sorted_one {l : Addr} {v : Value} {Q : Value → Shared → Prop} (F : Fr h₀ L s.heap m) (N : News h₀ L s.heap news) (hl : s.heap.IsList l (List.toArray [v]))
    (h : ∀ (D : Nat) n' h', Fr h₀ L h' m → News h₀ L h' ((D, seqObj "list" (List.toArray [v]) n') :: news) → (∀ q ∈ news, @LT.lt Nat _ q.1 D) → Q (.ref D) { s with heap := h' }) :
    wpAny (model prog w) A (call (.builtin "sorted") [.ref l]) Q E s := by
  refine Calls.call_function_entry kind_sorted plain_sorted entry_sorted (args_sorted1 _) ?_
  unfold Builtin.«sorted»
  refine wpAny_bind (m := checkCount "sorted" 1 1 _) (wpAny_pure ?_)
  refine wpAny_bind (collect_list hl ?_ (by rw [sizeLine_eq]; simp))
  refine wpAny_bind (wpAny_newList ?_ (by rw [sizeLine_eq]; simp))
  have hsz : ((s.heap.push (seqObj "list" #[] 0)).update s.heap.objs.size (Obj.mapSeq (· ++ List.toArray [v]))).objs.size = s.heap.objs.size + 1 := by
    rw [Heap.size_update, size_push']
  have hoL : (((s.heap.push (seqObj "list" #[] 0)).update s.heap.objs.size (Obj.mapSeq (· ++ List.toArray [v]))).push (seqObj "list" (List.toArray [v]) 0)).get? (s.heap.objs.size + 1) = some (seqObj "list" (List.toArray [v]) 0) := by
    rw [← hsz]; exact Heap.get?_push_size _ rfl
  have keep : ∀ b o, s.heap.get? b = some o → (((s.heap.push (seqObj "list" #[] 0)).update s.heap.objs.size (Obj.mapSeq (· ++ List.toArray [v]))).push (seqObj "list" (List.toArray [v]) 0)).get? b = some o := fun b o q => by
    have hlt : b < s.heap.objs.size := Heap.lt_size q
    rw [Heap.get?_push_ne _ _ _ (by rw [hsz]; exact Nat.ne_of_lt (Nat.lt_succ_of_lt hlt)), Heap.get?_update_ne _ _ _ _ (Nat.ne_of_lt hlt), Heap.get?_push_ne _ _ _ (Nat.ne_of_lt hlt)]
    exact q
  have hL : L < s.heap.objs.size := F.ns.lt
  show wpAny _ _ _ _ _ { s with heap := ((s.heap.push (seqObj "list" #[] 0)).update s.heap.objs.size (Obj.mapSeq (· ++ List.toArray [v]))).push (seqObj "list" (List.toArray [v]) 0) }
  rw [hsz]
  refine wpAny_bind (wpAny_holding (wpAny_call_entry slot_list_sort ⟨_, hoL, rfl⟩ entry_list_sort ?body (args_list_sort _)))
  refine list_sort1 (s := { s with heap := ((s.heap.push (seqObj "list" #[] 0)).update s.heap.objs.size (Obj.mapSeq (· ++ List.toArray [v]))).push (seqObj "list" (List.toArray [v]) 0) })
      (F.keeps keep) (N.grown keep) hoL (Nat.ne_of_gt (Nat.lt_succ_of_lt hL)) (Heap.get?_none_of_le (Nat.le_trans F.above (Nat.le_succ_of_le (Nat.le_of_lt hL))))
      (fun p hp => Nat.ne_of_lt (Nat.lt_succ_of_lt (Heap.lt_size (N p hp).1))) fun n' h' F' N' => ?_
  exact ⟨_, rfl, wpAny_pure ⟨_, rfl, h _ n' h' F' N' fun q hq => Nat.lt_succ_of_lt (Heap.lt_size (N q hq).1)⟩⟩

end
end
section
open PySem PySem.W PyProof.Rows PySem.Calls
theorem words_KSi : PySem.Challenge.rw_nb0300_01.row.prog = PySem.Challenge.rw_nb0300_01.row.prog → hd.heap_1 = hd.heap_1 → True := by
  k_with_none
  k_fill
  k_with "k_mem" => first | exact memH0 | exact memH1 | exact memH2 | exact memH3 | exact memH4 | exact memH5 | exact memH6 | exact memH7 | exact memH8 | exact memH9 | exact memH10 | exact memH11 | exact memH12 | exact memH13 | exact memH14 | exact memH15 | exact memH16 | (with_reducible assumption) | (refine memT1 ?_; with_reducible assumption) | (refine memT2 ?_; with_reducible assumption) | (refine memT3 ?_; with_reducible assumption) | (refine memT4 ?_; with_reducible assumption) | (refine memT5 ?_; with_reducible assumption) | (refine memT6 ?_; with_reducible assumption) | (refine memT7 ?_; with_reducible assumption) | (refine memT8 ?_; with_reducible assumption) | (refine memT9 ?_; with_reducible assumption) | (refine memT10 ?_; with_reducible assumption) | (refine memT11 ?_; with_reducible assumption) | (refine memT12 ?_; with_reducible assumption) | (refine memT13 ?_; with_reducible assumption) | (refine memT14 ?_; with_reducible assumption) | (refine memT15 ?_; with_reducible assumption) | (refine memT16 ?_; with_reducible assumption) | (refine memT17 ?_; with_reducible assumption)
  k_with "k_upd" => first | (refine' upd0 ?a ?b; (case a => with_reducible assumption); (case b => k_dflt exact rfl)) | (refine' upd1 ?a ?b; (case a => with_reducible assumption); (case b => k_dflt exact rfl)) | (refine' upd2 ?a ?b; (case a => with_reducible assumption); (case b => k_dflt exact rfl)) | (refine' upd3 ?a ?b; (case a => with_reducible assumption); (case b => k_dflt exact rfl)) | (refine' upd4 ?a ?b; (case a => with_reducible assumption); (case b => k_dflt exact rfl)) | (refine' upd5 ?a ?b; (case a => with_reducible assumption); (case b => k_dflt exact rfl)) | (refine' upd6 ?a ?b; (case a => with_reducible assumption); (case b => k_dflt exact rfl)) | (refine' upd7 ?a ?b; (case a => with_reducible assumption); (case b => k_dflt exact rfl)) | (refine' upd8 ?a ?b; (case a => with_reducible assumption); (case b => k_dflt exact rfl)) | (refine' upd9 ?a ?b; (case a => with_reducible assumption); (case b => k_dflt exact rfl)) | (refine' upd10 ?a ?b; (case a => with_reducible assumption); (case b => k_dflt exact rfl)) | (refine' upd11 ?a ?b; (case a => with_reducible assumption); (case b => k_dflt exact rfl)) | (refine' upd12 ?a ?b; (case a => with_reducible assumption); (case b => k_dflt exact rfl)) | (refine' upd13 ?a ?b; (case a => with_reducible assumption); (case b => k_dflt exact rfl))
  k_with "k_updF" => first | (refine' updF0 ?a ?b; (case a => with_reducible assumption); (case b => k_dflt exact rfl)) | (refine' updF1 ?a ?b; (case a => with_reducible assumption); (case b => k_dflt exact rfl)) | (refine' updF2 ?a ?b; (case a => with_reducible assumption); (case b => k_dflt exact rfl)) | (refine' updF3 ?a ?b; (case a => with_reducible assumption); (case b => k_dflt exact rfl)) | (refine' updF4 ?a ?b; (case a => with_reducible assumption); (case b => k_dflt exact rfl)) | (refine' updF5 ?a ?b; (case a => with_reducible assumption); (case b => k_dflt exact rfl)) | (refine' updF6 ?a ?b; (case a => with_reducible assumption); (case b => k_dflt exact rfl)) | (refine' updF7 ?a ?b; (case a => with_reducible assumption); (case b => k_dflt exact rfl)) | (refine' updF8 ?a ?b; (case a => with_reducible assumption); (case b => k_dflt exact rfl)) | (refine' updF9 ?a ?b; (case a => with_reducible assumption); (case b => k_dflt exact rfl)) | (refine' updF10 ?a ?b; (case a => with_reducible assumption); (case b => k_dflt exact rfl)) | (refine' updF11 ?a ?b; (case a => with_reducible assumption); (case b => k_dflt exact rfl)) | (refine' updF12 ?a ?b; (case a => with_reducible assumption); (case b => k_dflt exact rfl)) | (refine' updF13 ?a ?b; (case a => with_reducible assumption); (case b => k_dflt exact rfl))
  k_with "cx" => exact CxA.le (by with_reducible assumption) (by decide)
  k_with "go" => repeat' (first
    | (k_unfold; (try dsimp only))
    | ((fail_if_success (with_reducible show wpAny _ _ (PySem.exec (PySem.Stmt.For _ _ _ _ _) _) _ _ _)); (fail_if_success (with_reducible show wpAny _ _ (PySem.exec (PySem.Stmt.While _ _ _ _) _) _ _ _)); (fail_if_success (with_reducible show wpAny _ _ (pyIter _) _ _ _)); (fail_if_success (with_reducible show wpAny _ _ (subscriptTail _ (PySem.Expr.Slice _ _ _ _) (Value.ref _) _) _ _ _)); first | walk1 | (dsimp only; walk1))
    | fail "no step")
  k_with "goJ" => repeat' (first
    | (k_unfold; (try dsimp only))
    | ((fail_if_success (with_reducible show wpAny _ _ (PySem.execs (PySem.Stmt.If _ _ (_ :: _) _ :: _) _) _ _ _)); (fail_if_success (with_reducible show wpAny _ _ (PySem.execs (PySem.Stmt.If (PySem.Expr.Attribute _ (PySem.Str.ofString "_data") _) _ _ _ :: _) _) _ _ _)); first | walk1 | (dsimp only; walk1))
    | fail "no step")
  k_with "goL" => repeat' (first
    | (k_unfold; (try dsimp only))
    | ((fail_if_success (with_reducible show wpAny _ _ (PySem.eval (PySem.Expr.ListComp _ _ _ _) _) _ _ _)); first | walk1 | (dsimp only; walk1))
    | fail "no step")
  k_with "goG" => repeat' (first
    | (k_unfold; (try dsimp only))
    | ((fail_if_success (with_reducible show wpAny _ _ (PySem.call (Value.builtin _) _) _ _ _)); first | walk1 | (dsimp only; walk1))
    | fail "no step")
  k_with "execs cons" => (try dsimp only); first | (with_reducible refine execs_one ?_) | (with_reducible refine execsS ?_)
  k_with "execs nil" => with_reducible refine wpAny_execs_nil ?_
  k_with "tpos" => (try dsimp only); first | exact Nat.succ_pos _ | assumption | (first | lia | omega)
  k_with "QS" => (try dsimp only); first | ((with_reducible refine QS_next (by first | exact Nat.succ_pos _ | assumption | (first | lia | omega)) ?_); intro tk htk) | ((with_reducible refine QS_any ?_); intro tk) | (with_reducible refine QS_ret ?_) | (with_reducible refine QS_brk ?_) | (with_reducible refine QS_cont ?_)
  k_with "QF" => (first | (with_reducible refine QF_ret (by k_asm) (by k_asm) ?_) | (with_reducible refine QF_next (by k_asm) (by k_asm) ?_)); intro kF kN
  k_with "storeName" => k_here; k_dflt (refine' storeP ?F ?N ?_ ?a ?b; (case F => k_asm); (case N => k_asm); (case a => rfl); (case b => rfl); k_whole); intro h' F' N'; (try k_sweep)
  k_with "eval Attribute Name" => k_here; (with_reducible show wpAny _ _ (eval (PySem.Expr.Attribute (PySem.Expr.Name (PySem.Str.ofString "self") _) _ _) (envOf _ _ _ _ _)) _ _ _); k_dflt (refine' attrR ?F ?X ?N ?s ?h1 ?h2 (attr_ok _ _ ?ok) ?hl ?hv ?_ ?hk ?hx; (case F => k_asm); (case X => k_asm); (case N => k_asm); (case s => exact rfl); (case h1 => k_mem); (case h2 => k_mem); (case ok => exact rfl); (case hl => k_get); (case hv => k_handed); (case hk => exact rfl); (case hx => exact rfl); k_whole); (try dsimp only)
  k_with "call builtin:list.append" => k_here; (with_reducible show wpAny _ _ (call (Value.builtin _) [Value.ref _, _]) _ _ _); k_dflt (refine' append_L ?k1 ?k2 ?k3 ?z ?_; (case k1 => k_asm); (case k2 => k_asm); (case k3 => k_upd); (case z => first | exact n_le (by with_reducible assumption) rfl | (first | lia | omega) | (simp only [strValues, List.length_map, List.length_append, List.length_cons, List.length_nil]; (first | lia | omega))); k_whole); intro h' F' N'; (try k_sweep)
  k_with "call builtin:str.replace" => (with_reducible show wpAny _ _ (call (Value.builtin "str.replace") [Value.str _ _, Value.str _ _, Value.str _ _]) _ _ _); k_dflt (refine' replace_P ?a ?b ?c ?d ?e ?_; (case a => (refine ltN ?_; first | assumption | (first | lia | omega))); (case b => (refine ltN ?_; first | assumption | (first | lia | omega))); (case c => decide); (case d => (first | lia | omega)); (case e => decide)); intro t' k' hk'; (try dsimp only at hk')
  k_with "bound" => first | exact BndAt.ofK (by k_asm) (by k_asm) (by assumption) | exact (BndAt.of (by k_asm) (by k_mem))
  k_with "callWith" => (with_reducible show wpAny _ _ (callWith _ (Value.builtin _) (_ :: _) _ _) _ _ _); refine PyProof.Rows.callWith_method1 ?_
  k_with "callWith ref" => k_here; (with_reducible show wpAny _ _ (callWith _ (Value.ref _) _ (backTo _ (starEach (_ :: _) _)) []) _ _ _); k_dflt (refine' callWith_B ?kb ?_; (case kb => walk_at "bound"); k_whole)
  k_with "And" => (with_reducible show BndAt _ _ _ _ ∧ _); k_dflt (refine ⟨by walk_at "bound", ?_⟩); (try dsimp only [List.nil_append, List.cons_append])
  k_with "delItem ref ref" => k_here; (with_reducible show wpAny _ _ (delItem (Value.ref _) (Value.ref _)) _ _ _); k_dflt (refine' del_all ?F ?N ?U ?z ?_; (case F => k_asm); (case N => k_asm); (case U => k_updF); (case z => first | exact n_le (by with_reducible assumption) rfl | (first | lia | omega) | (simp only [strValues, List.length_map]; (first | lia | omega)))); intro h' n' F' N'; (try dsimp only at N')
  k_with "call ref" => k_here; (with_reducible show wpAny _ _ (call (Value.ref 98) [Value.ref _]) _ _ _); k_dflt (refine' join_B ?b ?l rfl ?j ?t ?_; (case b => walk_at "bound"); (case l => exact News.isList (by k_asm) (by k_mem)); (case j => assumption); (case t => ((try dsimp only); first | assumption | (first | lia | omega)))); intro t' k' hk'
  k_with "call ref" => k_here; (with_reducible show wpAny _ _ (call (Value.ref _) [Value.str _ _]) _ _ _); k_dflt (refine' append_B ?F ?N ?b ?U ?z ?_; (case F => k_asm); (case N => k_asm); (case b => k_mem); (case U => k_upd); (case z => first | exact n_le (by with_reducible assumption) rfl | (first | lia | omega) | (simp only [strValues, List.length_append, List.length_map, List.length_cons, List.length_nil]; (first | lia | omega)))); intro h' F' N'; (try dsimp only at N')
  k_with "truthy str" => (with_reducible show wpAny _ _ (PySem.truthy (Value.str _ _)) _ _ _); refine truthy_yes (by assumption) (by (first | lia | omega)) ?_
  k_with "binaryOp Add ref ref" => k_here; (with_reducible show wpAny _ _ (binaryOp _ (Value.ref _) (Value.ref _)) _ _ _); k_dflt (refine' add_L ?F ?N ?a ?b ?z ?_; (case F => k_asm); (case N => k_asm); (case a => exact News.isList (by k_asm) (by k_mem)); (case b => exact News.isList (by k_asm) (by k_mem)); (case z => (simp only [List.length_nil, List.length_cons]; (first | lia | omega)))); intro D' h' F' N' l1; (try k_lt l1); (try k_sweep)
  k_with "hh" => first | exact CxA.hh (by with_reducible assumption) | assumption
  k_with "assign Tuple" => k_here; (with_reducible show wpAny _ _ (assign (Expr.Tuple _ _ _) _ (Value.ref _)) _ _ _); k_dflt (refine' unpackN_ ?F ?N ?T ?k1 ?k2 ?k3 ?_; (case F => k_asm); (case N => k_asm); (case T => refine News.isTup (by k_asm) (by k_mem)); (case k1 => walk_at "hh"); (case k2 => exact rfl); (case k3 => exact rfl)); intro h' F' N'; (try k_sweep)
  k_with "truthy ref" => (with_reducible show wpAny _ _ (PySem.truthy (Value.ref _)) _ _ _); k_dflt (first | (refine truthy_L (b := false) (by k_asm) (by k_mem) rfl ?_ ?_) | (refine truthy_L (b := true) (by k_asm) (by k_mem) rfl ?_ ?_)); (case' refine_1 => first | exact n_le (by with_reducible assumption) rfl | (first | lia | omega) | (simp only [strValues, List.length_map, List.length_cons, List.length_nil] at *; (first | lia | omega))); skip
  k_with "call builtin:list.pop" => k_here; (with_reducible show wpAny _ _ (call (Value.builtin _) [Value.ref _]) _ _ _); k_dflt (refine' pop_L ?F ?N ?U ?z ?_; (case F => k_asm); (case N => k_asm); (case U => k_upd); (case z => first | exact n_le (by with_reducible assumption) rfl | (first | lia | omega) | (simp only [List.length_append, List.length_cons, List.length_nil]; (first | lia | omega)))); intro h' F' N'; (try dsimp only at N')
  k_with "call builtin:len" => k_here; (with_reducible show wpAny _ _ (call (Value.builtin "len") [Value.ref _]) _ _ _); k_dflt (refine' len_L ?N ?m ?z ?_; (case N => k_asm); (case m => k_mem); (case z => first | exact n_le (by with_reducible assumption) rfl | (first | lia | omega) | (simp only [strValues, List.length_map, List.length_append, List.length_cons, List.length_nil]; (first | lia | omega)))); intro t'
  k_with "sset" => first | assumption | exact sset_fresh _
  k_with "getMethod ref" => k_here; (with_reducible show wpAny _ _ (getMethod (Value.ref _) (PySem.Str.ofString "_iter_namespaces") _) _ _ _); k_dflt (refine' method_shadow ?k1 ?k2 ?k3 ?k4 ?k5 ?k6 ?k7 ?k8 ?k9 ?k10 ?k11 ?_; (case k1 => k_asm); (case k2 => k_asm); (case k3 => k_inst); (case k4 => k_is); (case k5 => k_is); (case k6 => k_is); (case k7 => k_is); (case k8 => k_is); (case k9 => k_is); (case k10 => k_get); (case k11 => k_handed); k_whole)
  k_with "getMethod ref" => (with_reducible show wpAny _ _ (getMethod (Value.ref _) (PySem.Str.ofString "_write") _) _ _ _); walk_at "last getMethod ref"
  k_with "getMethod ref" => k_here; (with_reducible show wpAny _ _ (getMethod (Value.ref _) (PySem.Str.ofString "add") _) _ _ _); k_dflt (refine' sset_method ?N ?m ?o ?b ?_; (case N => k_asm); (case m => k_mem); (case o => walk_at "sset"); (case b => decide))
  k_with "call builtin:set.add" => k_here; (with_reducible show wpAny _ _ (call (Value.builtin _) [Value.ref _, Value.str _ _]) _ _ _); k_dflt (refine' sset_add ?F ?N ?U ?o ?b ?_; (case F => k_asm); (case N => k_asm); (case U => k_updF); (case o => walk_at "sset"); (case b => decide)); intro h' so' F' N' hS'; (try dsimp only at N')
  k_with "compareOp NotIn str ref" => k_here; (with_reducible show wpAny _ _ (compareOp _ (Value.str _ _) (Value.ref _)) _ _ _); k_dflt (refine' sset_notin ?N ?m ?o ?b ?_; (case N => k_asm); (case m => k_mem); (case o => walk_at "sset"); (case b => first | decide | (split <;> decide)))
  k_with "compareOp In str ref" => k_here; (with_reducible show wpAny _ _ (compareOp _ (Value.str _ _) (Value.ref _)) _ _ _); k_dflt (refine' sset_in ?N ?m ?o ?b ?_; (case N => k_asm); (case m => k_mem); (case o => walk_at "sset"); (case b => first | decide | (split <;> decide)))
  intros
  trivial
theorem sort_items {w : World} {A : Around} {h₀ : Heap} {L : Addr} {m : Str → Option Value} {s : Shared} {Q : Value → Shared → Prop} {B n2 : Nat} {pv : List Value} {ps : List (Str × Str)} {news nw : List (Addr × Obj)} (hh : A.handled = none) (hu : A.in1.units < cLine)
    (F : Fr h₀ L s.heap m) (N : News h₀ L s.heap ((B, W.listOf (List.toArray pv) n2) :: news)) (hne : ∀ p ∈ news, @Ne Nat p.1 B) (hp : PairsAt nw pv ps) (hs : ∀ p ∈ nw, p ∈ news) (hok : PairsOk ps) (h0 : ps ≠ [])
    (hret : ∀ pv' n h' tk', PairsAt nw pv' (inOrder ps) → Fr h₀ L h' m → News h₀ L h' ((B, W.listOf (List.toArray pv') n) :: news) → Q .none { s with heap := h', toks := tk' }) :
    wpAny (model PySem.Challenge.rw_nb0300_01.row.prog w) A (call (.builtin "list.sort") [.ref B]) Q Nay s := by
  rcases hok with rfl | ⟨v1, hv1, rfl⟩ | ⟨v1, hv1, u1, hu1, rfl⟩
  · exact absurd rfl h0
  · cases pv with
    | nil => exact hp.elim
    | cons p1 pv => cases pv with
      | cons _ _ => exact hp.2.elim
      | nil =>
        have z := N _ (.head _)
        exact wpAny_call_entry slot_list_sort ⟨_, z.1, rfl⟩ entry_list_sort (list_sort1 F (fun p hp => N p (.tail _ hp)) z.1 z.2.1 z.2.2 hne fun n' h' F' N' => ⟨_, rfl, hret [p1] n' h' _ hp F' N'⟩) (args_list_sort _)
  · cases pv with
    | nil => exact hp.elim
    | cons p1 pv => cases pv with
      | nil => exact hp.2.elim
      | cons p2 pv => cases pv with
        | cons _ _ => exact hp.2.2.elim
        | nil =>
          have hp0 := hp
          obtain ⟨⟨a1, t1, t2, n5, rfl, hm1⟩, ⟨a2, t3, t4, n6, rfl, hm2⟩, _⟩ := hp
          have N1 := news_cons (N _ (.head _)) (news_cons (N _ (.tail _ (hs _ hm1))) (news_cons (N _ (.tail _ (hs _ hm2))) fun p hp => N p (.tail _ hp)))
          replace hm1 := hs _ hm1
          replace hm2 := hs _ hm2
          clear N
          (try dsimp only at N1)
          refine kat_lsort (vs := [.ref a1, .ref a2]) F N1 (UpdF.head (fun p hp => by rcases List.mem_cons.mp hp with rfl | hp; exact hne _ hm1; rcases List.mem_cons.mp hp with rfl | hp; exact hne _ hm2; exact hne p hp)) rfl (Nat.le_of_ble_eq_true rfl) (Nat.le_of_ble_eq_true rfl) ?_
          intro e1 h' F' N'
          (try dsimp only at N')
          kat_kinds
          walk_at "go"
          k_dflt (refine kat_lt (News.get N' (.tail _ (.tail _ (.head _)))) rfl (News.get N' (.tail _ (.head _))) rfl ?_)
          kat_pair
          refine kat_cons ?_
          refine wpAny_eqBool_str ?_
          rw [show decide (S "k" = S "m") = false by decide]
          refine kat_no ?_
          first | (kat_flag; refine oneLt_str ?_) | refine oneLt_str ?_ | skip
          walk_at "go"
          refine KasFin.intro F' N' (UpdF.head fun p hp => by rcases List.mem_cons.mp hp with rfl | hp; exact hne _ hm1; rcases List.mem_cons.mp hp with rfl | hp; exact hne _ hm2; exact hne p hp) ?_
          intro h3 c3 F3 N3
          (try dsimp only at N3)
          exact hret [.ref a2, .ref a1] c3 h3 _ ⟨hp0.2.1, hp0.1, trivial⟩ F3 (News.sub N3 fun p hp => (List.mem_cons.mp hp).elim (fun e => e ▸ .head _) fun hp => .tail _ (.tail _ (.tail _ hp)))
theorem sorted_items {w : World} {A : Around} {h₀ : Heap} {L : Addr} {m : Str → Option Value} {s : Shared} {Q : Value → Shared → Prop} {v d n : Nat} {l : List (Str × Tok × Value)} {ps : List (Str × Str)} {news : List (Addr × Obj)} (hh : A.handled = none) (hu : A.in1.in1.units < cLine)
    (F : Fr h₀ L s.heap m) (N : News h₀ L s.heap news) (hv : (v, { cls := .type "dict_items", data := .fields #[.ref d] }) ∈ news) (hd : (d, dictOf (entS w l) n) ∈ news) (he : EntsOf l ps) (hnd : (l.map (·.1)).Nodup) (hok : PairsOk ps) (h0 : ps ≠ [])
    (hret : ∀ (B : Nat) vs n ext h' tk', PairsAt ext vs (inOrder ps) → Fr h₀ L h' m → News h₀ L h' ((B, W.listOf (List.toArray vs) n) :: (ext ++ news)) → (∀ q ∈ ext ++ news, @LT.lt Nat _ q.1 B) → (∀ p ∈ ext, ∀ q ∈ news, @LT.lt Nat _ q.1 p.1) → Q (.ref B) { s with heap := h', toks := tk' }) :
    wpAny (model PySem.Challenge.rw_nb0300_01.row.prog w) A (call (.builtin "sorted") [.ref v]) Q Nay s := by
  refine kdx_sortedN (knd := strKind _ w) (enc := PyData.str) (ps := _) hh F N hv hd (isDict_ents hnd) ?len (fun _ _ h => Value.isStrOf_shape h) rfl fun lo hlo => ?_
  case len =>
    have := congrArg List.length he.keys
    rcases hok with rfl | ⟨_, _, rfl⟩ | ⟨_, _, _, _, rfl⟩ <;> simp_all <;> (first | lia | omega)
  have key : ∀ (vs : List Value) (tups : List (Addr × Obj)) (B : Addr) h' tk, (∀ q ∈ tups ++ news, q.1 < B) → Fr h₀ L h' m → News h₀ L h' ((B, W.listOf vs.toArray 0) :: (tups ++ news)) → PairsAt tups vs ps → (∀ p ∈ tups, ∀ q ∈ news, @LT.lt Nat _ q.1 p.1) →
      wpAny (model PySem.Challenge.rw_nb0300_01.row.prog w) A.in1 (call (.builtin "list.sort") [.ref B]) (fun _ s' => Q (.ref B) s') Nay { s with heap := h', toks := tk } := fun vs tups B h' tk hB F' N' hp hl =>
    sort_items (A := A.in1) hh hu F' N' (fun p hp => Nat.ne_of_lt (hB p hp)) hp (fun p hp => List.mem_append_left _ hp) hok h0 fun pv' n' h2 tk2 hp2 F2 N2 => hret B pv' n' tups h2 tk2 hp2 F2 N2 hB hl
  rcases hok with rfl | ⟨v1, hv1, rfl⟩ | ⟨v1, hv1, u1, hu1, rfl⟩
  · exact absurd rfl h0
  · rcases l with _ | ⟨e1, _ | ⟨e2, l⟩⟩
    · exact he.elim
    · obtain ⟨k1, t1, x1⟩ := e1
      obtain ⟨⟨h1, t, h2⟩, _⟩ := he
      cases h1; cases h2
      refine KdxOpen.cons fun a t' b1 b2 b3 => KdxOpen.nil fun B h' tk hB F' N' => key _ _ B h' tk hB F' N' ?_ ?_
      · exact ⟨⟨a, t', t, 0, rfl, .head _⟩, trivial⟩
      · intro p hp q hq
        rcases List.mem_cons.mp hp with rfl | hp
        · exact b2 q hq
        · cases hp
    · exact he.2.elim
  · rcases l with _ | ⟨e1, _ | ⟨e2, _ | ⟨e3, l⟩⟩⟩
    · exact he.elim
    · exact he.2.elim
    · obtain ⟨k1, t1, x1⟩ := e1
      obtain ⟨k2, t2, x2⟩ := e2
      obtain ⟨⟨h1, t, h2⟩, ⟨h3, u, h4⟩, _⟩ := he
      cases h1; cases h2; cases h3; cases h4
      refine KdxOpen.cons fun a t' b1 b2 b3 => KdxOpen.cons fun a' t'' c1 c2 c3 => KdxOpen.nil fun B h' tk hB F' N' => key _ _ B h' tk hB F' N' ?_ ?_
      · exact ⟨⟨a, t', t, 0, rfl, .tail _ (.head _)⟩, ⟨a', t'', u, 0, rfl, .head _⟩, trivial⟩
      · intro p hp q hq
        rcases List.mem_cons.mp hp with rfl | hp
        · exact c2 q hq
        rcases List.mem_cons.mp hp with rfl | hp
        · exact b2 q hq
        · cases hp
    · exact he.2.2.elim
end
section
open PySem PySem.W PyProof.Rows PySem.Calls
open LCg LCp
noncomputable def EltP (h₀ : Heap) (L : Addr) (m : Str → Option Value) (s : Shared) (x : Str) (nw : List (Addr × Obj)) (y : Value) (s₄ : Shared) : Prop := (∃ t', y = Value.str x t') ∧ ∃ h' tk', s₄ = { s with heap := h', toks := tk' } ∧ Fr h₀ L h' m ∧ News h₀ L h' nw
theorem EltP.mk {h₀ : Heap} {L : Addr} {m : Str → Option Value} {s : Shared} {x : Str} {nw : List (Addr × Obj)} {t' : Tok} {h' : Heap} {tk' : Nat} (F : Fr h₀ L h' m) (N : News h₀ L h' nw) : EltP h₀ L m s x nw (.str x t') { s with heap := h', toks := tk' } := ⟨⟨t', rfl⟩, h', tk', rfl, F, N⟩
section
variable {prog : Program} {w : World} {A : Around} {E : Value → Shared → Prop} {s : Shared} {h₀ : Heap} {L : Addr} {m : Str → Option Value} {news : List (Addr × Obj)} {env : Env}
  {elt iter : PySem.Expr} {x x₂ : Str} {px px₂ tp pos : Pos} {tk9 : _} {scope : Scope} {cl : List (Str × Addr)} {f : Str × Str → Str} {prs : List (Str × Str)} {avs : List Value} {ax : Addr}
theorem comp_rest {s9 : Shared} {S : List (Addr × Obj) → Prop} {Fin : List Value → List (Addr × Obj) → Prop} (hS : S news) (hpa : PairsAt news avs prs) (hfin : ∀ l : List (Str × Tok), l.map (·.1) = prs.map f → Fin (strValues l) news)
    (helt : ∀ p ∈ prs, ∀ t1 t2 I oI C oC D oD m₂ h tk, NsObj oC m₂ → m₂ x = some (.str p.1 t1) → m₂ x₂ = some (.str p.2 t2) → Fr h₀ L h m → News h₀ L h ((I, oI) :: (C, oC) :: (D, oD) :: news) →
      wpAny (model prog w) A (eval elt (compEnvC scope cl C env)) (EltP h₀ L m s9 (f p) ((I, oI) :: (C, oC) :: (D, oD) :: news)) Nay { s9 with heap := h, toks := tk }) :
    ∀ (k i : Nat) (l : List (Str × Tok)), k + i = prs.length → l.map (·.1) = (prs.take i).map f →
      CompRestP prog w A h₀ L m env elt x x₂ scope cl s9 S (fun i v => (List.toArray avs)[i]? = some v) Fin k i (strValues l) news
  | 0, i, l, hi, hl => .zero (hfin l (by rw [hl, List.take_of_length_le (by (first | lia | omega))]))
  | k + 1, i, l, hi, hl => .succ fun v hv => by
    obtain ⟨p, hp, a, t1, t2, n, rfl, hm⟩ := hpa.get (by simpa using hv)
    refine ⟨a, _, _, _, n, rfl, hm, rfl, rfl, ?_⟩
    intro I oI C oC D m₂ h tk E' hC hx1 hx2 F N off hne
    refine ok_any (ok_mono (helt p (List.mem_of_getElem? hp) t1 t2 I oI C oC D _ m₂ h tk hC hx1 hx2 F N) ?_)
    rintro y s₄ ⟨⟨t', rfl⟩, h', tk', rfl, F', N'⟩
    refine CompEnd.intro F' N' news (fun _ h => h) off hS ?_
    have e : strValues l ++ [Value.str (f p) t'] = strValues (l ++ [(f p, t')]) := by simp [strValues]
    rw [e]
    refine comp_rest hS hpa hfin helt k (i + 1) _ (by (first | lia | omega)) ?_
    rw [take_map_snoc f hp, List.map_append, hl]; rfl
theorem comp_pairs {n0 : Nat} {Q : Value → Shared → Prop} (hh : A.handled = none) (F : Fr h₀ L s.heap m) (N : News h₀ L s.heap news) (hm : (ax, W.listOf (List.toArray avs) n0) ∈ news) (hpa : PairsAt news avs prs) (hz : prs.length ≤ 1000)
    (hclos : closureFor scope env = pure cl) (hcell : ∀ y ∈ scope.names, y.2 ≠ .cell) (hkind : scope.kind = .function)
    (hnames : ∀ y ∈ scope.names, y.2 = .local → scope.names.lookup y.1 = some .local) (hx : scope.names.lookup x = some .local) (hx₂ : scope.names.lookup x₂ = some .local) (hxx : x ≠ x₂)
    (hi : ∀ Q' : Value → Shared → Prop, Q' (.ref ax) s → wpAny (model prog w) A (eval iter env) Q' Nay s)
    (helt : ∀ p ∈ prs, ∀ t1 t2 I oI C oC D oD m₂ h tk, NsObj oC m₂ → m₂ x = some (.str p.1 t1) → m₂ x₂ = some (.str p.2 t2) → Fr h₀ L h m → News h₀ L h ((I, oI) :: (C, oC) :: (D, oD) :: news) →
      wpAny (model prog w) A (eval elt (compEnvC scope cl C env)) (EltP h₀ L m s (f p) ((I, oI) :: (C, oC) :: (D, oD) :: news)) Nay { s with heap := h, toks := tk })
    (hQ : ∀ (D : Nat) l n h' tk', l.map (·.1) = prs.map f → Fr h₀ L h' m → News h₀ L h' ((D, W.listOf (List.toArray (strValues l)) n) :: news) → Q (.ref D) { s with heap := h', toks := tk' })
    (hs : ∀ x, foldedSetIterable iter env x = pure x := by intro _; rfl) :
    wpAny (model prog w) A (eval (.ListComp elt [⟨.Tuple [.Name x px, .Name x₂ px₂] tk9 tp, iter, [], 0⟩] scope pos) env) Q E s := by
  refine ok_any (ListComp_P F hclos hcell hkind hnames hx hx₂ hxx (hi _ ?_) hs)
  refine SrcLP.ledger hh F N hm (by rw [sizeLine_eq, List.size_toArray, hpa.len]; (first | lia | omega)) fun g => ?_
  have hsz : (List.toArray avs).size = prs.length := by rw [List.size_toArray, hpa.len]
  rw [hsz]
  refine comp_rest (s9 := { s with heap := g }) (f := f) (S := SrcAt h₀ ax (List.toArray avs)) (Or.inr ⟨_, hm, rfl, _, rfl⟩) hpa ?_ helt prs.length 0 [] (by (first | lia | omega)) rfl
  intro l hl D h' tk F' N' o1
  exact hQ D l _ h' tk hl F' N'
end
end
section
open PySem PySem.W PyProof.Rows PySem.Calls
theorem str_walks {prog : Program} {w : World} {A : Around} (hh : A.handled = none) (I : Addr) (x : Str) (t : Tok) :
    Walks prog w A I [I] [I] x.cps.size (fun i v => ∃ c u, x.cps[i]? = some c ∧ v = Value.str ⟨#[c]⟩ u) (fun i h => h.IsStrIter I (strIterType x) x t i) := by
  unfold strIterType
  split
  · exact Walks.strAscii hh I x t
  · exact Walks.strWide hh I x t
theorem paired_strs {f : Nat → Str} : ∀ {vs ys : List Value} {cs : List Nat}, Paired (fun (v y : Value) => ∃ c u t, v = Value.str ⟨#[c]⟩ u ∧ y = Value.str (f c) t) vs ys → (∀ (i : Nat) (v : Value), vs[i]? = some v → ∃ (c : Nat) (u : Tok), cs[i]? = some c ∧ v = Value.str ⟨#[c]⟩ u) → vs.length = cs.length → ∃ l : List (Str × Tok), ys = strValues l ∧ l.map (·.1) = cs.map f
  | [], _, [], .nil, _, _ => ⟨[], rfl, rfl⟩
  | [], _, _ :: _, _, _, h => by simp at h
  | _ :: _, _, [], _, _, h => by simp at h
  | v :: vs, _, c :: cs, .cons h r, hp, hl => by
    obtain ⟨l, rfl, e⟩ := paired_strs r (fun i v hv => hp (i + 1) v hv) (by simpa using hl)
    obtain ⟨c1, u, t, rfl, rfl⟩ := h
    obtain ⟨c2, u2, e1, e2⟩ := hp 0 _ rfl
    have e3 : c2 = c := by simpa using e1.symm
    have e4 : c1 = c2 := by
      have := congrArg (fun v => match v with | .str y _ => y | _ => (⟨#[]⟩ : Str)) e2
      simpa using this
    exact ⟨(f c, t) :: l, by rw [e4, e3]; rfl, by rw [List.map_cons, e, List.map_cons]⟩
section
variable {prog : Program} {w : World} {A : Around} {E : Value → Shared → Prop} {s : Shared} {h₀ : Heap} {L : Addr} {m : Str → Option Value} {news : List (Addr × Obj)} {env : Env}
theorem comp_str {elt iter : PySem.Expr} {xn : Str} {px : Pos} {scope : Scope} {cl : List (Str × Addr)} {pos : Pos} {x : Str} {t : Tok} {f : Nat → Str} {Q : Value → Shared → Prop}
    (hh : A.handled = none) (F : Fr h₀ L s.heap m) (N : News h₀ L s.heap news) (hclos : closureFor scope env = pure cl) (hcell : ∀ y ∈ scope.names, y.2 ≠ .cell) (hkind : scope.kind = .function)
    (hnames : ∀ y ∈ scope.names, y.2 = .local → scope.names.lookup y.1 = some .local) (hx : scope.names.lookup xn = some .local) (hsz : x.length ≤ 1000)
    (hi : ∀ Q' : Value → Shared → Prop, Q' (.str x t) s → wpAny (model prog w) A (eval iter env) Q' Nay s)
    (helt : ∀ C c u s₃ m₃, c ∈ x.cps.toList → Fr h₀ C s₃.heap m₃ → m₃ xn = some (.str ⟨#[c]⟩ u) → News h₀ C s₃.heap news → wpAny (model prog w) A (eval elt (compEnvC scope cl C env)) (fun y s₄ => (∃ t', y = Value.str (f c) t') ∧ ∃ tk, s₄ = { s₃ with toks := tk }) Nay s₃)
    (hQ : ∀ (D : Nat) l n h' tk', l.map (·.1) = x.cps.toList.map f → Fr h₀ L h' m → News h₀ L h' ((D, W.listOf (List.toArray (strValues l)) n) :: news) → Q (.ref D) { s with heap := h', toks := tk' })
    (hs : ∀ x, foldedSetIterable iter env x = pure x := by intro _; rfl) :
    wpAny (model prog w) A (eval (.ListComp elt [⟨.Name xn px, iter, [], 0⟩] scope pos) env) Q E s := by
  have hLs : L < s.heap.objs.size := by obtain ⟨oL, es, ep, hL, r⟩ := F.ns; exact Heap.lt_size hL
  refine ok_any (wpAny_ListComp_free (fun _ => true) (fun v y => ∃ c u t, v = Value.str ⟨#[c]⟩ u ∧ y = Value.str (f c) t) hclos hcell hkind hnames hx (hi _ ?_) hs)
  refine wpAny_pyIter_strU ⟨s.heap.objs.size, [s.heap.objs.size], [s.heap.objs.size], x.cps.size, _, _, rfl, str_walks hh _ x t, ?_, ⟨_, Heap.get?_push_size _ rfl, rfl, rfl⟩, ?_, ⟨?_, ?_⟩, ?_⟩
  · have : x.cps.size = x.length := rfl
    rw [sizeLine_eq]; (first | lia | omega)
  · intro b hb
    rw [List.mem_singleton.mp hb]
    show _ < (s.heap.push _).objs.size
    rw [Heap.size_push]; exact Nat.lt_succ_self _
  · intro C i v s₃ m₃ E' _ _ _ _ _ _
    exact wpAny_pure ⟨rfl, s₃.heap, s₃.toks, rfl, fun _ _ e => e⟩
  · intro C i v s₃ m₃ E' hC hP _ hn hm hk _
    obtain ⟨c, u, hc, rfl⟩ := hP
    have up : ∀ b o, s.heap.get? b = some o → s₃.heap.get? b = some o := fun b o e => hk b o (fun hb => by
      rw [List.mem_singleton.mp hb] at e
      exact absurd (Heap.lt_size e) (Nat.lt_irrefl _)) (Heap.get?_push_of_some _ e)
    have hsC : s.heap.objs.size < C := by
      have : (s.heap.push { cls := .type (strIterType x), data := .fields #[.str x t, .int 0 0] }).objs.size ≤ C := hC
      rw [Heap.size_push] at this
      exact this
    refine ok_mono (helt C c u s₃ m₃ ?_ ⟨hn, fun b o e => up b o (F.keep b o e), Nat.le_trans F.above (Nat.le_of_lt (Nat.lt_trans hLs hsC))⟩ hm fun q hq => ⟨up _ _ (N q hq).1, Nat.ne_of_lt (Nat.lt_trans (Heap.lt_size (N q hq).1) hsC), (N q hq).2.2⟩) ?_
    · obtain ⟨h1, h2⟩ := Array.getElem?_eq_some_iff.mp hc
      rw [← h2]
      exact Array.mem_def.mp (Array.getElem_mem h1)
    · rintro y s₄ ⟨⟨t', rfl⟩, tk, rfl⟩
      exact ⟨⟨c, u, t', rfl, rfl⟩, s₃.heap, tk, rfl, fun _ _ e => e⟩
  · intro D h' tk ys vs hD hl hpl hlen hP hF hk
    have up : ∀ b o, s.heap.get? b = some o → h'.get? b = some o := fun b o e => hk b o (fun hb => by
      rw [List.mem_singleton.mp hb] at e
      exact absurd (Heap.lt_size e) (Nat.lt_irrefl _)) (Heap.get?_push_of_some _ e)
    rw [List.filter_eq_self.mpr (fun _ _ => rfl)] at hF
    obtain ⟨l, e1, e2⟩ := paired_strs (cs := x.cps.toList) hF (fun i v hv => by
      obtain ⟨c, u, hc, e⟩ := hP i v hv
      exact ⟨c, u, by simpa using hc, e⟩) (by simpa using hlen)
    obtain ⟨n, hn⟩ := hpl
    have hno : ∀ o, s.heap.get? D = some o → False := fun o e => by
      rw [Heap.get?_push_of_some _ e] at hD; cases hD
    refine hQ D l n h' tk e2 (F.keeps up) ?_
    refine news_cons ⟨?_, fun e => ?_, ?_⟩ fun q hq => ⟨up _ _ (N q hq).1, (N q hq).2⟩
    rotate_left
    · obtain ⟨oL, es, ep, hL, r⟩ := F.ns
      exact hno oL ((show D = L from e) ▸ hL)
    · cases e : h₀.get? D with
      | none => rfl
      | some o => exact (hno o (F.keep _ _ e)).elim
    rw [hn, ← e1, Array.toArray_toList]
theorem join_L0 {y : Str} {u : Tok} {l : List (Str × Tok)} {D n : Nat} {Q : Value → Shared → Prop} (N : News h₀ L s.heap news) (hm : (D, W.listOf (List.toArray (strValues l)) n) ∈ news) (hok : JoinOk y (l.map (·.1)) = true)
    (hq : ∀ t' k, Q (.str (Txt.join y (l.map (·.1))) t') { s with toks := k }) : wpAny (model prog w) A (call (.builtin "str.join") [.str y u, .ref D]) Q E s := by
  unfold JoinOk at hok
  rw [Bool.not_eq_true'] at hok
  exact call_meets F.slot_str_join (typeIs_str _ _ _) F.entry_str_join (F.args_str_join_2 _ _) (meets_str_join_list y u D l hok) ⟨News.isList N hm, post_join l ⟨joinFit_length hok, hq⟩⟩
end
end
section
open PySem PySem.W PyProof.Rows
structure SS where
  start : Nat
  opn : Option Nat
  res : List Str
noncomputable def SS.step (x : Str) (s : SS) (q : Nat × List Nat) : SS := if q.2 = [34] then (match s.opn with
  | none => { s with opn := some q.1 }
  | some o => { start := q.1 + 1, opn := none, res := if s.start ≠ o then s.res ++ [Txt.slice x (some (s.start : Int)) (some (o : Int))] else s.res }) else s
noncomputable def SS.at (x : Str) (l : List (Nat × List Nat)) : SS := l.foldl (SS.step x) ⟨0, none, []⟩
noncomputable def SS.fin (x : Str) (s : SS) : Str := Txt.join (Str.ofString "") (if s.start < x.length then s.res ++ [Txt.slice x (some (s.start : Int)) none] else s.res)
noncomputable def stripP (x : Str) : Str := if 34 ∈ x.cps.toList then (SS.at x (items 0 false x.cps.toList)).fin x else x
theorem ss_snoc (x : Str) (l : List (Nat × List Nat)) (q : Nat × List Nat) : SS.at x (l ++ [q]) = (SS.at x l).step x q := by simp [SS.at]
theorem ss_take {x : Str} {its : List (Nat × List Nat)} {k : Nat} {q : Nat × List Nat} (h : its[k]? = some q) : SS.at x (its.take (k + 1)) = (SS.at x (its.take k)).step x q := by
  obtain ⟨hk, rfl⟩ := List.getElem?_eq_some_iff.mp h
  rw [← ss_snoc, List.take_append_getElem hk]
theorem items_pos : ∀ (l : List Nat) (i : Nat) (e : Bool), ∀ q ∈ items i e l, q.1 ≤ i + l.length
  | [], i, false, q, h => by simp [items] at h
  | [], i, true, q, h => by
    simp only [items, List.mem_singleton] at h
    rw [h]; simp
  | c :: r, i, true, q, h => by
    simp only [items, List.mem_cons] at h
    rcases h with rfl | h
    · simp
    · have := items_pos r (i + 1) false q h
      simp only [List.length_cons]; (first | lia | omega)
  | c :: r, i, false, q, h => by
    simp only [items] at h
    split at h
    · have := items_pos r (i + 1) true q h
      simp only [List.length_cons]; (first | lia | omega)
    · rcases List.mem_cons.mp h with rfl | h
      · simp
      · have := items_pos r (i + 1) false q h
        simp only [List.length_cons]; (first | lia | omega)
theorem items_len : ∀ (l : List Nat) (i : Nat) (e : Bool), (items i e l).length ≤ l.length + 1
  | [], i, false => by simp [items]
  | [], i, true => by simp [items]
  | c :: r, i, true => by
    have := items_len r (i + 1) false
    simp only [items, List.length_cons]; (first | lia | omega)
  | c :: r, i, false => by
    simp only [items]
    split
    · have := items_len r (i + 1) true
      simp only [List.length_cons]; (first | lia | omega)
    · have := items_len r (i + 1) false
      simp only [List.length_cons]; (first | lia | omega)
structure SS.Ok (x : Str) (n : Nat) (s : SS) : Prop where
  st : s.start ≤ x.length + 1
  op : ∀ o, s.opn = some o → o ≤ x.length
  len : s.res.length ≤ n
  each : ∀ y ∈ s.res, y.length ≤ x.length
theorem ss_ok {x : Str} : ∀ (its : List (Nat × List Nat)) (s : SS) (n : Nat), (∀ q ∈ its, q.1 ≤ x.length) → s.Ok x n → (its.foldl (SS.step x) s).Ok x (n + its.length)
  | [], s, n, _, h => h
  | q :: r, s, n, hq, h => by
    have hs : (s.step x q).Ok x (n + 1) := by
      have hq1 := hq q (List.mem_cons_self ..)
      unfold SS.step
      split
      · split
        · exact ⟨h.st, fun o e => by cases e; exact hq1, by have := h.len; simp only; (first | lia | omega), h.each⟩
        · refine ⟨by simp only; (first | lia | omega), nofun, ?_, ?_⟩
          · have := h.len
            simp only
            split
            · simp; (first | lia | omega)
            · (first | lia | omega)
          · intro y hy
            simp only at hy
            split at hy
            · rcases List.mem_append.mp hy with hy | hy
              · exact h.each y hy
              · rw [List.mem_singleton.mp hy]; exact Txt.slice_le x _ _
            · exact h.each y hy
      · exact ⟨h.st, h.op, by have := h.len; (first | lia | omega), h.each⟩
    have := ss_ok r _ _ (fun q h => hq q (List.mem_cons_of_mem _ h)) hs
    rw [List.foldl_cons, List.length_cons, show n + (r.length + 1) = n + 1 + r.length from Nat.add_right_comm n r.length 1]
    exact this
theorem ss_take_ok (x : Str) (k : Nat) : (SS.at x ((items 0 false x.cps.toList).take k)).Ok x (x.length + 1) := by
  have hl : x.cps.toList.length = x.length := by simp [Str.length]
  have h := ss_ok (x := x) ((items 0 false x.cps.toList).take k) ⟨0, none, []⟩ 0 (fun q hq => by
    have := items_pos x.cps.toList 0 false q (List.mem_of_mem_take hq)
    (first | lia | omega)) ⟨Nat.zero_le _, nofun, Nat.le_refl _, nofun⟩
  refine ⟨h.st, h.op, ?_, h.each⟩
  have h1 := h.len
  have h2 := items_len x.cps.toList 0 false
  have h3 : ((items 0 false x.cps.toList).take k).length ≤ (items 0 false x.cps.toList).length := List.length_take_le' ..
  unfold SS.at
  (first | lia | omega)
theorem foldl_size (sep : Str) (hs : sep.length = 0) : ∀ (l : List Str) (a b : Nat), (∀ y ∈ l, y.length ≤ b) → l.foldl (fun x1 x2 => x1 + x2.length + sep.length) a ≤ a + l.length * b
  | [], a, b, _ => by simp
  | y :: r, a, b, h => by
    have h1 := h y (List.mem_cons_self ..)
    have := foldl_size sep hs r (a + y.length + sep.length) b fun z hz => h z (List.mem_cons_of_mem _ hz)
    rw [List.foldl_cons, List.length_cons, Nat.add_mul, Nat.one_mul]
    refine Nat.le_trans this ?_
    rw [hs, Nat.add_zero, Nat.add_comm (r.length * b) b, ← Nat.add_assoc]
    exact Nat.add_le_add_right (Nat.add_le_add_left h1 _) _
theorem joinOk_of {l : List Str} {b : Nat} (h : ∀ y ∈ l, y.length ≤ b) (hl : l.length * b ≤ 2000000) : JoinOk (Str.ofString "") l = true := by
  unfold JoinOk
  rw [Bool.not_eq_true']
  have h1 := foldl_size (Str.ofString "") rfl l 0 b h
  rw [List.foldl_toArray]
  unfold Builtin.Str.tooLong
  refine decide_eq_false ?_
  have : sizeLine = 16777216 := sizeLine_eq
  (first | lia | omega)
end
section
open PySem PySem.W PyProof.Rows
theorem sjoin_list : ∀ l : List Str, (Str.join (Str.ofString "") l).cps.toList = l.flatMap fun y => y.cps.toList
  | [] => rfl
  | [p] => by simp [Str.join]
  | p :: q :: r => by
    have ih := sjoin_list (q :: r)
    show (p ++ Str.ofString "" ++ Str.join (Str.ofString "") (q :: r)).cps.toList = _
    rw [List.flatMap_cons, ← ih]
    simp only [Str.cps_append, Array.toList_append]
    have e : (Str.ofString "").cps.toList = [] := by decide
    rw [e, List.append_nil]
theorem tjoin_list (l : List Str) : (Txt.join (Str.ofString "") l).cps.toList = l.flatMap fun y => y.cps.toList := by
  unfold Txt.join
  rw [StrLaws.glued_eq_join, sjoin_list]
theorem join_map (g : Nat → List Nat) (cs : List Nat) : Txt.join (Str.ofString "") (cs.map fun c => ⟨(g c).toArray⟩) = ⟨(cs.flatMap g).toArray⟩ := by
  refine str_ext ?_
  rw [tjoin_list]
  simp [List.flatMap_map]
noncomputable def escV4 (c : Nat) : List Nat := if c = 38 then [38, 97, 109, 112, 59] else if c = 60 then [38, 108, 116, 59] else if c = 34 then [38, 113, 117, 111, 116, 59] else if c = 9 then [38, 35, 120, 57, 59] else [c]
theorem text_get (t1 t2 t3 t4 u : Tok) (c : Nat) : ∃ t', ((valueAt [(Str.ofString "&", Value.str (Str.ofString "&amp;") t1), (Str.ofString "<", Value.str (Str.ofString "&lt;") t2), (Str.ofString ">", Value.str (Str.ofString "&gt;") t3), (Str.ofString "\r", Value.str (Str.ofString "&#xD;") t4)] ⟨#[c]⟩).getD (Value.str ⟨#[c]⟩ u)) = Value.str ⟨(escC c).toArray⟩ t' := by
  have e1 : Str.ofString "&" = ⟨#[38]⟩ := by decide
  have e2 : Str.ofString "<" = ⟨#[60]⟩ := by decide
  have e3 : Str.ofString ">" = ⟨#[62]⟩ := by decide
  have e4 : Str.ofString "\r" = ⟨#[13]⟩ := by decide
  have f1 : Str.ofString "&amp;" = ⟨#[38, 97, 109, 112, 59]⟩ := by decide
  have f2 : Str.ofString "&lt;" = ⟨#[38, 108, 116, 59]⟩ := by decide
  have f3 : Str.ofString "&gt;" = ⟨#[38, 103, 116, 59]⟩ := by decide
  have f4 : Str.ofString "&#xD;" = ⟨#[38, 35, 120, 68, 59]⟩ := by decide
  rw [e1, e2, e3, e4, f1, f2, f3, f4]
  unfold escC
  by_cases h1 : c = 38
  · subst h1; exact ⟨t1, rfl⟩
  · by_cases h2 : c = 60
    · subst h2; exact ⟨t2, rfl⟩
    · by_cases h3 : c = 62
      · subst h3; exact ⟨t3, rfl⟩
      · by_cases h4 : c = 13
        · subst h4; exact ⟨t4, rfl⟩
        · exact ⟨u, by simp [valueAt, h1, h2, h3, h4, Ne.symm h1, Ne.symm h2, Ne.symm h3, Ne.symm h4]⟩
theorem val_get (t1 t2 t3 t4 u : Tok) (c : Nat) : ∃ t', ((valueAt [(Str.ofString "&", Value.str (Str.ofString "&amp;") t1), (Str.ofString "<", Value.str (Str.ofString "&lt;") t2), (Str.ofString "\"", Value.str (Str.ofString "&quot;") t3), (Str.ofString "\t", Value.str (Str.ofString "&#x9;") t4)] ⟨#[c]⟩).getD (Value.str ⟨#[c]⟩ u)) = Value.str ⟨(escV4 c).toArray⟩ t' := by
  have e1 : Str.ofString "&" = ⟨#[38]⟩ := by decide
  have e2 : Str.ofString "<" = ⟨#[60]⟩ := by decide
  have e3 : Str.ofString "\"" = ⟨#[34]⟩ := by decide
  have e4 : Str.ofString "\t" = ⟨#[9]⟩ := by decide
  have f1 : Str.ofString "&amp;" = ⟨#[38, 97, 109, 112, 59]⟩ := by decide
  have f2 : Str.ofString "&lt;" = ⟨#[38, 108, 116, 59]⟩ := by decide
  have f3 : Str.ofString "&quot;" = ⟨#[38, 113, 117, 111, 116, 59]⟩ := by decide
  have f4 : Str.ofString "&#x9;" = ⟨#[38, 35, 120, 57, 59]⟩ := by decide
  rw [e1, e2, e3, e4, f1, f2, f3, f4]
  unfold escV4
  by_cases h1 : c = 38
  · subst h1; exact ⟨t1, rfl⟩
  · by_cases h2 : c = 60
    · subst h2; exact ⟨t2, rfl⟩
    · by_cases h3 : c = 34
      · subst h3; exact ⟨t3, rfl⟩
      · by_cases h4 : c = 9
        · subst h4; exact ⟨t4, rfl⟩
        · exact ⟨u, by simp [valueAt, h1, h2, h3, h4, Ne.symm h1, Ne.symm h2, Ne.symm h3, Ne.symm h4]⟩
theorem esc_each {g : Nat → List Nat} (h : ∀ c, (g c).length ≤ 6) {x : Str} (hx : x.length ≤ 8) : JoinOk (Str.ofString "") (x.cps.toList.map fun c => ⟨(g c).toArray⟩) = true := by
  refine joinOk_of (b := 6) (fun y hy => ?_) ?_
  · obtain ⟨c, _, rfl⟩ := List.mem_map.mp hy
    simpa [Str.length] using h c
  · rw [List.length_map]
    have : x.cps.toList.length = x.length := by simp [Str.length]
    (first | lia | omega)
theorem escC_le (c : Nat) : (escC c).length ≤ 6 := by unfold escC; (repeat' split) <;> simp
theorem escV4_le (c : Nat) : (escV4 c).length ≤ 6 := by unfold escV4; (repeat' split) <;> simp
theorem val_les : ∀ v ∈ values8, v.length ≤ 8 := by decide +kernel
theorem val_le8 {v : Str} (h : v ∈ values8) : v.length ≤ 8 := val_les v h
theorem val_eqs : ∀ x ∈ values8, (⟨(x.cps.toList.flatMap escV4).toArray⟩ : Str) = escA x := by decide +kernel
theorem val_eq {x : Str} (h : x ∈ values8) : (⟨(x.cps.toList.flatMap escV4).toArray⟩ : Str) = escA x := val_eqs x h
end
section
open PySem PySem.W PyProof.Rows
theorem cat_foldl : ∀ (l : List Str) (a : Str), (l.foldl (· ++ ·) a).cps.toList = a.cps.toList ++ l.flatMap fun y => y.cps.toList
  | [], a => by simp
  | x :: r, a => by
    rw [List.foldl_cons, cat_foldl r, List.flatMap_cons]
    simp only [Str.cps_append, Array.toList_append, List.append_assoc]
theorem cat_list (l : List Str) : (cat l).cps.toList = l.flatMap fun y => y.cps.toList := by
  unfold cat
  rw [cat_foldl]
  have e : (S "").cps.toList = [] := by decide
  rw [e, List.nil_append]
theorem join_cat (l : List Str) : Txt.join (Str.ofString "") l = cat l := str_ext (by rw [tjoin_list, cat_list])
theorem cat_app (a b : List Str) : cat (a ++ b) = cat a ++ cat b := str_ext (by rw [cat_list, Str.cps_append, Array.toList_append, cat_list, cat_list, List.flatMap_append])
theorem cat_one (x : Str) : cat [x] = x := str_ext (by rw [cat_list]; simp)
theorem join_one {x : Str} {t : Tok} : Txt.join (Str.ofString "") ([(x, t)].map (·.1)) = x := by rw [join_cat]; exact cat_one x
end
section
open PySem PySem.W PyProof.Rows PySem.Calls
local macro_rules | `(tactic| size_fits) => `(tactic| ((with_reducible show PySem.Str.length _ ≤ sizeLine); kt_le))
noncomputable def AtP (h₀ : Heap) (L : Addr) (s : Shared) (PS : List (Str × Value)) (AS : List Addr) (led tl : List (Addr × Obj)) (prs : List (Str × Str)) (s' : Shared) : Prop :=
  ∃ (AL : Nat) (avs : List Value) (n : Nat) (ext : List (Addr × Obj)) (m' : Str → Option Value) (h' : Heap) (d' : Drawn) (tk' : Nat), s' = { s with heap := h', drawn := d', toks := tk' } ∧ 0 < tk' ∧ PairsAt (ext ++ tl) avs prs ∧ Nd (AL :: AS) (ext ++ tl) ∧ (∀ p ∈ ext, ∀ q ∈ tl, @Ne Nat q.1 p.1) ∧ Fr h₀ L h' (pinned m' ((Str.ofString "attr_list", .ref AL) :: PS)) ∧ News h₀ L h' ((AL, W.listOf (List.toArray avs) n) :: (led ++ (ext ++ tl)))
noncomputable def ALJ (B : Nat) (vs : List Value) (nB AL : Nat) (PS : List (Str × Value)) (AS : List Addr) (led tl t2 : List (Addr × Obj)) (prs : List (Str × Str)) (i : Nat) (m₁ : Str → Option Value) (news₁ : List (Addr × Obj)) (tk : Nat) : Prop :=
  0 < tk ∧ ∃ (avs : List Value) (n : Nat) (e2 : List (Addr × Obj)), Pins m₁ ((Str.ofString "attr_list", .ref AL) :: PS) ∧ PairsAt (e2 ++ t2) avs (prs.take i) ∧ Nd (B :: AL :: AS) (e2 ++ t2) ∧ (∀ p ∈ e2, ∀ q ∈ tl, @Ne Nat q.1 p.1) ∧ news₁ = (B, W.listOf (List.toArray vs) nB) :: (AL, W.listOf (List.toArray avs) n) :: (led ++ (e2 ++ t2))
theorem nd_in {as : List Addr} {tl : List (Addr × Obj)} {d : Addr} {o : Obj} (hn : Nd (d :: as) tl) : Nd as ((d, o) :: tl) := ⟨(List.nodup_cons.mp hn.1).2, fun p hp h => by
  rcases List.mem_cons.mp hp with rfl | hp
  · exact (List.nodup_cons.mp hn.1).1 h
  · exact hn.2 p hp (.tail _ h)⟩
theorem pairsAt_snoc {nw : List (Addr × Obj)} {v : Value} {p : Str × Str} (hv : ∃ (a : Nat) (t1 t2 : Tok) (n : Nat), v = .ref a ∧ (a, ({ cls := .type "tuple", data := .seq #[.str p.1 t1, .str p.2 t2] n } : Obj)) ∈ nw) : ∀ {vs : List Value} {ps : List (Str × Str)}, PairsAt nw vs ps → PairsAt nw (vs ++ [v]) (ps ++ [p])
  | [], [], _ => ⟨hv, trivial⟩
  | _ :: _, _ :: _, h => ⟨h.1, pairsAt_snoc hv h.2⟩
  | [], _ :: _, h => h.elim
  | _ :: _, [], h => h.elim
noncomputable def WrP (h₀ : Heap) (L : Addr) (s : Shared) (wm tp : Nat) (oc1 : Obj) (parts : List Value) (led : List (Addr × Obj)) (prs : List (Str × Str)) (s' : Shared) : Prop :=
  ∃ (pp : List (Str × Tok)) (n : Nat) (h' : Heap) (d' : Drawn) (tk' : Nat) (m' : Str → Option Value), s' = { s with heap := h', drawn := d', toks := tk' } ∧ 0 < tk' ∧ pp.length ≤ 1 ∧ Txt.join (Str.ofString "") (pp.map (·.1)) = cat (prs.map attrW) ∧ Fr h₀ L h' (pinned m' [(Str.ofString "write", .ref wm), (Str.ofString "qname_text", .none)]) ∧ News h₀ L h' ((L + 1, oc1) :: (tp, W.listOf (List.toArray (parts ++ strValues pp)) n) :: led)
theorem nd_sub {as bs : List Addr} {tl : List (Addr × Obj)} (hn : Nd as tl) (h : bs.Sublist as) : Nd bs tl := ⟨hn.1.sublist h, fun p hp hm => hn.2 p hp (h.subset hm)⟩
theorem jn {tg c : Str} {tA tkW : Tok} {pp : List (Str × Tok)} (hpp : pp.length ≤ 1) (hj : Txt.join (Str.ofString "") (pp.map (·.1)) = c) :
  Txt.join (Str.ofString "") (((Str.ofString "<" ++ tg, tA) :: (pp ++ [(Str.ofString ">", tkW)])).map (·.1)) = Str.ofString "<" ++ tg ++ c ++ Str.ofString ">" := by
  subst hj
  have e : (Str.ofString "").cps = #[] := by decide
  have e2 : Str.empty.cps = #[] := rfl
  have app : ∀ a b : Str, a ++ b = ⟨a.cps ++ b.cps⟩ := fun _ _ => rfl
  rcases pp with _ | ⟨p, _ | ⟨q, r⟩⟩
  · simp [Txt.join, Builtin.Str.glued, e, e2, app]
  · simp [Txt.join, Builtin.Str.glued, e, e2, app]
  · simp at hpp
theorem ents_len {l : List (Str × Tok × Value)} {prs : List (Str × Str)} (he : EntsOf l prs) (h : PairsOk prs) : l.length ≤ 2 := by
  have e := congrArg List.length he.keys
  rw [List.length_map, List.length_map] at e
  rw [e]
  rcases h with rfl | ⟨_, _, rfl⟩ | ⟨_, _, _, _, rfl⟩
  · exact Nat.zero_le _
  · exact Nat.le_succ _
  · exact Nat.le_refl _
theorem in_keys {prs : List (Str × Str)} {p : Str × Str} (h : PairsOk prs) (hp : p ∈ inOrder prs) : p.1 ∈ prs.map (·.1) := by
  rcases h with rfl | ⟨_, _, rfl⟩ | ⟨_, _, _, _, rfl⟩ <;> simp [inOrder] at hp <;> rcases hp with rfl | rfl <;> simp
theorem attrs_join {ps : List (Str × Str)} (h : PairsOk ps) : JoinOk (Str.ofString "") ((inOrder ps).map attrW) = true := by
  obtain ⟨hio, hil⟩ := inOrder_ok h
  refine joinOk_of (b := 14) (fun y hy => ?_) ?_
  · obtain ⟨p, hp, rfl⟩ := List.mem_map.mp hy
    obtain ⟨h1, h2⟩ := hio p hp
    exact (attr_len (k := p.1) (v := p.2) h1 h2).1
  · rw [List.length_map]; exact Nat.le_trans (Nat.mul_le_mul_right _ hil) (Nat.le_of_ble_eq_true rfl)
theorem sub_cons {α : Type} {x : α} {l l' : List α} (hx : x ∈ l) (h : ∀ p ∈ l', p ∈ l) : ∀ p ∈ x :: l', p ∈ l := List.forall_mem_cons.mpr ⟨hx, h⟩
noncomputable def bodyOf (o : Option Obj) : List Stmt := match o with | some ⟨_, _, .func f, _⟩ => (match f.body with | .stmts b => b | _ => []) | _ => []
noncomputable def scopeOf (o : Option Obj) : Scope := match o with | some ⟨_, _, .func f, _⟩ => f.scope | _ => default
section
variable {k : Nat} {w : World} {p : Program} {loose : List Str} {mean : ExcName → Option Value} {mg mb : Str → Option Value} {A : Around} {outer : List Env} {base h₀ : Heap} {L : Addr} {s : Shared} {M : Model} {E : Value → Shared → Prop} {Q : Flow → Shared → Prop} {name qual q' : Str} {params : Arguments} {b1 b2 b3 b4 b5 b6 b7 : Stmt} {rest : List Stmt} {scope : Scope} {dV kV doc pm cdv ct oc : Value} {an od : Option Addr} {osl : Array (Option Value)} {o : Option Obj}
theorem rest_in (h : o = some ⟨oc, od, .func (fnOf name qual params (b1 :: b2 :: b3 :: b4 :: b5 :: b6 :: b7 :: rest) scope dV kV doc pm an cdv ct), osl⟩)
    (c : CxA k w p loose mean mg mb A (envOfC q' (scopeOf o) L 126 (.ref 125)) outer base h₀ L)
    (g : CxA k w p loose mean mg mb A (envOfC q' scope L 126 (.ref 125)) outer base h₀ L → wpAny M A (execs rest (envOfC q' scope L 126 (.ref 125))) Q E s) :
    wpAny M A (execs ((bodyOf o).drop 7) (envOfC q' (scopeOf o) L 126 (.ref 125))) Q E s := by
  subst h
  exact g c
theorem rest_out (h : o = some ⟨oc, od, .func (fnOf name qual params (b1 :: b2 :: b3 :: b4 :: b5 :: b6 :: b7 :: rest) scope dV kV doc pm an cdv ct), osl⟩)
    (c : CxA k w p loose mean mg mb A (envOfC q' scope L 126 (.ref 125)) outer base h₀ L)
    (g : CxA k w p loose mean mg mb A (envOfC q' (scopeOf o) L 126 (.ref 125)) outer base h₀ L → wpAny M A (execs ((bodyOf o).drop 7) (envOfC q' (scopeOf o) L 126 (.ref 125))) Q E s) :
    wpAny M A (execs rest (envOfC q' scope L 126 (.ref 125))) Q E s := by
  subst h
  exact g c
end
theorem start_rest : ∀ {w : World} {p : Program} {loose : List Str} {mean : ExcName → Option Value} {mg mb : Str → Option Value} {A : Around} {outer : List Env} {base h₀ : Heap} {L : Addr} {m : Str → Option Value} {s : Shared} {Q : Flow → Shared → Prop} {x dx tp wm dA et ds ns pm ps np n2 n3 at_ nat nns nnn DP : Nat} {cm rs : Bool} {tig : Tok} {T : Nat → Tok} {parts nst pst : List Value} {tl : List (Addr × Obj)} {tg : Str} {tt : Tok} {pt : Array Value} {l : List (Str × Tok × Value)} {prs : List (Str × Str)} {oD oc1 : Obj} {kvs : List (Str × Value)} {nms : List Str}
    (_ : CxA 7 w p loose mean mg mb A (envOfC (Str.ofString "C14NWriterTarget._start") (scopeOf ((hd.heap_1 w.params).lookup 126)) L 126 (.ref 125)) outer base h₀ L)
    (_ : Fr h₀ L s.heap (pinned m [(Str.ofString "parsed_qnames", .ref DP), (Str.ofString "qattrs", .none), (Str.ofString "qname_text", .none), (Str.ofString "new_namespaces", .ref nns), (Str.ofString "attrs", .ref at_), (Str.ofString "tag", .str tg tt)]))
    (_ : News h₀ L s.heap ((DP, oD) :: (L + 1, oc1) :: (tp, W.listOf (List.toArray parts) np) :: (dx, dictOf (tgtEs w wm dA et ds ns pm ps cm rs false 0 tig T) 18) :: (ns, W.listOf (List.toArray nst) n2) :: (ps, W.listOf (List.toArray (pst ++ [.bool false])) n3) :: (at_, dictOf (entS w l) nat) :: (nns, W.listOf (List.toArray []) nnn) :: (123, tabObj pt) :: tl))
    (_ : Nd [DP, L + 1, tp, dx, ns, ps, at_, nns, 123] tl)
    (_ : 0 < s.toks)
    (_ : oc1.data = .cell (some (.ref x)))
    (_ : (x, instObj 150 dx) ∈ tl)
    (_ : (wm, bndObj "list.append" (.ref tp)) ∈ tl)
    (_ : parts.length ≤ 900)
    (_ : nst.length ≤ 100)
    (_ : pst.length ≤ 100)
    (_ : tg = Str.ofString "r" ∨ tg = Str.ofString "a" ∨ tg = Str.ofString "b")
    (_ : EntsOf l prs)
    (_ : PairsOk prs)
    (_ : (at_ == sysModules) = false)
    (_ : oD.IsDictOf (strKind PySem.Challenge.rw_nb0300_01.row.prog w) kvs)
    (_ : ∀ z ∈ nms, IsName z)
    (_ : nms.Perm (tg :: l.map (·.1)))
    (_ : ∀ z ∈ nms, ∃ (a : Nat) (t1 t2 t3 : Tok) (n : Nat), (z, Value.ref a) ∈ kvs ∧ (a, tup3 z t1 t2 t3 n) ∈ tl)
    (_ : ∀ (nv : Nat) pp np' n2' n3' ext m' h' d' tk', Txt.join (Str.ofString "") (pp.map (·.1)) = Str.ofString "<" ++ tg ++ cat ((inOrder prs).map attrW) ++ Str.ofString ">" → pp.length ≤ 3 → Nd [tp, dx, ns, ps, nns, 123] (ext ++ tl) → (∀ q ∈ ext, ∀ r ∈ tl, @Ne Nat r.1 q.1) → 0 < tk' → Fr h₀ L h' m' → News h₀ L h' ((tp, W.listOf (List.toArray (parts ++ strValues pp)) np') :: (dx, dictOf (tgtEs w wm dA et ds ns pm ps cm true false 0 tig T) 18) :: (ns, W.listOf (List.toArray (nst ++ [.ref nv])) n2') :: (ps, W.listOf (List.toArray (pst ++ [.bool false] ++ [.bool false])) n3') :: (nns, W.listOf (List.toArray []) nnn) :: (123, tabObj pt) :: (ext ++ tl)) → Q .next { s with heap := h', drawn := d', toks := tk' }),
    wpAny (model PySem.Challenge.rw_nb0300_01.row.prog w) A (execs ((bodyOf ((hd.heap_1 w.params).lookup 126)).drop 7) (envOfC (Str.ofString "C14NWriterTarget._start") (scopeOf ((hd.heap_1 w.params).lookup 126)) L 126 (.ref 125))) Q Nay s := by
  intro w p loose mean mg mb A outer base h₀ L m s Q x dx tp wm dA et ds ns pm ps np n2 n3 at_ nat nns nnn DP cm rs tig Tt parts nst pst tl tg tt pt l prs oD oc1 kvs nms c F N hn ht hoc1 h1 h2 hl4 hns hp htg he hpo hsm hoD hnm hnp hpq hret
  k_dflt (refine' rest_in ?h c ?g; (case h => k_is))
  intro c1
  clear c
  have X1 := c1.X
  have T1 := c1.T
  (k_with "goA" => repeat' (first
    | (k_unfold; (try dsimp only))
    | ((fail_if_success (with_reducible show wpAny _ _ (PySem.execs (PySem.Stmt.If (PySem.Expr.Name (PySem.Str.ofString "attrs") _) _ _ _ :: _) _) _ _ _)); first | walk1 | (dsimp only; walk1))
    | fail "no step"))
  walk_at "goA"
  rename Nd (_ :: _) _ => hn2
  rename_i AL _
  have hnk : (l.map (·.1)).Nodup := by
    rw [he.keys]
    rcases hpo with rfl | ⟨_, _, rfl⟩ | ⟨_, _, _, _, rfl⟩
    · exact List.nodup_nil
    · simp
    · simp only [List.map_cons, List.map_nil]; decide
  (with_reducible refine exec_join (AtP h₀ L s [(Str.ofString "parsed_qnames", .ref DP), (Str.ofString "qattrs", .none), (Str.ofString "qname_text", .none), (Str.ofString "new_namespaces", .ref nns), (Str.ofString "attrs", .ref at_), (Str.ofString "tag", .str tg tt)] [DP, L + 1, tp, dx, ns, ps, at_, nns, 123] [(DP, oD), (L + 1, oc1), (tp, W.listOf (List.toArray parts) np), (dx, dictOf (tgtEs w wm dA et ds ns pm ps cm rs false 0 tig Tt) 18), (ns, W.listOf (List.toArray nst) n2), (ps, W.listOf (List.toArray (pst ++ [.bool false])) n3), (at_, dictOf (entS w l) nat), (nns, W.listOf (List.toArray []) nnn), (123, tabObj pt)] tl (inOrder prs)) ?_ ?_)
  · clear hret
    (k_with "truthy ref" => ((with_reducible show wpAny _ _ (PySem.truthy (Value.ref _)) _ _ _); k_dflt (refine' truthy_D (l := _) ?N ?m ?e ?nd ?sm ?b ?z ?_; (case N => k_asm); (case m => k_mem); (case e => rfl); (case nd => assumption); (case sm => assumption); (case b => first | assumption | exact rfl); (case z => first | assumption | exact Nat.zero_le _))))
    (k_with "getMethod ref" => ((with_reducible show wpAny _ _ (getMethod (Value.ref _) (PySem.Str.ofString "items") _) _ _ _); k_dflt (refine' kdl_method (knd := PySem.strKind _ _) PySem.F.slot_dict_items PySem.F.type_dict_items ?N ?m ?d ?_; (case N => k_asm); (case m => k_mem); (case d => exact isDict_ents (by assumption)))))
    (k_with "call builtin:dict.items" => ((with_reducible show wpAny _ _ (call (Value.builtin "dict.items") [Value.ref _]) _ _ _); k_dflt (refine' kdx_view (knd := PySem.strKind _ _) ?F ?N ?m ?d ?sm ?_; (case F => k_asm); (case N => k_asm); (case m => k_mem); (case d => exact isDict_ents (by assumption)); (case sm => assumption)); intro D' h' F' N' l1))
    (k_with "goI" => repeat' (first
      | (k_unfold; (try dsimp only))
      | ((fail_if_success (with_reducible show wpAny _ _ (PySem.call (Value.builtin "sorted") _) _ _ _)); (fail_if_success (with_reducible show wpAny _ _ (PySem.exec (PySem.Stmt.For _ _ _ _ _) _) _ _ _)); first | walk1 | (dsimp only; walk1))
      | fail "no step"))
    by_cases hp0 : prs = []
    · subst hp0
      have hl0 : l = [] := by cases l with
        | nil => rfl
        | cons _ _ => exact he.elim
      subst hl0
      walk_at "goI"
      exact NextP.mk ⟨_, [], _, [], _, _, _, _, rfl, by walk_at "tpos", trivial, hn2, (fun p hp => absurd hp List.not_mem_nil), by k_asm, by k_asm⟩
    · have hle : (!l.isEmpty) = true := by
        cases l with
        | nil => exact absurd (by cases prs with
            | nil => rfl
            | cons _ _ => exact he.elim) hp0
        | cons _ _ => rfl
      have hlz : l.length ≤ 1000 := n_le (ents_len he hpo) rfl
      walk_at "goI"
      refine For_go ?_
      walk_at "goI"
      k_dflt (refine' wpAny_with_toks (n := 1) (by walk_at "tpos") (ok_any (sorted_items (A := A) c1.hh ?hu ?F ?N ?v ?d ?e ?nd ?ok ?n0 ?_)); (case hu => exact c1.unit (Nat.le_of_ble_eq_true rfl)); (case F => k_asm); (case N => k_asm); (case v => exact .head _); (case d => k_mem); (case e => exact he); (case nd => exact hnk); (case ok => exact hpo); (case n0 => exact hp0))
      intro B vs nB ext hB tkB hpB FB NB lB lext htkB
      have hnB := nd_lam hn2 rfl (fun p hp q hq => lext p hp q (.tail _ hq)) (fun q hq => lB q (List.mem_append_right _ (.tail _ hq))) (fun q hq => lB q (List.mem_append_left _ hq))
      have hext : ∀ p ∈ ext, ∀ q ∈ tl, @Ne Nat q.1 p.1 := fun p hp q hq => Nat.ne_of_lt (lext p hp q (List.mem_of_mem_drop (i := 11) hq))
      obtain ⟨t2, ht2⟩ : ∃ t, t = ext ++ tl := ⟨_, rfl⟩
      rw [← ht2] at hnB
      have N2 := News.sub (l' := (B, W.listOf vs.toArray nB) :: (AL, W.listOf (List.toArray []) 0) :: ([(DP, oD), (L + 1, oc1), (tp, W.listOf (List.toArray parts) np), (dx, dictOf (tgtEs w wm dA et ds ns pm ps cm rs false 0 tig Tt) 18), (ns, W.listOf (List.toArray nst) n2), (ps, W.listOf (List.toArray (pst ++ [.bool false])) n3), (at_, dictOf (entS w l) nat), (nns, W.listOf (List.toArray []) nnn), (123, tabObj pt)] ++ ([] ++ t2))) NB (sub_cons memH0 (sub_cons (memT1 (List.mem_append_right _ memH1)) (sub_cons (memT1 (List.mem_append_right _ memH2)) (sub_cons (memT1 (List.mem_append_right _ memH3)) (sub_cons (memT1 (List.mem_append_right _ memH4)) (sub_cons (memT1 (List.mem_append_right _ memH5)) (sub_cons (memT1 (List.mem_append_right _ memH6)) (sub_cons (memT1 (List.mem_append_right _ memH7)) (sub_cons (memT1 (List.mem_append_right _ memH8)) (sub_cons (memT1 (List.mem_append_right _ memH9)) (sub_cons (memT1 (List.mem_append_right _ memH10)) (fun p (hp : p ∈ t2) => (List.mem_append.mp (ht2 ▸ hp : p ∈ ext ++ tl)).elim (fun h => memT1 (List.mem_append_left _ h)) (fun h => memT1 (List.mem_append_right _ (memT11 h)))))))))))))))
      refine for_list (vs := vs) (ALJ B vs nB AL [(Str.ofString "parsed_qnames", .ref DP), (Str.ofString "qattrs", .none), (Str.ofString "qname_text", .none), (Str.ofString "new_namespaces", .ref nns), (Str.ofString "attrs", .ref at_), (Str.ofString "tag", .str tg tt)] [DP, L + 1, tp, dx, ns, ps, at_, nns, 123] [(DP, oD), (L + 1, oc1), (tp, W.listOf (List.toArray parts) np), (dx, dictOf (tgtEs w wm dA et ds ns pm ps cm rs false 0 tig Tt) 18), (ns, W.listOf (List.toArray nst) n2), (ps, W.listOf (List.toArray (pst ++ [.bool false])) n3), (at_, dictOf (entS w l) nat), (nns, W.listOf (List.toArray []) nnn), (123, tabObj pt)] tl t2 (inOrder prs)) c1.hh FB N2 ?_ ?_ ?_ ?_
      · exact ⟨htkB, [], 0, [], ⟨rfl, rfl, rfl, rfl, rfl, rfl, rfl, trivial⟩, trivial, hnB, (fun p hp => absurd hp List.not_mem_nil), rfl⟩
      · rintro i m₁ news₁ tk h ⟨_, avs, n, e2, _, _, _, _, rfl⟩ _ N₁
        exact News.isList N₁ (.head _)
      · rintro i v m₁ news₁ h tk It oI hv ⟨htk, avs, n, e2, q, hpa, hnd2, he2, rfl⟩ hoc hlt hne F₁ N₁
        obtain ⟨p, hp9, a9, u1, u2, n9, rfl, hm9⟩ := hpB.get hv
        have hk9 : p.1 ∈ nms := hnp.mem_iff.mpr (List.mem_cons_of_mem _ (he.keys ▸ in_keys hpo (List.mem_of_getElem? hp9)))
        obtain ⟨qa, w1, w2, w3, n8, hkv, hmq⟩ := hpq _ hk9
        obtain ⟨p1, p2⟩ := p
        dsimp only at hkv hmq hm9
        have hal : avs.length ≤ 10 := Nat.le_trans (Nat.le_of_eq hpa.len) (Nat.le_trans (List.length_take_le' ..) (n_le (inOrder_ok hpo).2 rfl))
        have hmq2 : (qa, tup3 p1 w1 w2 w3 n8) ∈ e2 ++ t2 := List.mem_append_right _ (by rw [ht2]; exact List.mem_append_right _ hmq)
        have hm92 := List.mem_append_right e2 (by rw [ht2]; exact List.mem_append_left _ hm9 : _ ∈ t2)
        have hnI := nd_newN hnd2 rfl hne
        replace F₁ := fr_pinsP F₁ q
        simp only [List.cons_append, List.nil_append] at N₁
        obtain ⟨t3, ht3⟩ : ∃ t, t = e2 ++ t2 := ⟨_, rfl⟩
        rw [← ht3] at hmq2 hm92 hnI N₁ hpa
        clear hpB hm9 hmq hnd2 hne hlt lB lext FB NB N2 hnB hn2
        (k_with "subscriptTail" => (with_reducible show wpAny _ _ (subscriptTail _ _ (Value.ref _) (Value.str _ _)) _ _ _); k_dflt (refine' item_P ?N ?m ?d ?k ?_ ?hs; (case d => with_reducible exact hoD); (case N => k_asm); (case m => k_mem); (case k => with_reducible assumption); (case hs => with_unfolding_all rfl)))
        (k_with "goX" => repeat' (first
          | (k_unfold; (try dsimp only))
          | ((fail_if_success (with_reducible show wpAny _ _ (PySem.execs (_ :: _ :: _) _) _ _ _)); first | walk1 | (dsimp only; walk1))
          | fail "no step"))
        walk_at "goX"
        refine wpAny_with_toks (n := 1) (by walk_at "tpos") (ok_any ?_)
        walk_at "go"
        (try dsimp only)
        (first | intro htk9 | rename 1 ≤ _ => htk9)
        rename Nd (_ :: _) _ => hq
        rename_i D9 _
        (try dsimp only at htk9)
        have hq2 := nd_in (o := ({ cls := .type "tuple", data := .seq #[.str p1 w2, .str p2 u2] } : Obj)) hq
        refine TurnP.next (news' := (B, W.listOf (List.toArray vs) nB) :: (AL, W.listOf (List.toArray (avs ++ [.ref D9])) (n + 1)) :: ([(DP, oD), (L + 1, oc1), (tp, W.listOf (List.toArray parts) np), (dx, dictOf (tgtEs w wm dA et ds ns pm ps cm rs false 0 tig Tt) 18), (ns, W.listOf (List.toArray nst) n2), (ps, W.listOf (List.toArray (pst ++ [.bool false])) n3), (at_, dictOf (entS w l) nat), (nns, W.listOf (List.toArray []) nnn), (123, tabObj pt)] ++ (((D9, { cls := .type "tuple", data := .seq #[.str p1 w2, .str p2 u2] }) :: e2) ++ t2))) (by k_asm) ?_ ?_ ⟨?_, _, _, _, ⟨rfl, rfl, rfl, rfl, rfl, rfl, rfl, trivial⟩, ?_, ?_, ?_, rfl⟩
        · simp only [List.cons_append, List.nil_append, ← ht3]
          refine' News.sub ?nsA ?nsB
          case nsA => k_asm
          case nsB => exact sub_cons memH1 (sub_cons memH2 (sub_cons memH3 (sub_cons memH4 (sub_cons memH5 (sub_cons memH6 (sub_cons memH7 (sub_cons memH8 (sub_cons memH9 (sub_cons memH10 (sub_cons memH11 (sub_cons memH12 (sub_cons memH0 fun p hp => memT13 hp))))))))))))
        · simp only [List.cons_append, List.nil_append, ← ht3]
          exact Nd.off hq2 rfl
        · exact htk9
        · rw [List.take_add_one, hp9, List.cons_append, ← ht3, Option.toList_some]
          exact pairsAt_snoc (p := (p1, p2)) ⟨D9, _, _, _, rfl, .head _⟩ (hpa.mono fun p hp => .tail _ hp)
        · rw [List.cons_append, ← ht3]
          exact hq2.rest
        · intro p hp q hq9
          rcases List.mem_cons.mp hp with rfl | hp
          · exact fun e => hq.2 q (by rw [ht3, ht2]; exact List.mem_append_right _ (List.mem_append_right _ hq9)) (e ▸ .head _)
          · exact he2 p hp q hq9
      · rintro m₁ news₁ h tk ⟨htk, avs, n, e2, q, hpa, hnd2, he2, rfl⟩ F₁ N₁
        have hlen : vs.length = (inOrder prs).length := hpB.len
        rw [hlen, List.take_length] at hpa
        refine ⟨rfl, AL, avs, n, e2 ++ ext, m₁, h, _, tk, rfl, htk, ?_, ?_, ?_, fr_pinsP F₁ q, ?_⟩
        · rw [List.append_assoc, ← ht2]; exact hpa
        · rw [List.append_assoc, ← ht2]; exact hnd2.rest
        · intro p hp
          rcases List.mem_append.mp hp with hp | hp
          · exact he2 p hp
          · exact hext p hp
        · rw [List.append_assoc, ← ht2]; exact fun p hp => N₁ p (.tail _ hp)
  · rintro s' ⟨AL, avs, nA, ext, m9, h9, d9, tk9, rfl, htk9, hpa, hn9, hext, F9, N9⟩
    obtain ⟨t4, ht4⟩ : ∃ t, t = ext ++ tl := ⟨_, rfl⟩
    have sub4 : ∀ p ∈ tl, p ∈ t4 := fun p hp => by rw [ht4]; exact List.mem_append_right _ hp
    rw [← ht4] at hpa hn9 N9
    simp only [List.cons_append, List.nil_append] at N9
    replace h1 := sub4 _ h1
    replace h2 := sub4 _ h2
    obtain ⟨qa, w1, w2, w3, n8, hkv, hmq⟩ := hpq tg (hnp.mem_iff.mpr (.head _))
    replace hmq := sub4 _ hmq
    have hgk : valueAt (l.map fun p => (p.1, p.2.2)) (Str.ofString "{http://www.w3.org/XML/1998/namespace}space") = none := by
      refine PyProof.Rows.valueAt_none_of_not_mem fun hm => ?_
      rw [List.map_map, show ((fun x : Str × Value => x.1) ∘ fun p : Str × Tok × Value => (p.1, p.2.2)) = (fun p => p.1) from rfl, he.keys] at hm
      rcases hpo with rfl | ⟨_, _, rfl⟩ | ⟨_, _, _, _, rfl⟩ <;> simp only [List.map_cons, List.map_nil] at hm <;> revert hm <;> decide
    (k_with "getMethod ref" => ((with_reducible show wpAny _ _ (getMethod (Value.ref _) (PySem.Str.ofString "get") _) _ _ _); k_dflt (refine' method_get ?N ?m ?_; (case N => k_asm); (case m => k_mem))))
    (k_with "call builtin:dict.get" => ((with_reducible show wpAny _ _ (call (Value.builtin "dict.get") [Value.ref _, Value.str _ _]) _ _ _); k_dflt (refine' get_D (l := l) ?N ?m ?e ?nd ?sm ?hk ?_; (case N => k_asm); (case m => k_mem); (case e => rfl); (case nd => assumption); (case sm => assumption); (case hk => assumption))))
    (k_with "subscriptTail" => first
      | ((with_reducible show wpAny _ _ (subscriptTail _ _ (Value.ref _) (Value.str _ _)) _ _ _); k_dflt (refine' item_P ?N ?m ?d ?k ?_ ?hs; (case d => with_reducible exact hoD); (case N => k_asm); (case m => k_mem); (case k => with_reducible assumption); (case hs => with_unfolding_all rfl)))
      | ((with_reducible show wpAny _ _ (subscriptTail _ _ (Value.ref _) (Value.int 0 _)) _ _ _); k_dflt (refine' item_tup ?N ?m ?_ ?hs; (case N => k_asm); (case m => k_mem); (case hs => exact rfl)))
      | ((with_reducible show wpAny _ _ (subscriptTail _ (PySem.Expr.UnaryOp _ _ _) (Value.ref _) (Value.int _ _)) _ _ _); k_dflt (refine' item_lastL ?N ?m ?z ?_ ?hs; (case N => k_asm); (case m => k_mem); (case z => (first | lia | omega)); (case hs => exact rfl))))
    have hlt9 : (Str.ofString "<").length ≤ 1 := by decide
    have htl : tg.length ≤ 1 := by rcases htg with rfl | rfl | rfl <;> decide
    (k_with "binaryOp Add str str" => (with_reducible show wpAny _ _ (binaryOp Operator.Add (Value.str _ _) (Value.str _ _)) _ _ _); (refine' wpAny_with_toks (n := 1) ?kxt (ok_any (add_S ?kxa ?kxb ?kxc ?_)); (case kxt => walk_at "tpos"); (case kxa => with_reducible assumption); (case kxb => with_reducible assumption); (case kxc => exact Nat.le_of_ble_eq_true rfl)); intro tA tkA hlA htkA; (try dsimp only at htkA))
    (k_with "goW" => repeat' (first
      | (k_unfold; (try dsimp only))
      | ((fail_if_success (with_reducible show wpAny _ _ (PySem.execs (PySem.Stmt.If (PySem.Expr.Name (PySem.Str.ofString "attr_list") _) _ _ _ :: _) _) _ _ _)); first | walk1 | (dsimp only; walk1))
      | fail "no step"))
    walk_at "goW"
    rename_i n8w
    obtain ⟨w0, hw0⟩ : ∃ v, v = Value.str (Str.ofString "<" ++ tg) tA := ⟨_, rfl⟩
    rw [← hw0] at N'
    have hn10 : Nd [L + 1, tp, dx, ns, ps, nns, 123] t4 := nd_sub hn9 (.cons _ (.cons _ (.cons_cons _ (.cons_cons _ (.cons_cons _ (.cons_cons _ (.cons_cons _ (.cons _ (.cons_cons _ (.cons_cons _ .slnil))))))))))
    (with_reducible refine exec_join (WrP h₀ L s wm tp oc1 (parts ++ [w0]) ((dx, dictOf (tgtEs w wm dA et ds ns pm ps cm rs false 0 tig Tt) 18) :: (ns, W.listOf nst.toArray n2) :: (ps, W.listOf (pst ++ [Value.bool false] ++ [Value.bool false]).toArray (n3 + 1)) :: (nns, W.listOf (List.toArray []) nnn) :: (123, tabObj pt) :: t4) (inOrder prs)) ?_ ?_)
    · clear hret
      by_cases hp0 : inOrder prs = []
      · rw [hp0] at hpa ⊢
        have ha0 : avs = [] := by cases avs with
          | nil => rfl
          | cons _ _ => exact hpa.elim
        subst ha0
        walk_at "go"
        refine NextP.mk ⟨[], np + 1, _, _, _, _, rfl, by walk_at "tpos", Nat.zero_le _, rfl, fr_pinsP F' ⟨rfl, rfl, trivial⟩, ?_⟩
        · simp only [strValues, List.map_nil, List.append_nil]
          exact News.sub (by k_asm) (sub_cons memH2 (sub_cons memH3 (sub_cons memH4 (sub_cons memH5 (sub_cons memH6 (sub_cons memH8 (sub_cons memH9 fun p hp => memT10 hp)))))))
      · obtain ⟨v0, vr, rfl⟩ : ∃ v0 vr, avs = v0 :: vr := by
          cases avs with
          | nil =>
            cases hq : inOrder prs with
            | nil => exact absurd hq hp0
            | cons _ _ => rw [hq] at hpa; exact hpa.elim
          | cons v vr => exact ⟨v, vr, rfl⟩
        obtain ⟨hio, hil⟩ := inOrder_ok hpo
        have hpl6 := hpa.len
        have hz9 : (v0 :: vr).length ≤ 1000 := by rw [hpl6]; exact Nat.le_trans hil (Nat.le_of_ble_eq_true rfl)
        refine wpAny_with_toks (n := 1) (by walk_at "tpos") (ok_any ?_)
        walk_at "goL"
        k_dflt (refine' comp_pairs (f := attrW) (prs := inOrder prs) ?hh ?F ?N ?hm ?hpa ?hz ?cl ?ce ?kd ?nm ?hx ?hx2 ?hxx ?hi ?helt ?_ ?hs)
        case hh => exact c1.hh
        case F => k_asm
        case N => k_asm
        case hm => k_mem
        case hpa => exact hpa.mono fun p hp => by k_mem
        case hz => exact Nat.le_trans hil (Nat.le_of_ble_eq_true rfl)
        case cl => with_unfolding_all rfl
        case ce => decide
        case kd => exact rfl
        case nm => decide
        case hx => exact rfl
        case hx2 => exact rfl
        case hxx => decide
        case hs => (intro _; exact rfl)
        case hi =>
          intro Q' hQ'
          walk_at "go"
          exact hQ'
        case helt =>
          intro q hq u1 u2 I6 oI6 C6 oC6 D6 oD6 m6 h6 tk6 hC6 hx6 hy6 F6 N6
          obtain ⟨hqk, hqv⟩ := hio q hq
          have hqk1 : q.1.length ≤ 1 := Nat.le_of_eq hqk
          have hqv1 : (escA q.2).length ≤ 9 := escA8 hqv
          have hqv2 : q.2.length ≤ 8 := val_le8 hqv
          (k_with "call ref" => (with_reducible show wpAny _ _ (call (Value.ref 168) [Value.str _ _]) _ _ _); k_dflt (refine' attrib_spec ?c ?F ?N ?l ?_; (case F => k_asm); (case N => k_asm); (case c => walk_at "cx"); (case l => exact hqv2)); intro t' h' tk' htk' F' N')
          walk_at "go"
          (try dsimp only)
          rw [Str.empty_append]
          exact EltP.mk (by k_asm) (by k_asm)
        intro D6 l6 n6 h6 tk6 hl6 F6 N6
        walk_at "goG"
        refine join_L0 N6 (.head _) (by rw [hl6]; exact attrs_join hpo) ?_
        intro t' k'
        replace N6 := News.sub (l' := (AL, _) :: _) N6 fun p hp => .tail _ hp
        have hpw : (parts ++ [w0]).length ≤ 1000 := by simp only [List.length_append, List.length_cons, List.length_nil]; (first | lia | omega)
        walk_at "go"
        (first | intro htk9 | rename 1 ≤ _ => htk9)
        refine NextP.mk ⟨[(Txt.join (Str.ofString "") (l6.map (·.1)), t')], np + 1 + 1, _, _, _, _, rfl, htk9, Nat.le_refl _, ?_, fr_pinsP (by k_asm) ⟨rfl, rfl, trivial⟩, ?_⟩
        · rw [hl6]; exact join_one.trans (join_cat _)
        · simp only [strValues, List.map_cons, List.map_nil]
          exact News.sub (by k_asm) (sub_cons memH2 (sub_cons memH3 (sub_cons memH4 (sub_cons memH5 (sub_cons memH6 (sub_cons memH8 (sub_cons memH9 fun p hp => memT10 hp)))))))
    · rintro s' ⟨pp, nW, hW, dW, tkW, mW, rfl, htkW, hpp, hj, FW, NW⟩
      have hlen : (parts ++ [w0] ++ strValues pp).length ≤ 1000 := by simp only [List.length_append, strValues, List.length_map, List.length_cons, List.length_nil]; (first | lia | omega)
      walk_at "go"
      rw [hw0] at N'
      obtain ⟨nv, hnv⟩ : ∃ nv : Nat, h'.get? ns = some (W.listOf (nst ++ [Value.ref nv]).toArray (n2 + 1)) ∧ ns ≠ L ∧ h₀.get? ns = none := ⟨_, N' _ (.tail _ (.tail _ (.tail _ (.tail _ (.head _)))))⟩
      refine' hret nv ((Str.ofString "<" ++ tg, tA) :: (pp ++ [(Str.ofString ">", tkW)])) (nW + 1) (n2 + 1) (n3 + 1) ext _ _ _ _ ?j ?len ?nd hext ?tk F' ?nw
      case j => exact (jn hpp hj).trans (by rw [show cat (List.map attrW (inOrder prs)) = cat (List.map attrW (inOrder prs)) from rfl])
      case len => (simp only [List.length_cons, List.length_append, List.length_nil]; (first | lia | omega))
      case nd => (rw [← ht4]; exact hn10.rest)
      case tk => walk_at "tpos"
      case nw =>
        rw [show parts ++ strValues ((Str.ofString "<" ++ tg, tA) :: (pp ++ [(Str.ofString ">", tkW)])) = parts ++ [Value.str (Str.ofString "<" ++ tg) tA] ++ strValues pp ++ [Value.str (Str.ofString ">") tkW] by simp [strValues], ← ht4]
        exact news_cons (N' _ memH2) (news_cons (N' _ memH3) (news_cons hnv (news_cons (N' _ memH5) (news_cons (N' _ memH6) (news_cons (N' _ memH7) fun p hp => N' p (memT8 hp))))))
end
section
open PySem PySem.W PyProof.Rows PySem.Calls
theorem words_KS : PySem.Challenge.rw_nb0300_01.row.prog = PySem.Challenge.rw_nb0300_01.row.prog → hd.heap_1 = hd.heap_1 → True := by
  k_with_none
  k_fill
  k_with "k_mem" => first | exact memH0 | exact memH1 | exact memH2 | exact memH3 | exact memH4 | exact memH5 | exact memH6 | exact memH7 | exact memH8 | exact memH9 | exact memH10 | exact memH11 | exact memH12 | exact memH13 | exact memH14 | exact memH15 | exact memH16 | (with_reducible assumption) | (refine memT1 ?_; with_reducible assumption) | (refine memT2 ?_; with_reducible assumption) | (refine memT3 ?_; with_reducible assumption) | (refine memT4 ?_; with_reducible assumption) | (refine memT5 ?_; with_reducible assumption) | (refine memT6 ?_; with_reducible assumption) | (refine memT7 ?_; with_reducible assumption) | (refine memT8 ?_; with_reducible assumption) | (refine memT9 ?_; with_reducible assumption) | (refine memT10 ?_; with_reducible assumption) | (refine memT11 ?_; with_reducible assumption) | (refine memT12 ?_; with_reducible assumption) | (refine memT13 ?_; with_reducible assumption) | (refine memT14 ?_; with_reducible assumption) | (refine memT15 ?_; with_reducible assumption) | (refine memT16 ?_; with_reducible assumption) | (refine memT17 ?_; with_reducible assumption)
  k_with "k_upd" => first | (refine' upd0 ?a ?b; (case a => with_reducible assumption); (case b => k_dflt exact rfl)) | (refine' upd1 ?a ?b; (case a => with_reducible assumption); (case b => k_dflt exact rfl)) | (refine' upd2 ?a ?b; (case a => with_reducible assumption); (case b => k_dflt exact rfl)) | (refine' upd3 ?a ?b; (case a => with_reducible assumption); (case b => k_dflt exact rfl)) | (refine' upd4 ?a ?b; (case a => with_reducible assumption); (case b => k_dflt exact rfl)) | (refine' upd5 ?a ?b; (case a => with_reducible assumption); (case b => k_dflt exact rfl)) | (refine' upd6 ?a ?b; (case a => with_reducible assumption); (case b => k_dflt exact rfl)) | (refine' upd7 ?a ?b; (case a => with_reducible assumption); (case b => k_dflt exact rfl)) | (refine' upd8 ?a ?b; (case a => with_reducible assumption); (case b => k_dflt exact rfl)) | (refine' upd9 ?a ?b; (case a => with_reducible assumption); (case b => k_dflt exact rfl)) | (refine' upd10 ?a ?b; (case a => with_reducible assumption); (case b => k_dflt exact rfl)) | (refine' upd11 ?a ?b; (case a => with_reducible assumption); (case b => k_dflt exact rfl)) | (refine' upd12 ?a ?b; (case a => with_reducible assumption); (case b => k_dflt exact rfl)) | (refine' upd13 ?a ?b; (case a => with_reducible assumption); (case b => k_dflt exact rfl))
  k_with "k_updF" => first | (refine' updF0 ?a ?b; (case a => with_reducible assumption); (case b => k_dflt exact rfl)) | (refine' updF1 ?a ?b; (case a => with_reducible assumption); (case b => k_dflt exact rfl)) | (refine' updF2 ?a ?b; (case a => with_reducible assumption); (case b => k_dflt exact rfl)) | (refine' updF3 ?a ?b; (case a => with_reducible assumption); (case b => k_dflt exact rfl)) | (refine' updF4 ?a ?b; (case a => with_reducible assumption); (case b => k_dflt exact rfl)) | (refine' updF5 ?a ?b; (case a => with_reducible assumption); (case b => k_dflt exact rfl)) | (refine' updF6 ?a ?b; (case a => with_reducible assumption); (case b => k_dflt exact rfl)) | (refine' updF7 ?a ?b; (case a => with_reducible assumption); (case b => k_dflt exact rfl)) | (refine' updF8 ?a ?b; (case a => with_reducible assumption); (case b => k_dflt exact rfl)) | (refine' updF9 ?a ?b; (case a => with_reducible assumption); (case b => k_dflt exact rfl)) | (refine' updF10 ?a ?b; (case a => with_reducible assumption); (case b => k_dflt exact rfl)) | (refine' updF11 ?a ?b; (case a => with_reducible assumption); (case b => k_dflt exact rfl)) | (refine' updF12 ?a ?b; (case a => with_reducible assumption); (case b => k_dflt exact rfl)) | (refine' updF13 ?a ?b; (case a => with_reducible assumption); (case b => k_dflt exact rfl))
  k_with "cx" => exact CxA.le (by with_reducible assumption) (by decide)
  k_with "go" => repeat' (first
    | (k_unfold; (try dsimp only))
    | ((fail_if_success (with_reducible show wpAny _ _ (PySem.exec (PySem.Stmt.For _ _ _ _ _) _) _ _ _)); (fail_if_success (with_reducible show wpAny _ _ (PySem.exec (PySem.Stmt.While _ _ _ _) _) _ _ _)); (fail_if_success (with_reducible show wpAny _ _ (pyIter _) _ _ _)); (fail_if_success (with_reducible show wpAny _ _ (subscriptTail _ (PySem.Expr.Slice _ _ _ _) (Value.ref _) _) _ _ _)); first | walk1 | (dsimp only; walk1))
    | fail "no step")
  k_with "goJ" => repeat' (first
    | (k_unfold; (try dsimp only))
    | ((fail_if_success (with_reducible show wpAny _ _ (PySem.execs (PySem.Stmt.If _ _ (_ :: _) _ :: _) _) _ _ _)); (fail_if_success (with_reducible show wpAny _ _ (PySem.execs (PySem.Stmt.If (PySem.Expr.Attribute _ (PySem.Str.ofString "_data") _) _ _ _ :: _) _) _ _ _)); first | walk1 | (dsimp only; walk1))
    | fail "no step")
  k_with "goL" => repeat' (first
    | (k_unfold; (try dsimp only))
    | ((fail_if_success (with_reducible show wpAny _ _ (PySem.eval (PySem.Expr.ListComp _ _ _ _) _) _ _ _)); first | walk1 | (dsimp only; walk1))
    | fail "no step")
  k_with "goG" => repeat' (first
    | (k_unfold; (try dsimp only))
    | ((fail_if_success (with_reducible show wpAny _ _ (PySem.call (Value.builtin _) _) _ _ _)); first | walk1 | (dsimp only; walk1))
    | fail "no step")
  k_with "execs cons" => (try dsimp only); first | (with_reducible refine execs_one ?_) | (with_reducible refine execsS ?_)
  k_with "execs nil" => with_reducible refine wpAny_execs_nil ?_
  k_with "tpos" => (try dsimp only); first | exact Nat.succ_pos _ | assumption | (first | lia | omega)
  k_with "QS" => (try dsimp only); first | ((with_reducible refine QS_next (by first | exact Nat.succ_pos _ | assumption | (first | lia | omega)) ?_); intro tk htk) | ((with_reducible refine QS_any ?_); intro tk) | (with_reducible refine QS_ret ?_) | (with_reducible refine QS_brk ?_) | (with_reducible refine QS_cont ?_)
  k_with "QF" => (first | (with_reducible refine QF_ret (by k_asm) (by k_asm) ?_) | (with_reducible refine QF_next (by k_asm) (by k_asm) ?_)); intro kF kN
  k_with "storeName" => k_here; k_dflt (refine' storeP ?F ?N ?_ ?a ?b; (case F => k_asm); (case N => k_asm); (case a => rfl); (case b => rfl); k_whole); intro h' F' N'; (try k_sweep)
  k_with "eval Attribute Name" => k_here; (with_reducible show wpAny _ _ (eval (PySem.Expr.Attribute (PySem.Expr.Name (PySem.Str.ofString "self") _) _ _) (envOf _ _ _ _ _)) _ _ _); k_dflt (refine' attrR ?F ?X ?N ?s ?h1 ?h2 (attr_ok _ _ ?ok) ?hl ?hv ?_ ?hk ?hx; (case F => k_asm); (case X => k_asm); (case N => k_asm); (case s => exact rfl); (case h1 => k_mem); (case h2 => k_mem); (case ok => exact rfl); (case hl => k_get); (case hv => k_handed); (case hk => exact rfl); (case hx => exact rfl); k_whole); (try dsimp only)
  k_with "call builtin:list.append" => k_here; (with_reducible show wpAny _ _ (call (Value.builtin _) [Value.ref _, _]) _ _ _); k_dflt (refine' append_L ?k1 ?k2 ?k3 ?z ?_; (case k1 => k_asm); (case k2 => k_asm); (case k3 => k_upd); (case z => first | exact n_le (by with_reducible assumption) rfl | (first | lia | omega) | (simp only [strValues, List.length_map, List.length_append, List.length_cons, List.length_nil]; (first | lia | omega))); k_whole); intro h' F' N'; (try k_sweep)
  k_with "call builtin:str.replace" => (with_reducible show wpAny _ _ (call (Value.builtin "str.replace") [Value.str _ _, Value.str _ _, Value.str _ _]) _ _ _); k_dflt (refine' replace_P ?a ?b ?c ?d ?e ?_; (case a => (refine ltN ?_; first | assumption | (first | lia | omega))); (case b => (refine ltN ?_; first | assumption | (first | lia | omega))); (case c => decide); (case d => (first | lia | omega)); (case e => decide)); intro t' k' hk'; (try dsimp only at hk')
  k_with "bound" => first | exact BndAt.ofK (by k_asm) (by k_asm) (by assumption) | exact (BndAt.of (by k_asm) (by k_mem))
  k_with "callWith" => (with_reducible show wpAny _ _ (callWith _ (Value.builtin _) (_ :: _) _ _) _ _ _); refine PyProof.Rows.callWith_method1 ?_
  k_with "callWith ref" => k_here; (with_reducible show wpAny _ _ (callWith _ (Value.ref _) _ (backTo _ (starEach (_ :: _) _)) []) _ _ _); k_dflt (refine' callWith_B ?kb ?_; (case kb => walk_at "bound"); k_whole)
  k_with "And" => (with_reducible show BndAt _ _ _ _ ∧ _); k_dflt (refine ⟨by walk_at "bound", ?_⟩); (try dsimp only [List.nil_append, List.cons_append])
  k_with "delItem ref ref" => k_here; (with_reducible show wpAny _ _ (delItem (Value.ref _) (Value.ref _)) _ _ _); k_dflt (refine' del_all ?F ?N ?U ?z ?_; (case F => k_asm); (case N => k_asm); (case U => k_updF); (case z => first | exact n_le (by with_reducible assumption) rfl | (first | lia | omega) | (simp only [strValues, List.length_map]; (first | lia | omega)))); intro h' n' F' N'; (try dsimp only at N')
  k_with "call ref" => k_here; (with_reducible show wpAny _ _ (call (Value.ref 98) [Value.ref _]) _ _ _); k_dflt (refine' join_B ?b ?l rfl ?j ?t ?_; (case b => walk_at "bound"); (case l => exact News.isList (by k_asm) (by k_mem)); (case j => assumption); (case t => ((try dsimp only); first | assumption | (first | lia | omega)))); intro t' k' hk'
  k_with "call ref" => k_here; (with_reducible show wpAny _ _ (call (Value.ref _) [Value.str _ _]) _ _ _); k_dflt (refine' append_B ?F ?N ?b ?U ?z ?_; (case F => k_asm); (case N => k_asm); (case b => k_mem); (case U => k_upd); (case z => first | exact n_le (by with_reducible assumption) rfl | (first | lia | omega) | (simp only [strValues, List.length_append, List.length_map, List.length_cons, List.length_nil]; (first | lia | omega)))); intro h' F' N'; (try dsimp only at N')
  k_with "truthy str" => (with_reducible show wpAny _ _ (PySem.truthy (Value.str _ _)) _ _ _); refine truthy_yes (by assumption) (by (first | lia | omega)) ?_
  k_with "binaryOp Add ref ref" => k_here; (with_reducible show wpAny _ _ (binaryOp _ (Value.ref _) (Value.ref _)) _ _ _); k_dflt (refine' add_L ?F ?N ?a ?b ?z ?_; (case F => k_asm); (case N => k_asm); (case a => exact News.isList (by k_asm) (by k_mem)); (case b => exact News.isList (by k_asm) (by k_mem)); (case z => (simp only [List.length_nil, List.length_cons]; (first | lia | omega)))); intro D' h' F' N' l1; (try k_lt l1); (try k_sweep)
  k_with "hh" => first | exact CxA.hh (by with_reducible assumption) | assumption
  k_with "assign Tuple" => k_here; (with_reducible show wpAny _ _ (assign (Expr.Tuple _ _ _) _ (Value.ref _)) _ _ _); k_dflt (refine' unpackN_ ?F ?N ?T ?k1 ?k2 ?k3 ?_; (case F => k_asm); (case N => k_asm); (case T => refine News.isTup (by k_asm) (by k_mem)); (case k1 => walk_at "hh"); (case k2 => exact rfl); (case k3 => exact rfl)); intro h' F' N'; (try k_sweep)
  k_with "truthy ref" => (with_reducible show wpAny _ _ (PySem.truthy (Value.ref _)) _ _ _); k_dflt (first | (refine truthy_L (b := false) (by k_asm) (by k_mem) rfl ?_ ?_) | (refine truthy_L (b := true) (by k_asm) (by k_mem) rfl ?_ ?_)); (case' refine_1 => first | exact n_le (by with_reducible assumption) rfl | (first | lia | omega) | (simp only [strValues, List.length_map, List.length_cons, List.length_nil] at *; (first | lia | omega))); skip
  k_with "call builtin:list.pop" => k_here; (with_reducible show wpAny _ _ (call (Value.builtin _) [Value.ref _]) _ _ _); k_dflt (refine' pop_L ?F ?N ?U ?z ?_; (case F => k_asm); (case N => k_asm); (case U => k_upd); (case z => first | exact n_le (by with_reducible assumption) rfl | (first | lia | omega) | (simp only [List.length_append, List.length_cons, List.length_nil]; (first | lia | omega)))); intro h' F' N'; (try dsimp only at N')
  k_with "call builtin:len" => k_here; (with_reducible show wpAny _ _ (call (Value.builtin "len") [Value.ref _]) _ _ _); k_dflt (refine' len_L ?N ?m ?z ?_; (case N => k_asm); (case m => k_mem); (case z => first | exact n_le (by with_reducible assumption) rfl | (first | lia | omega) | (simp only [strValues, List.length_map, List.length_append, List.length_cons, List.length_nil]; (first | lia | omega)))); intro t'
  k_with "sset" => first | assumption | exact sset_fresh _
  k_with "getMethod ref" => k_here; (with_reducible show wpAny _ _ (getMethod (Value.ref _) (PySem.Str.ofString "_iter_namespaces") _) _ _ _); k_dflt (refine' method_shadow ?k1 ?k2 ?k3 ?k4 ?k5 ?k6 ?k7 ?k8 ?k9 ?k10 ?k11 ?_; (case k1 => k_asm); (case k2 => k_asm); (case k3 => k_inst); (case k4 => k_is); (case k5 => k_is); (case k6 => k_is); (case k7 => k_is); (case k8 => k_is); (case k9 => k_is); (case k10 => k_get); (case k11 => k_handed); k_whole)
  k_with "getMethod ref" => (with_reducible show wpAny _ _ (getMethod (Value.ref _) (PySem.Str.ofString "_write") _) _ _ _); walk_at "last getMethod ref"
  k_with "getMethod ref" => k_here; (with_reducible show wpAny _ _ (getMethod (Value.ref _) (PySem.Str.ofString "add") _) _ _ _); k_dflt (refine' sset_method ?N ?m ?o ?b ?_; (case N => k_asm); (case m => k_mem); (case o => walk_at "sset"); (case b => decide))
  k_with "call builtin:set.add" => k_here; (with_reducible show wpAny _ _ (call (Value.builtin _) [Value.ref _, Value.str _ _]) _ _ _); k_dflt (refine' sset_add ?F ?N ?U ?o ?b ?_; (case F => k_asm); (case N => k_asm); (case U => k_updF); (case o => walk_at "sset"); (case b => decide)); intro h' so' F' N' hS'; (try dsimp only at N')
  k_with "compareOp NotIn str ref" => k_here; (with_reducible show wpAny _ _ (compareOp _ (Value.str _ _) (Value.ref _)) _ _ _); k_dflt (refine' sset_notin ?N ?m ?o ?b ?_; (case N => k_asm); (case m => k_mem); (case o => walk_at "sset"); (case b => first | decide | (split <;> decide)))
  k_with "compareOp In str ref" => k_here; (with_reducible show wpAny _ _ (compareOp _ (Value.str _ _) (Value.ref _)) _ _ _); k_dflt (refine' sset_in ?N ?m ?o ?b ?_; (case N => k_asm); (case m => k_mem); (case o => walk_at "sset"); (case b => first | decide | (split <;> decide)))
  intros
  trivial
theorem start_spec : ∀ {w : World} {p : Program} {loose : List Str} {mean : ExcName → Option Value} {mg mb : Str → Option Value} {A : Around} {env : Env} {outer : List Env} {base h₀ : Heap} {L : Addr} {m : Str → Option Value} {s : Shared} {Q : Value → Shared → Prop} {x dx ds tp wm dA et ns pm ps np n0 n1 n2 n3 l0 tpl ntp at_ nat nns nnn : Nat} {cm rs : Bool} {tig tu tx : Tok} {T : Nat → Tok} {parts rest nst pst : List Value} {tl : List (Addr × Obj)} {tg : Str} {tt : Tok} {pt : Array Value} {l : List (Str × Tok × Value)} {prs : List (Str × Str)}
    (_ : CxA 8 w p loose mean mg mb A env outer base h₀ L) (_ : Fr h₀ L s.heap m)
    (_ : News h₀ L s.heap ((tp, W.listOf (List.toArray parts) np) :: (dx, dictOf (tgtEs w wm dA et ds ns pm ps cm rs false 0 tig T) 18) :: (ns, W.listOf (List.toArray nst) n2) :: (ps, W.listOf (List.toArray (pst ++ [.bool false])) n3) :: (at_, dictOf (entS w l) nat) :: (nns, W.listOf (List.toArray []) nnn) :: (123, tabObj pt) :: tl))
    (_ : Nd [tp, dx, ns, ps, at_, nns, 123] tl)
    (_ : 0 < s.toks)
    (_ : CodeHd h₀ 125 123)
    (_ : TabOk pt tl)
    (_ : (x, instObj 150 dx) ∈ tl)
    (_ : (wm, bndObj "list.append" (.ref tp)) ∈ tl)
    (_ : (ds, W.listOf (List.toArray (.ref l0 :: rest)) n0) ∈ tl)
    (_ : (l0, W.listOf (List.toArray [.ref tpl]) n1) ∈ tl)
    (_ : (tpl, nsTup tu tx ntp) ∈ tl)
    (_ : ∀ v ∈ rest, ∃ a n, v = .ref a ∧ (a, W.listOf (List.toArray []) n) ∈ (nns, W.listOf (List.toArray []) nnn) :: tl)
    (_ : (at_ == sysModules) = false)
    (_ : parts.length ≤ 900)
    (_ : rest.length ≤ 10)
    (_ : nst.length ≤ 100)
    (_ : pst.length ≤ 100)
    (_ : tg = Str.ofString "r" ∨ tg = Str.ofString "a" ∨ tg = Str.ofString "b")
    (_ : EntsOf l prs)
    (_ : PairsOk prs)
    (_ : ∀ (nv : Nat) pp np' n2' n3' pt' ext h' d' tk', Txt.join (Str.ofString "") (pp.map (·.1)) = Str.ofString "<" ++ tg ++ cat ((inOrder prs).map attrW) ++ Str.ofString ">" → pp.length ≤ 3 → TabOk pt' (ext ++ tl) → (∀ p ∈ ext, ∀ q ∈ tl, @Ne Nat q.1 p.1) → Nd [tp, dx, ns, ps, nns, 123] (ext ++ tl) → 0 < tk' → Fr h₀ L h' m → News h₀ L h' ((tp, W.listOf (List.toArray (parts ++ strValues pp)) np') :: (dx, dictOf (tgtEs w wm dA et ds ns pm ps cm true false 0 tig T) 18) :: (ns, W.listOf (List.toArray (nst ++ [.ref nv])) n2') :: (ps, W.listOf (List.toArray (pst ++ [.bool false] ++ [.bool false])) n3') :: (nns, W.listOf (List.toArray []) nnn) :: (123, tabObj pt') :: (ext ++ tl)) → Q .none { s with heap := h', drawn := d', toks := tk' }),
    wpAny (model PySem.Challenge.rw_nb0300_01.row.prog w) A (call (.ref 126) [.ref x, .str tg tt, .ref at_, .ref nns]) Q Nay s := by
  intro w p loose mean mg mb A env outer base h₀ L m s Q x dx ds tp wm dA et ns pm ps np n0 n1 n2 n3 l0 tpl ntp at_ nat nns nnn cm rs tig tu tx Tt parts rest nst pst tl tg tt pt l prs c F N hn ht C hpt h1 h2 h0 h3 h4 h5 hsm hl4 hr hns hp htg he hpo hret
  have htl : tg.length ≤ 1 := by rcases htg with rfl | rfl | rfl <;> decide
  have hl2 : l.length ≤ 2 := by
    have := congrArg List.length he.keys
    simp only [List.length_map] at this
    rcases hpo with rfl | ⟨_, _, rfl⟩ | ⟨_, _, _, _, rfl⟩ <;> simp_all
  have hlk : ∀ p ∈ l, p.1 = S "m" ∨ p.1 = S "k" := fun p hp => by
    have : p.1 ∈ prs.map (·.1) := he.keys ▸ List.mem_map_of_mem hp
    rcases hpo with rfl | ⟨_, _, rfl⟩ | ⟨_, _, _, _, rfl⟩ <;> simp_all
  have htgN : IsName tg := by rcases htg with h | h | h <;> simp [IsName, h]
  have hlN : ∀ p ∈ l, IsName p.1 := fun p hp => by rcases hlk p hp with h | h <;> simp [IsName, h, S]
  have hnd : (l.map (·.1)).Nodup := by
    rw [he.keys]
    rcases hpo with rfl | ⟨_, _, rfl⟩ | ⟨_, _, _, _, rfl⟩
    · exact List.nodup_nil
    · simp
    · simp only [List.map_cons, List.map_nil]; decide
  have X := c.X
  k_dflt (refine' enterAC (ps := [(Str.ofString "qname_text", .none), (Str.ofString "new_namespaces", .ref nns), (Str.ofString "attrs", .ref at_), (Str.ofString "tag", .str tg tt)]) ?c ?F ?N ?ho ?hcd ?hb ?hkd ?hnd ?hps ?_ ?c2 ?c3 ?c4; (case c => assumption); (case F => k_asm); (case N => k_asm); (case ho => k_is); (case hcd => k_is); (case hb => first | exact BindsTo.of_eq rfl | exact binds_K (by k_in) rfl (by k_is) rfl rfl rfl); (case hkd => exact rfl); (case hnd => decide +kernel); (case hps => (intro _; exact rfl)); (case c2 => exact rfl); (case c3 => exact rfl); (case c4 => exact rfl); k_whole)
  intro A1 g1 L1 h1' tk0 cells c1 X1 FG1 F1 N1 Y1 lN1
  have T1 := c1.T
  have C1 := CodeHd.keeps C FG1.keep
  have hc1 := (nd_two hn rfl lN1).swap
  k_cells Y1
  (try simp only [List.cons_append, List.nil_append] at N1)
  (k_with "eval Lambda" => k_here; k_dflt (refine' kla_eval ?d0 ?_; (case d0 => exact rfl)))
  (k_with "exec Assign cons DictComp" => k_here; k_dflt (refine' assign_dc ?F0 ?le ?sw ?cl ?ce ?kd ?nm ?hx ?hy ?hp ?_ ?hs; (case F0 => k_asm); (case le => exact rfl); (case sw => with_unfolding_all rfl); (case cl => with_unfolding_all rfl); (case ce => decide); (case kd => exact rfl); (case nm => decide); (case hx => exact rfl); (case hy => exact rfl); (case hp => exact rfl); (case hs => (intro _; exact rfl))))
  (k_with "updT" => first | exact updT5 (by with_reducible assumption) | exact updT6 (by with_reducible assumption) | exact updT7 (by with_reducible assumption) | exact updT8 (by with_reducible assumption) | exact updT9 (by with_reducible assumption) | exact updT10 (by with_reducible assumption) | exact updT11 (by with_reducible assumption) | exact updT12 (by with_reducible assumption))
  (k_with "goC" => repeat' (first
    | (k_unfold; (try dsimp only))
    | ((fail_if_success (with_reducible show wpAny _ _ (PySem.call (Value.ref _) _ _) _ _ _)); first | walk1 | (dsimp only; walk1))
    | fail "no step"))
  walk_at "go"
  k_dflt (refine' set_star_eval ?F ?N ?X ?c ?s ?_; (case F => k_asm); (case N => k_asm); (case X => k_asm); (case c => first | k_is | kernel_rfl!); (case s => exact rfl))
  intro dQ hQ FQ NQ lQ
  have hatQ : @Ne Nat at_ dQ := Nat.ne_of_lt (lQ (at_, _) (by k_mem))
  k_lt lQ
  walk_at "go"
  k_dflt (refine' tset_add (vals := []) ?F ?N ?U ?S ?n ?x ?_; (case F => k_asm); (case N => k_asm); (case U => k_updF); (case S => exact tset_fresh); (case n => decide); (case x => (intro v hv; cases hv)))
  intro h1' so1 F1' N1' hS1
  (try dsimp only at N1')
  walk_at "go"
  k_dflt (refine' tset_star (l := l) c1.hh ?F ?N ?U ?m ?e ?d ?sm ?S ?n ?nd ?fr ?_; (case F => k_asm); (case N => k_asm); (case U => k_updF); (case m => k_mem); (case e => rfl); (case d => exact hatQ); (case sm => assumption); (case S => exact hS1); (case n => simp only [List.nil_append, List.length_cons, List.length_nil]; (first | lia | omega)); (case nd => exact hnd))
  case fr =>
    intro p hp v hv
    simp at hv
    subst hv
    rcases hlk p hp with e | e <;> rw [e] <;> rcases htg with rfl | rfl | rfl <;> exact is_ne (by decide)
  intro h2' so2 ks tk2 F2' N2' hS2 hks htk2
  (try dsimp only at N2')
  walk_at "go"
  k_dflt (refine' wpAny_with_toks (n := 1) (by walk_at "tpos") (lam_any ?F ?N ?T ?C ?cd ?U ?pt ?pl ?pc ?q ?cl ?_); (case F => k_asm); (case N => k_asm); (case T => k_asm); (case C => exact C1); (case cd => exact rfl); (case pt => assumption); (case pl => rfl); (case pc => rfl); (case q => rfl); (case cl => exact rfl); (case U => walk_at "updT"))
  intro fL cL ocL vsL tL ctv pt2 ext hL tkL FL NL hext hlf hxf hpt2 hcm hcd1 hcd2 htL
  (try dsimp only at htL)
  (try dsimp only at NL)
  rename Nd _ _ => hn5
  have hn6 := nd_lam hn5 rfl hext hlf hxf
  have hextP : ∀ p ∈ ext, ∀ q ∈ tl, @Ne Nat q.1 p.1 := fun p hp q hq => Nat.ne_of_lt (hext p hp q (List.mem_of_mem_drop (i := 12) hq))
  obtain ⟨tl2, htl2⟩ : ∃ t, t = ext ++ tl := ⟨_, rfl⟩
  rw [← htl2] at NL hpt2 hcm hn6
  have sub2 : ∀ p ∈ tl, p ∈ tl2 := fun p hp => by rw [htl2]; exact List.mem_append_right _ hp
  replace h0 := sub2 _ h0
  replace h1 := sub2 _ h1
  replace h2 := sub2 _ h2
  replace h3 := sub2 _ h3
  replace h4 := sub2 _ h4
  replace h5 : ∀ v ∈ rest, ∃ a n, v = .ref a ∧ (a, W.listOf (List.toArray []) n) ∈ (nns, W.listOf (List.toArray []) nnn) :: tl2 := fun v hv => by
    obtain ⟨a, n, e, hm⟩ := h5 v hv
    exact ⟨a, n, e, sub_cons memH0 (fun p hp => memT1 (sub2 p hp)) _ hm⟩
  clear hlf hxf hext hn5
  (dsimp only; walk1)
  k_dflt (refine' sorted_names ?hh ?hu ?F ?N ?m ?S ?h1 ?h3 ?ht ?hf ?_; (case hh => exact c1.hh); (case F => k_asm); (case N => k_asm); (case m => k_mem); (case S => exact hS2); (case hu => exact c1.unit (Nat.le_of_ble_eq_true rfl)); (case ht => walk_at "tpos"))
  case h1 => simp
  case h3 => (have hkl := KeyVals.length hks; simp only [List.length_map, List.length_cons, List.length_nil] at hkl; simp only [List.length_append, List.length_cons, List.length_nil]; (first | lia | omega))
  case hf =>
    intro v hv
    obtain ⟨xv, tv, rfl, hxv⟩ : ∃ x t, v = .str x t ∧ IsName x := by
      rcases List.mem_append.mp hv with hv | hv
      · have e : v = .str tg tt := by simpa using hv
        exact ⟨tg, tt, e, htgN⟩
      · obtain ⟨x, t, hx, e⟩ := kv_mem hks hv
        obtain ⟨p, hp, rfl⟩ := List.mem_map.mp hx
        exact ⟨_, t, e, hlN p hp⟩
    intro s9 nw9 Q9 F9 N9 hs9 ht9 hQ9
    have hm9 := hs9 (fL, _) (.head _)
    have hc9 := hs9 _ (by k_mem : (cL, ocL) ∈ _)
    refine wpAny_call ?_
    k_dflt (refine' kla_code ?k1 ?k2 ?k3 ?k4 ?k5 ?kA ?kF ?kK ?k6 ?k7 ?k8 ?k9 ?kB ?_ ?c2 ?c3 ?c4 ?c5; (case kA => exact c1.hf); (case kF => exact c1.hl); (case kK => exact c1.hk); (case k1 => exact c1.B); (case k2 => exact F9); (case k3 => exact c1.X); (case k4 => exact N9); (case k5 => exact c1.T); (case k6 => exact hm9); (case k7 => exact codeRec_news N9 hc9 hcd1 hcd2); (case k8 => (have := c1.hd; show A1.depth < _; (first | lia | omega))); (case k9 => exact rfl); (case c5 => decide); (case kB => exact locs rfl); (case c2 => exact rfl); (case c3 => exact rfl); (case c4 => exact rfl); k_whole)
    intro g9 L9 h9 FG9 F9' N9' B9 X9 T9
    (try dsimp only)
    walk_at "go"
    k_dflt (refine' wpAny_with_toks (n := 1) (by walk_at "tpos") (split1 F9' N9' hxv.split hxv.len ?_))
    intro D8 t8 h8 tk8 F8 N8 l8 ht8
    (try dsimp only at ht8)
    refine leaveK_ F8 N8 fun kF kN => ?_
    exact hQ9 D8 xv t8 0 h8 tk8 kF kN l8 ht8
  intro DL vsS nS hS dS tkS hperm FS NS lS htS
  obtain ⟨nms, hnp, hnv⟩ := KeyVals.perm (xs := tg :: l.map (·.1)) (by exact ⟨⟨tt, rfl⟩, hks⟩) hperm
  have hnm : ∀ x ∈ nms, IsName x := fun x hx => by
    rcases List.mem_cons.mp (hnp.mem_iff.mp hx) with rfl | hx
    · exact htgN
    · obtain ⟨p, hp, rfl⟩ := List.mem_map.mp hx
      exact hlN p hp
  have hnn : nms.Nodup := hnp.nodup_iff.mpr (List.nodup_cons.mpr ⟨fun h => by
    obtain ⟨p, hp, e⟩ := List.mem_map.mp h
    rcases hlk p hp with e2 | e2 <;> rw [e2] at e <;> rcases htg with rfl | rfl | rfl <;> exact absurd e (by decide), hnd⟩)
  k_lt lS
  k_dflt (refine' dc_names2 ?hh ?F ?N ?ll9 ?len ?kv ?nd ?nm ?t ?kx ?k1 ?k2 ?db ?turn ?_; (case hh => exact c1.hh); (case F => k_asm); (case N => exact NS); (case ll9 => exact .head _); (case len => (rw [hnv.length, hnp.length_eq]; simp only [List.length_cons, List.length_map]; (first | lia | omega))); (case kv => exact hnv); (case nd => exact hnn); (case nm => exact hnm); (case t => exact htS); (case kx => exact rfl); (case k1 => (intro _; exact rfl)); (case k2 => (intro _; exact rfl)); (case db => decide))
  case turn =>
    intro z tz nwT hT tkT IT oIT CT oCT DT oDT mT QT hz htT hsT hCT hxT FT NT hretT
    have q1 := hsT (L1 + 1 + 1, _) (by k_mem)
    have q2 := hsT (_, methodObj (.ref 90) (.ref x)) (by k_mem)
    have q3 := hsT (x, instObj 150 dx) (by k_mem)
    have q4 := hsT (dx, _) (by k_mem)
    have q5 := hsT (ds, _) (by k_mem)
    have q6 := hsT (l0, _) (by k_mem)
    have q7 := hsT (tpl, _) (by k_mem)
    walk_at "goC"
    k_dflt (refine' call_meth NT (memT3 q2) (qname_code (rest := rest) ?c ?F ?N ?q1 ?q2 ?q3 ?q4 ?q5 ?q6 ?q7 ?q8 ?_))
    case F => exact FT
    case N => exact NT
    case q1 => exact memT3 q3
    case q2 => exact memT3 q4
    case q3 => exact memT3 q5
    case q4 => exact memT3 q6
    case q7 => exact memT3 q7
    case c => exact c1.le (by decide)
    case q5 => (intro v hv; obtain ⟨a, n, e, hm⟩ := h5 v hv; exact ⟨a, n, e, memT3 (hsT _ (sub_cons (by k_mem) (fun p hp => by k_mem) _ hm))⟩)
    case q6 => assumption
    case q8 => exact hz
    intro D7 t71 t72 t73 n7 h7' tk7 htk7 F7 N7 l7
    exact hretT D7 t71 t72 t73 n7 h7' tk7 F7 N7 l7
  intro DP kvs nwP oD hP tkP FP NP hoD offP hsP hps htP
  have hn8 := lS.rest.rest.rest.rest.rest.rest
  have hs6 := fun p hp => hsP p (List.mem_of_mem_drop (i := 6) hp)
  have hn9 := nd_newN hn8 rfl (fun p hp => offP p (hs6 p hp))
  obtain ⟨oc1, hoc1, hm1⟩ : ∃ o, o.data = .cell (some (.ref x)) ∧ (L1 + 1, o) ∈ nwP := ⟨_, by assumption, hsP _ (by k_mem)⟩
  have hpq : ∀ z ∈ nms, ∃ (a : Nat) (t1 t2 t3 : Tok) (n : Nat), (z, Value.ref a) ∈ kvs ∧ (a, tup3 z t1 t2 t3 n) ∈ offs [DP, L1 + 1, tp, dx, ns, ps, at_, nns, 123] nwP := fun z hz => by
    obtain ⟨v, hv, a, t1, t2, t3, n, rfl, hm, ha⟩ := hps z hz
    exact ⟨a, t1, t2, t3, n, hv, mem_offs hm (not_as (led := List.drop 6 _) (tl := tl2) rfl offP hm fun q hq => ha q (List.mem_of_mem_drop hq))⟩
  have hs8 : ∀ p ∈ tl2, p ∈ offs [DP, L1 + 1, tp, dx, ns, ps, at_, nns, 123] nwP := fun p hp => mem_offs (hsP p (by k_mem)) (hn9.2 p hp)
  have hn10 := nd_offs (nw := nwP) hn9
  have NPP : News g1 L1 hP ((DP, oD) :: (L1 + 1, oc1) :: (tp, W.listOf (List.toArray parts) np) :: (dx, dictOf (tgtEs w wm dA et ds ns pm ps cm rs false 0 tig Tt) 18) :: (ns, W.listOf (List.toArray nst) n2) :: (ps, W.listOf (List.toArray (pst ++ [.bool false])) n3) :: (at_, dictOf (entS w l) nat) :: (nns, W.listOf (List.toArray []) nnn) :: (123, tabObj pt2) :: offs [DP, L1 + 1, tp, dx, ns, ps, at_, nns, 123] nwP) := by
    refine news_cons (NP _ (.head _)) (news_cons (NP _ (.tail _ hm1)) (news_cons (NP _ (.tail _ (hsP _ ?a1))) (news_cons (NP _ (.tail _ (hsP _ ?a2))) (news_cons (NP _ (.tail _ (hsP _ ?a3))) (news_cons (NP _ (.tail _ (hsP _ ?a4))) (news_cons (NP _ (.tail _ (hsP _ ?a5))) (news_cons (NP _ (.tail _ (hsP _ ?a6))) (news_cons (NP _ (.tail _ (hsP _ ?a7))) fun q hq => NP q (.tail _ (offs_sub hq))))))))))
    case a1 => k_mem
    case a2 => k_mem
    case a3 => k_mem
    case a4 => k_mem
    case a5 => k_mem
    case a6 => k_mem
    case a7 => k_mem
  replace FP := fr_cons FP
  replace h0 := hs8 _ h0
  replace h1 := hs8 _ h1
  replace h2 := hs8 _ h2
  clear NP hsP hs6 hps offP hm1 hn9 hn8 NS lS FS NL hn6 hcm
  refine QS_next (by walk_at "tpos") ?_
  intro tkR htkR
  k_dflt (refine' rest_out (o := (hd.heap_1 w.params).lookup 126) ?h c1 ?g; (case h => k_is))
  intro c9
  refine' start_rest c9 (fr_pinsP FP ⟨rfl, rfl, rfl, rfl, rfl, rfl, trivial⟩) NPP hn10 htkR hoc1 h1 h2 hl4 hns hp htg he hpo hsm hoD hnm hnp hpq ?_
  intro nv pp np' n2' n3' ext' m' h' d' tk' hj hlen hnd9 _ htk F' N'
  refine QF_next F' N' fun kF kN => ?_
  have hs9 : ∀ p ∈ ext ++ tl, p ∈ ext' ++ offs [DP, L1 + 1, tp, dx, ns, ps, at_, nns, 123] nwP := fun p hp => List.mem_append_right _ (hs8 p (htl2 ▸ hp))
  refine hret nv pp np' n2' n3' pt2 ext h' d' tk' hj hlen (htl2 ▸ hpt2) hextP (nd_mono hnd9 hs9) htk kF (News.sub kN (sub_cons memH0 (sub_cons memH1 (sub_cons memH2 (sub_cons memH3 (sub_cons memH4 (sub_cons memH5 fun p hp => memT6 (hs9 p hp))))))))
end
section
open PySem PySem.W PyProof.Rows PySem.Calls
theorem words_KFl : PySem.Challenge.rw_nb0300_01.row.prog = PySem.Challenge.rw_nb0300_01.row.prog → hd.heap_1 = hd.heap_1 → True := by
  k_with_none
  k_fill
  k_with "k_mem" => first | exact memH0 | exact memH1 | exact memH2 | exact memH3 | exact memH4 | exact memH5 | exact memH6 | exact memH7 | exact memH8 | exact memH9 | exact memH10 | exact memH11 | exact memH12 | exact memH13 | exact memH14 | exact memH15 | exact memH16 | (with_reducible assumption) | (refine memT1 ?_; with_reducible assumption) | (refine memT2 ?_; with_reducible assumption) | (refine memT3 ?_; with_reducible assumption) | (refine memT4 ?_; with_reducible assumption) | (refine memT5 ?_; with_reducible assumption) | (refine memT6 ?_; with_reducible assumption) | (refine memT7 ?_; with_reducible assumption) | (refine memT8 ?_; with_reducible assumption) | (refine memT9 ?_; with_reducible assumption) | (refine memT10 ?_; with_reducible assumption) | (refine memT11 ?_; with_reducible assumption) | (refine memT12 ?_; with_reducible assumption) | (refine memT13 ?_; with_reducible assumption) | (refine memT14 ?_; with_reducible assumption) | (refine memT15 ?_; with_reducible assumption) | (refine memT16 ?_; with_reducible assumption) | (refine memT17 ?_; with_reducible assumption)
  k_with "k_upd" => first | (refine' upd0 ?a ?b; (case a => with_reducible assumption); (case b => k_dflt exact rfl)) | (refine' upd1 ?a ?b; (case a => with_reducible assumption); (case b => k_dflt exact rfl)) | (refine' upd2 ?a ?b; (case a => with_reducible assumption); (case b => k_dflt exact rfl)) | (refine' upd3 ?a ?b; (case a => with_reducible assumption); (case b => k_dflt exact rfl)) | (refine' upd4 ?a ?b; (case a => with_reducible assumption); (case b => k_dflt exact rfl)) | (refine' upd5 ?a ?b; (case a => with_reducible assumption); (case b => k_dflt exact rfl)) | (refine' upd6 ?a ?b; (case a => with_reducible assumption); (case b => k_dflt exact rfl)) | (refine' upd7 ?a ?b; (case a => with_reducible assumption); (case b => k_dflt exact rfl)) | (refine' upd8 ?a ?b; (case a => with_reducible assumption); (case b => k_dflt exact rfl)) | (refine' upd9 ?a ?b; (case a => with_reducible assumption); (case b => k_dflt exact rfl)) | (refine' upd10 ?a ?b; (case a => with_reducible assumption); (case b => k_dflt exact rfl)) | (refine' upd11 ?a ?b; (case a => with_reducible assumption); (case b => k_dflt exact rfl)) | (refine' upd12 ?a ?b; (case a => with_reducible assumption); (case b => k_dflt exact rfl)) | (refine' upd13 ?a ?b; (case a => with_reducible assumption); (case b => k_dflt exact rfl))
  k_with "k_updF" => first | (refine' updF0 ?a ?b; (case a => with_reducible assumption); (case b => k_dflt exact rfl)) | (refine' updF1 ?a ?b; (case a => with_reducible assumption); (case b => k_dflt exact rfl)) | (refine' updF2 ?a ?b; (case a => with_reducible assumption); (case b => k_dflt exact rfl)) | (refine' updF3 ?a ?b; (case a => with_reducible assumption); (case b => k_dflt exact rfl)) | (refine' updF4 ?a ?b; (case a => with_reducible assumption); (case b => k_dflt exact rfl)) | (refine' updF5 ?a ?b; (case a => with_reducible assumption); (case b => k_dflt exact rfl)) | (refine' updF6 ?a ?b; (case a => with_reducible assumption); (case b => k_dflt exact rfl)) | (refine' updF7 ?a ?b; (case a => with_reducible assumption); (case b => k_dflt exact rfl)) | (refine' updF8 ?a ?b; (case a => with_reducible assumption); (case b => k_dflt exact rfl)) | (refine' updF9 ?a ?b; (case a => with_reducible assumption); (case b => k_dflt exact rfl)) | (refine' updF10 ?a ?b; (case a => with_reducible assumption); (case b => k_dflt exact rfl)) | (refine' updF11 ?a ?b; (case a => with_reducible assumption); (case b => k_dflt exact rfl)) | (refine' updF12 ?a ?b; (case a => with_reducible assumption); (case b => k_dflt exact rfl)) | (refine' updF13 ?a ?b; (case a => with_reducible assumption); (case b => k_dflt exact rfl))
  k_with "cx" => exact CxA.le (by with_reducible assumption) (by decide)
  k_with "go" => repeat' (first
    | (k_unfold; (try dsimp only))
    | ((fail_if_success (with_reducible show wpAny _ _ (PySem.exec (PySem.Stmt.For _ _ _ _ _) _) _ _ _)); (fail_if_success (with_reducible show wpAny _ _ (PySem.exec (PySem.Stmt.While _ _ _ _) _) _ _ _)); (fail_if_success (with_reducible show wpAny _ _ (pyIter _) _ _ _)); (fail_if_success (with_reducible show wpAny _ _ (subscriptTail _ (PySem.Expr.Slice _ _ _ _) (Value.ref _) _) _ _ _)); first | walk1 | (dsimp only; walk1))
    | fail "no step")
  k_with "goJ" => repeat' (first
    | (k_unfold; (try dsimp only))
    | ((fail_if_success (with_reducible show wpAny _ _ (PySem.execs (PySem.Stmt.If _ _ (_ :: _) _ :: _) _) _ _ _)); (fail_if_success (with_reducible show wpAny _ _ (PySem.execs (PySem.Stmt.If (PySem.Expr.Attribute _ (PySem.Str.ofString "_data") _) _ _ _ :: _) _) _ _ _)); first | walk1 | (dsimp only; walk1))
    | fail "no step")
  k_with "goL" => repeat' (first
    | (k_unfold; (try dsimp only))
    | ((fail_if_success (with_reducible show wpAny _ _ (PySem.eval (PySem.Expr.ListComp _ _ _ _) _) _ _ _)); first | walk1 | (dsimp only; walk1))
    | fail "no step")
  k_with "goG" => repeat' (first
    | (k_unfold; (try dsimp only))
    | ((fail_if_success (with_reducible show wpAny _ _ (PySem.call (Value.builtin _) _) _ _ _)); first | walk1 | (dsimp only; walk1))
    | fail "no step")
  k_with "execs cons" => (try dsimp only); first | (with_reducible refine execs_one ?_) | (with_reducible refine execsS ?_)
  k_with "execs nil" => with_reducible refine wpAny_execs_nil ?_
  k_with "tpos" => (try dsimp only); first | exact Nat.succ_pos _ | assumption | (first | lia | omega)
  k_with "QS" => (try dsimp only); first | ((with_reducible refine QS_next (by first | exact Nat.succ_pos _ | assumption | (first | lia | omega)) ?_); intro tk htk) | ((with_reducible refine QS_any ?_); intro tk) | (with_reducible refine QS_ret ?_) | (with_reducible refine QS_brk ?_) | (with_reducible refine QS_cont ?_)
  k_with "QF" => (first | (with_reducible refine QF_ret (by k_asm) (by k_asm) ?_) | (with_reducible refine QF_next (by k_asm) (by k_asm) ?_)); intro kF kN
  k_with "storeName" => k_here; k_dflt (refine' storeP ?F ?N ?_ ?a ?b; (case F => k_asm); (case N => k_asm); (case a => rfl); (case b => rfl); k_whole); intro h' F' N'; (try k_sweep)
  k_with "eval Attribute Name" => k_here; (with_reducible show wpAny _ _ (eval (PySem.Expr.Attribute (PySem.Expr.Name (PySem.Str.ofString "self") _) _ _) (envOf _ _ _ _ _)) _ _ _); k_dflt (refine' attrR ?F ?X ?N ?s ?h1 ?h2 (attr_ok _ _ ?ok) ?hl ?hv ?_ ?hk ?hx; (case F => k_asm); (case X => k_asm); (case N => k_asm); (case s => exact rfl); (case h1 => k_mem); (case h2 => k_mem); (case ok => exact rfl); (case hl => k_get); (case hv => k_handed); (case hk => exact rfl); (case hx => exact rfl); k_whole); (try dsimp only)
  k_with "call builtin:list.append" => k_here; (with_reducible show wpAny _ _ (call (Value.builtin _) [Value.ref _, _]) _ _ _); k_dflt (refine' append_L ?k1 ?k2 ?k3 ?z ?_; (case k1 => k_asm); (case k2 => k_asm); (case k3 => k_upd); (case z => first | exact n_le (by with_reducible assumption) rfl | (first | lia | omega) | (simp only [strValues, List.length_map, List.length_append, List.length_cons, List.length_nil]; (first | lia | omega))); k_whole); intro h' F' N'; (try k_sweep)
  k_with "call builtin:str.replace" => (with_reducible show wpAny _ _ (call (Value.builtin "str.replace") [Value.str _ _, Value.str _ _, Value.str _ _]) _ _ _); k_dflt (refine' replace_P ?a ?b ?c ?d ?e ?_; (case a => (refine ltN ?_; first | assumption | (first | lia | omega))); (case b => (refine ltN ?_; first | assumption | (first | lia | omega))); (case c => decide); (case d => (first | lia | omega)); (case e => decide)); intro t' k' hk'; (try dsimp only at hk')
  k_with "bound" => first | exact BndAt.ofK (by k_asm) (by k_asm) (by assumption) | exact (BndAt.of (by k_asm) (by k_mem))
  k_with "callWith" => (with_reducible show wpAny _ _ (callWith _ (Value.builtin _) (_ :: _) _ _) _ _ _); refine PyProof.Rows.callWith_method1 ?_
  k_with "callWith ref" => k_here; (with_reducible show wpAny _ _ (callWith _ (Value.ref _) _ (backTo _ (starEach (_ :: _) _)) []) _ _ _); k_dflt (refine' callWith_B ?kb ?_; (case kb => walk_at "bound"); k_whole)
  k_with "And" => (with_reducible show BndAt _ _ _ _ ∧ _); k_dflt (refine ⟨by walk_at "bound", ?_⟩); (try dsimp only [List.nil_append, List.cons_append])
  k_with "delItem ref ref" => k_here; (with_reducible show wpAny _ _ (delItem (Value.ref _) (Value.ref _)) _ _ _); k_dflt (refine' del_all ?F ?N ?U ?z ?_; (case F => k_asm); (case N => k_asm); (case U => k_updF); (case z => first | exact n_le (by with_reducible assumption) rfl | (first | lia | omega) | (simp only [strValues, List.length_map]; (first | lia | omega)))); intro h' n' F' N'; (try dsimp only at N')
  k_with "call ref" => k_here; (with_reducible show wpAny _ _ (call (Value.ref 98) [Value.ref _]) _ _ _); k_dflt (refine' join_B ?b ?l rfl ?j ?t ?_; (case b => walk_at "bound"); (case l => exact News.isList (by k_asm) (by k_mem)); (case j => assumption); (case t => ((try dsimp only); first | assumption | (first | lia | omega)))); intro t' k' hk'
  k_with "call ref" => k_here; (with_reducible show wpAny _ _ (call (Value.ref _) [Value.str _ _]) _ _ _); k_dflt (refine' append_B ?F ?N ?b ?U ?z ?_; (case F => k_asm); (case N => k_asm); (case b => k_mem); (case U => k_upd); (case z => first | exact n_le (by with_reducible assumption) rfl | (first | lia | omega) | (simp only [strValues, List.length_append, List.length_map, List.length_cons, List.length_nil]; (first | lia | omega)))); intro h' F' N'; (try dsimp only at N')
  k_with "truthy str" => (with_reducible show wpAny _ _ (PySem.truthy (Value.str _ _)) _ _ _); refine truthy_yes (by assumption) (by (first | lia | omega)) ?_
  k_with "binaryOp Add ref ref" => k_here; (with_reducible show wpAny _ _ (binaryOp _ (Value.ref _) (Value.ref _)) _ _ _); k_dflt (refine' add_L ?F ?N ?a ?b ?z ?_; (case F => k_asm); (case N => k_asm); (case a => exact News.isList (by k_asm) (by k_mem)); (case b => exact News.isList (by k_asm) (by k_mem)); (case z => (simp only [List.length_nil, List.length_cons]; (first | lia | omega)))); intro D' h' F' N' l1; (try k_lt l1); (try k_sweep)
  k_with "hh" => first | exact CxA.hh (by with_reducible assumption) | assumption
  k_with "assign Tuple" => k_here; (with_reducible show wpAny _ _ (assign (Expr.Tuple _ _ _) _ (Value.ref _)) _ _ _); k_dflt (refine' unpackN_ ?F ?N ?T ?k1 ?k2 ?k3 ?_; (case F => k_asm); (case N => k_asm); (case T => refine News.isTup (by k_asm) (by k_mem)); (case k1 => walk_at "hh"); (case k2 => exact rfl); (case k3 => exact rfl)); intro h' F' N'; (try k_sweep)
  k_with "truthy ref" => (with_reducible show wpAny _ _ (PySem.truthy (Value.ref _)) _ _ _); k_dflt (first | (refine truthy_L (b := false) (by k_asm) (by k_mem) rfl ?_ ?_) | (refine truthy_L (b := true) (by k_asm) (by k_mem) rfl ?_ ?_)); (case' refine_1 => first | exact n_le (by with_reducible assumption) rfl | (first | lia | omega) | (simp only [strValues, List.length_map, List.length_cons, List.length_nil] at *; (first | lia | omega))); skip
  k_with "call builtin:list.pop" => k_here; (with_reducible show wpAny _ _ (call (Value.builtin _) [Value.ref _]) _ _ _); k_dflt (refine' pop_L ?F ?N ?U ?z ?_; (case F => k_asm); (case N => k_asm); (case U => k_upd); (case z => first | exact n_le (by with_reducible assumption) rfl | (first | lia | omega) | (simp only [List.length_append, List.length_cons, List.length_nil]; (first | lia | omega)))); intro h' F' N'; (try dsimp only at N')
  k_with "call builtin:len" => k_here; (with_reducible show wpAny _ _ (call (Value.builtin "len") [Value.ref _]) _ _ _); k_dflt (refine' len_L ?N ?m ?z ?_; (case N => k_asm); (case m => k_mem); (case z => first | exact n_le (by with_reducible assumption) rfl | (first | lia | omega) | (simp only [strValues, List.length_map, List.length_append, List.length_cons, List.length_nil]; (first | lia | omega)))); intro t'
  k_with "sset" => first | assumption | exact sset_fresh _
  k_with "getMethod ref" => k_here; (with_reducible show wpAny _ _ (getMethod (Value.ref _) (PySem.Str.ofString "_iter_namespaces") _) _ _ _); k_dflt (refine' method_shadow ?k1 ?k2 ?k3 ?k4 ?k5 ?k6 ?k7 ?k8 ?k9 ?k10 ?k11 ?_; (case k1 => k_asm); (case k2 => k_asm); (case k3 => k_inst); (case k4 => k_is); (case k5 => k_is); (case k6 => k_is); (case k7 => k_is); (case k8 => k_is); (case k9 => k_is); (case k10 => k_get); (case k11 => k_handed); k_whole)
  k_with "getMethod ref" => (with_reducible show wpAny _ _ (getMethod (Value.ref _) (PySem.Str.ofString "_write") _) _ _ _); walk_at "last getMethod ref"
  k_with "getMethod ref" => k_here; (with_reducible show wpAny _ _ (getMethod (Value.ref _) (PySem.Str.ofString "add") _) _ _ _); k_dflt (refine' sset_method ?N ?m ?o ?b ?_; (case N => k_asm); (case m => k_mem); (case o => walk_at "sset"); (case b => decide))
  k_with "call builtin:set.add" => k_here; (with_reducible show wpAny _ _ (call (Value.builtin _) [Value.ref _, Value.str _ _]) _ _ _); k_dflt (refine' sset_add ?F ?N ?U ?o ?b ?_; (case F => k_asm); (case N => k_asm); (case U => k_updF); (case o => walk_at "sset"); (case b => decide)); intro h' so' F' N' hS'; (try dsimp only at N')
  k_with "compareOp NotIn str ref" => k_here; (with_reducible show wpAny _ _ (compareOp _ (Value.str _ _) (Value.ref _)) _ _ _); k_dflt (refine' sset_notin ?N ?m ?o ?b ?_; (case N => k_asm); (case m => k_mem); (case o => walk_at "sset"); (case b => first | decide | (split <;> decide)))
  k_with "compareOp In str ref" => k_here; (with_reducible show wpAny _ _ (compareOp _ (Value.str _ _) (Value.ref _)) _ _ _); k_dflt (refine' sset_in ?N ?m ?o ?b ?_; (case N => k_asm); (case m => k_mem); (case o => walk_at "sset"); (case b => first | decide | (split <;> decide)))
  intros
  trivial
theorem look98 (p) : ∃ t, List.lookup 98 (hd.heap_1 p) = some (bndObj "str.join" (.str (Str.ofString "") t)) := ⟨_, rfl⟩
structure DatOk (dat : List (Str × Tok)) : Prop where
  j : JoinOk (Str.ofString "") (dat.map (·.1)) = true
  l : (Txt.join (Str.ofString "") (dat.map (·.1))).length ≤ 100
  p : dat ≠ [] → 0 < (Txt.join (Str.ofString "") (dat.map (·.1))).length
  n : dat.length ≤ 100
noncomputable def FlushV (dat : List (Str × Tok)) (fl : List Value) : Prop := ∃ t0, fl = if dat = [] then [] else [.str (escT (Txt.join (Str.ofString "") (dat.map (·.1)))) t0]
noncomputable def FlP (g : Heap) (L : Addr) (m : Str → Option Value) (tp dx dA nn : Nat) (es : List DictEntry) (parts : List Value) (dat : List (Str × Tok)) (tl : List (Addr × Obj)) (gs : Array GenState) (d : Drawn) (os : OsState) (s' : Shared) : Prop :=
  ∃ fl np nd h' tk', s' = ⟨h', gs, d, tk', os⟩ ∧ FlushV dat fl ∧ 0 < tk' ∧ Fr g L h' m ∧ News g L h' ((tp, W.listOf (List.toArray (parts ++ fl)) np) :: (dx, dictOf es nn) :: (dA, W.listOf (List.toArray []) nd) :: tl)
theorem truthy_d {prog : Program} {w : World} {A : Around} {E : Value → Shared → Prop} {s : Shared} {h₀ : Heap} {L D n : Addr} {news : List (Addr × Obj)} {dat : List (Str × Tok)} {b : Bool} {Q : Bool → Shared → Prop} (N : News h₀ L s.heap news) (hm : (D, W.listOf (List.toArray (strValues dat)) n) ∈ news) (hz : DatOk dat) (hb : decide (dat ≠ []) = b)
    (h : Q b { s with toks := s.toks + 1 + 1 }) : wpAny (model prog w) A (truthy (.ref D)) Q E s := by
  refine truthy_L N hm ?_ (by simp only [strValues, List.length_map]; have := hz.n; (first | lia | omega)) h
  rw [← hb]
  cases dat <;> rfl
theorem fv_nil {dat : List (Str × Tok)} (h : dat = []) : FlushV dat [] := ⟨0, by rw [if_pos h]⟩
theorem fv_some {dat : List (Str × Tok)} {t : Tok} (h : dat ≠ []) : FlushV dat [.str (escT (Txt.join (Str.ofString "") (dat.map (·.1)))) t] := ⟨t, by rw [if_neg h]⟩
theorem fv_len {dat : List (Str × Tok)} {fl : List Value} (h : FlushV dat fl) : fl.length ≤ 1 := by
  obtain ⟨t, rfl⟩ := h
  split <;> simp
theorem flush_spec : ∀ {w : World} {p : Program} {loose : List Str} {mean : ExcName → Option Value} {mg mb : Str → Option Value} {A : Around} {env : Env} {outer : List Env} {base h₀ : Heap} {L : Addr} {m : Str → Option Value} {s : Shared} {Q : Value → Shared → Prop} {x dx nn ds tp wm dA et ns pm ps np nd : Nat} {cm rd : Bool} {ig : Int} {tig : Tok} {T : Nat → Tok} {parts : List Value} {dat : List (Str × Tok)} {tl : List (Addr × Obj)}
    (_ : CxA 5 w p loose mean mg mb A env outer base h₀ L) (_ : Fr h₀ L s.heap m)
    (_ : News h₀ L s.heap ((tp, W.listOf (List.toArray parts) np) :: (dx, dictOf (tgtEs w wm dA et ds ns pm ps cm true rd ig tig T) nn) :: (dA, W.listOf (List.toArray (strValues dat)) nd) :: tl))
    (_ : Nd [tp, dx, dA] tl)
    (_ : (x, instObj 150 dx) ∈ tl)
    (_ : (wm, bndObj "list.append" (.ref tp)) ∈ tl)
    (_ : DatOk dat)
    (_ : dat ≠ [])
    (_ : parts.length ≤ 1000)
    (_ : ∀ t n1 n2 h' tk', 0 < tk' → Fr h₀ L h' m → News h₀ L h' ((tp, W.listOf (List.toArray (parts ++ [.str (escT (Txt.join (Str.ofString "") (dat.map (·.1)))) t])) n1) :: (dx, dictOf (tgtEs w wm dA et ds ns pm ps cm true rd ig tig T) nn) :: (dA, W.listOf (List.toArray []) n2) :: tl) → Q .none { s with heap := h', toks := tk' }),
    wpAny (model PySem.Challenge.rw_nb0300_01.row.prog w) A (call (.ref 106) [.ref x]) Q Nay s := by
  intro w p loose mean mg mb A env outer base h₀ L m s Q x dx nn ds tp wm dA et ns pm ps np nd cm rd ig tig Tt parts dat tl c F N hn h1 h2 hD hne hpl hret
  obtain ⟨t98, h98⟩ := look98 w.params
  have hj := hD.j
  have hy1 := hD.l
  have hy2 := hD.p hne
  have hy3 := hD.n
  have X := c.X
  k_dflt (refine' enterA (ps := [(Str.ofString "_join_text", .ref 98), (Str.ofString "self", .ref x)]) ?c ?F ?N ?ho ?hcd ?hb ?hps ?h0 ?hloc ?_ ?c2 ?c3 ?c4 ?c5; (case c => assumption); (case F => k_asm); (case N => k_asm); (case ho => k_is); (case hcd => k_is); (case hb => first | exact BindsTo.of_eq rfl | exact binds_K (by k_in) rfl (by k_is) rfl rfl rfl); (case hps => exact rfl); (case h0 => exact Nat.le_of_ble_eq_true rfl); (case hloc => exact locs rfl); (case c2 => exact rfl); (case c3 => exact rfl); (case c4 => exact rfl); (case c5 => decide); k_whole)
  intro A1 g1 L1 h1' tk0 htk0 c1 X1 FG1 F1 N1
  have T1 := c1.T
  (k_with "call ref" => (with_reducible show wpAny _ _ (call (Value.ref 161) [Value.str _ _]) _ _ _); k_dflt (refine' cdata_spec ?c ?F ?N ?l ?_; (case F => k_asm); (case N => k_asm); (case c => walk_at "cx"); (case l => first | assumption | (first | lia | omega))); intro t' h' tk' htk' F' N')
  walk_at "go"
  exact hret _ _ _ _ _ (by walk_at "tpos") kF kN
end
section
open PySem PySem.W PyProof.Rows PySem.Calls
local macro_rules | `(tactic| size_fits) => `(tactic| ((with_reducible show PySem.Str.length _ ≤ sizeLine); kt_le))
theorem words_fl_KCo : True := by
  (k_with "call ref" => (with_reducible show wpAny _ _ (call (Value.ref 161) [Value.str _ _]) _ _ _); k_dflt (refine' cdata_spec ?c ?F ?N ?l ?_; (case F => k_asm); (case N => k_asm); (case c => walk_at "cx"); (case l => first | assumption | (first | lia | omega))); intro t' h' tk' htk' F' N')
  (k_with "call ref" => (first | (with_reducible show wpAny _ _ (call (Value.ref 106) [Value.ref _]) _ _ _) | (with_reducible show wpAny _ _ (call (Prod.fst (Value.ref 106, _)) _) _ _ _)); k_dflt (refine' flush_spec ?c ?F ?N ?hn ?h1 ?h2 ?hD ?hne ?l ?_; (case c => walk_at "cx"); (case F => k_asm); (case N => k_asm); (case hn => walk_at "part"); (case h1 => k_mem); (case h2 => k_mem); (case hD => assumption); (case hne => assumption); (case l => first | assumption | (first | lia | omega))); intro t' n1' n2' h' tk' htk' F' N')
  (k_with "part" => first | (with_reducible assumption) | (refine' nd_part _ ?a ?b; (case a => assumption); (case b => exact rfl)))
  (k_with "truthy ref" => (with_reducible show wpAny _ _ (PySem.truthy (Value.ref _)) _ _ _); k_dflt (first | (refine' truthy_d (b := false) ?N ?m ?z ?hb ?_; (case N => k_asm); (case m => k_mem); (case z => assumption); (case hb => exact (decide_eq_false fun h => h (by assumption)))) | (refine' truthy_d (b := true) ?N ?m ?z ?hb ?_; (case N => k_asm); (case m => k_mem); (case z => assumption); (case hb => exact (decide_eq_true (by assumption))))))
  trivial
theorem comment_spec : ∀ {w : World} {p : Program} {loose : List Str} {mean : ExcName → Option Value} {mg mb : Str → Option Value} {A : Around} {env : Env} {outer : List Env} {base h₀ : Heap} {L : Addr} {m : Str → Option Value} {s : Shared} {Q : Value → Shared → Prop} {x dx nn ds tp wm dA et ns pm ps np nd : Nat} {cm : Bool} {ig : Int} {tig : Tok} {T : Nat → Tok} {parts : List Value} {dat : List (Str × Tok)} {tl : List (Addr × Obj)} {txt : Str} {tt : Tok}
    (_ : CxA 7 w p loose mean mg mb A env outer base h₀ L) (_ : Fr h₀ L s.heap m)
    (_ : News h₀ L s.heap ((tp, W.listOf (List.toArray parts) np) :: (dx, dictOf (tgtEs w wm dA et ds ns pm ps cm true false ig tig T) nn) :: (dA, W.listOf (List.toArray (strValues dat)) nd) :: tl))
    (_ : Nd [tp, dx, dA] tl)
    (_ : (x, instObj 150 dx) ∈ tl)
    (_ : (wm, bndObj "list.append" (.ref tp)) ∈ tl)
    (_ : DatOk dat)
    (_ : parts.length ≤ 900)
    (_ : txt.length ≤ 100)
    (_ : (cm = false ∨ ig ≠ 0) → ∀ h' tk', 0 < tk' → Fr h₀ L h' m → News h₀ L h' ((tp, W.listOf (List.toArray parts) np) :: (dx, dictOf (tgtEs w wm dA et ds ns pm ps cm true false ig tig T) nn) :: (dA, W.listOf (List.toArray (strValues dat)) nd) :: tl) → Q .none { s with heap := h', toks := tk' })
    (_ : cm = true → ig = 0 → ∀ fl t n1 n2 h' tk', FlushV dat fl → 0 < tk' → Fr h₀ L h' m → News h₀ L h' ((tp, W.listOf (List.toArray (parts ++ fl ++ [.str (Str.empty ++ Str.ofString "<!--" ++ escT txt ++ Str.ofString "-->") t])) n1) :: (dx, dictOf (tgtEs w wm dA et ds ns pm ps cm true false ig tig T) nn) :: (dA, W.listOf (List.toArray []) n2) :: tl) → Q .none { s with heap := h', toks := tk' }),
    wpAny (model PySem.Challenge.rw_nb0300_01.row.prog w) A (call (.ref 140) [.ref x, .str txt tt]) Q Nay s := by
  intro w p loose mean mg mb A env outer base h₀ L m s Q x dx nn ds tp wm dA et ns pm ps np nd cm ig tig Tt parts dat tl txt tt c F N hn h1 h2 hD hpl hx ret1 hret
  have hex : (escT txt).length ≤ 600 := by exact Nat.le_trans (escT_len txt) (Nat.mul_le_mul_left 6 hx)
  have X := c.X
  k_dflt (refine' enterA (ps := [(Str.ofString "text", .str txt tt), (Str.ofString "self", .ref x)]) ?c ?F ?N ?ho ?hcd ?hb ?hps ?h0 ?hloc ?_ ?c2 ?c3 ?c4 ?c5; (case c => assumption); (case F => k_asm); (case N => k_asm); (case ho => k_is); (case hcd => k_is); (case hb => first | exact BindsTo.of_eq rfl | exact binds_K (by k_in) rfl (by k_is) rfl rfl rfl); (case hps => exact rfl); (case h0 => exact Nat.le_of_ble_eq_true rfl); (case hloc => exact locs rfl); (case c2 => exact rfl); (case c3 => exact rfl); (case c4 => exact rfl); (case c5 => decide); k_whole)
  intro A1 g1 L1 h1' tk0 htk0 c1 X1 FG1 F1 N1
  have T1 := c1.T
  walk_at "goJ"
  · exact ret1 (.inr (by assumption)) _ _ (by walk_at "tpos") kF kN
  · rename cm = true => hcm
    rename ig = 0 => hig0
    refine exec_join (FlP g1 L1 (pinned nom [(Str.ofString "text", .str txt tt), (Str.ofString "self", .ref x)]) tp dx dA nn (tgtEs w wm dA et ds ns pm ps cm true false ig tig Tt) parts dat tl s.gens s.drawn s.os) ?_ ?_
    · by_cases hne : dat = []
      · walk_at "go"
        refine NextP.mk ?_
        exact ⟨_, _, _, _, _, rfl, fv_nil hne, by walk_at "tpos", F1, by rw [List.append_nil]; rw [hne] at N1; exact N1⟩
      · walk_at "go"
        refine NextP.mk ?_
        exact ⟨_, _, _, _, _, rfl, fv_some hne, by walk_at "tpos", F', N'⟩
    · rintro _ ⟨fl, np2, nd2, h2, tk2, rfl, hfl, htk2, F2, N2⟩
      have hpl2 : (parts ++ fl).length ≤ 1000 := by
        rw [List.length_append]; exact n_le (Nat.add_le_add hpl (fv_len hfl)) rfl
      clear F1 N1
      walk_at "go"
      exact hret hcm hig0 _ _ _ _ _ _ hfl (by walk_at "tpos") kF kN
  · exact ret1 (.inl (by assumption)) _ _ (by walk_at "tpos") kF kN
end
section
open PySem PySem.W PyProof.Rows PySem.Calls
theorem sset_inB {prog : Program} {w : World} {A : Around} {E : Value → Shared → Prop} {s : Shared} {h₀ : Heap} {L sa : Addr} {news : List (Addr × Obj)} {so : Obj} {S : Str → Bool} {n : Nat} {x : Str} {t : Tok} {b : Bool} {Q : Value → Shared → Prop} (N : News h₀ L s.heap news) (hm : (sa, so) ∈ news) (hso : SSet prog w so S n) (hb : n < scanBound) (hx : S x = b) (h : Q (.bool b) { s with toks := s.toks + 1 }) :
    wpAny (model prog w) A (compareOp .In (.str x t) (.ref sa)) Q E s := sset_in N hm hso hb (hx ▸ h)
theorem tabOk_drop {pt l1 l2 : Array Value} {n1 n2 : Nat} {a b : Addr} {ext tl : List (Addr × Obj)} (h : TabOk pt (ext ++ (a, W.listOf l1 n1) :: (b, W.listOf l2 n2) :: tl)) : TabOk pt (ext ++ tl) := by
  rcases h with h | ⟨c', oc, vs, t, e, hm, hd, hv⟩
  · exact .inl h
  · refine .inr ⟨c', oc, vs, t, e, ?_, hd, hv⟩
    rcases List.mem_append.mp hm with hm | hm
    · exact List.mem_append_left _ hm
    · rcases List.mem_cons.mp hm with hm | hm
      · cases hm; cases hd
      · rcases List.mem_cons.mp hm with hm | hm
        · cases hm; cases hd
        · exact List.mem_append_right _ hm
theorem tabOk_mono {pt : Array Value} {l l' : List (Addr × Obj)} (h : TabOk pt l) (hs : ∀ p ∈ l, p ∈ l') : TabOk pt l' := h.imp id fun ⟨c', oc, vs, t, e, hm, r⟩ => ⟨c', oc, vs, t, e, hs _ hm, r⟩
theorem pm_in {α : Type} {x : α} {r l1 l2 : List α} (h : r.Perm (l1 ++ l2)) : (x :: r).Perm (l1 ++ x :: l2) := (h.cons x).trans List.perm_middle.symm
theorem nd_perm {as bs : List Addr} {tl : List (Addr × Obj)} (hn : Nd as tl) (h : bs.Perm as) : Nd bs tl := ⟨h.nodup_iff.mpr hn.1, fun p hp hm => hn.2 p hp (h.mem_iff.mp hm)⟩
theorem nd_back {as as2 : List Addr} {ext tl led : List (Addr × Obj)} (hn : Nd as tl) (h1 : ∀ a ∈ as, a ∈ as2 ∨ ∃ o, (a, o) ∈ led) (hnd : Nd as2 (ext ++ led)) (hext : ∀ p ∈ ext, ∀ q ∈ led, @Ne Nat q.1 p.1) : Nd as (ext ++ tl) := ⟨hn.1, fun p hp h => by
  rcases List.mem_append.mp hp with hp | hp
  · rcases h1 _ h with h | ⟨o, h⟩
    · exact hnd.2 p (List.mem_append_left _ hp) h
    · exact hext p hp _ h rfl
  · exact hn.2 p hp h⟩
theorem fa_cons {α : Type} {P : α → Prop} {x : α} {l : List α} (hx : P x) (h : ∀ p ∈ l, P p) : ∀ p ∈ x :: l, P p := List.forall_mem_cons.mpr ⟨hx, h⟩
theorem start1_spec : ∀ {w : World} {p : Program} {loose : List Str} {mean : ExcName → Option Value} {mg mb : Str → Option Value} {A : Around} {env : Env} {outer : List Env} {base h₀ : Heap} {L : Addr} {m : Str → Option Value} {s : Shared} {Q : Value → Shared → Prop} {x dx ds tp wm dA et ns pm ps np nd n0 n1 n2 n3 l0 tpl ntp at_ nat : Nat} {cm rs : Bool} {ig : Int} {tig tu tx : Tok} {T : Nat → Tok} {parts rest nst pst : List Value} {tl : List (Addr × Obj)} {dat : List (Str × Tok)} {tg : Str} {tt : Tok} {pt : Array Value} {l : List (Str × Tok × Value)} {prs : List (Str × Str)} {so : Obj}
    (_ : CxA 9 w p loose mean mg mb A env outer base h₀ L) (_ : Fr h₀ L s.heap m)
    (_ : News h₀ L s.heap ((tp, W.listOf (List.toArray parts) np) :: (dx, dictOf (tgtEs w wm dA et ds ns pm ps cm rs false ig tig T) 18) :: (dA, W.listOf (List.toArray (strValues dat)) nd) :: (ds, W.listOf (List.toArray (.ref l0 :: rest)) n0) :: (ns, W.listOf (List.toArray nst) n2) :: (ps, W.listOf (List.toArray (pst ++ [.bool false])) n3) :: (at_, dictOf (entS w l) nat) :: (123, tabObj pt) :: tl))
    (_ : Nd [tp, dx, dA, ds, ns, ps, at_, 123] tl)
    (_ : CodeHd h₀ 125 123)
    (_ : TabOk pt tl)
    (_ : (x, instObj 150 dx) ∈ tl)
    (_ : (wm, bndObj "list.append" (.ref tp)) ∈ tl)
    (_ : (l0, W.listOf (List.toArray [.ref tpl]) n1) ∈ tl)
    (_ : (tpl, nsTup tu tx ntp) ∈ tl)
    (_ : ∀ v ∈ rest, ∃ a n, v = .ref a ∧ (a, W.listOf (List.toArray []) n) ∈ tl)
    (_ : (et, so) ∈ tl)
    (_ : SSet thePr w so (fun k => decide (k = Str.ofString "x")) 1)
    (_ : (at_ == sysModules) = false)
    (_ : DatOk dat)
    (_ : dat ≠ [] → rs = true)
    (_ : 0 ≤ ig)
    (_ : ig ≤ 100)
    (_ : parts.length ≤ 800)
    (_ : rest.length ≤ 9)
    (_ : nst.length ≤ 100)
    (_ : pst.length ≤ 100)
    (_ : IsTag tg)
    (_ : EntsOf l prs)
    (_ : PairsOk prs)
    (_ : (0 < ig ∨ tg = Str.ofString "x") → ∀ t h' tk', 0 < tk' → Fr h₀ L h' m → News h₀ L h' ((tp, W.listOf (List.toArray parts) np) :: (dx, dictOf (tgtEs w wm dA et ds ns pm ps cm rs false (ig + 1) t T) 18) :: (dA, W.listOf (List.toArray (strValues dat)) nd) :: (ds, W.listOf (List.toArray (.ref l0 :: rest)) n0) :: (ns, W.listOf (List.toArray nst) n2) :: (ps, W.listOf (List.toArray (pst ++ [.bool false])) n3) :: (123, tabObj pt) :: tl) → Q .none { s with heap := h', toks := tk' })
    (_ : ig = 0 → tg ≠ Str.ofString "x" → ∀ (nv nns : Nat) fl pp np' nd' n0' n2' n3' nn' pt' ext h' d' tk', FlushV dat fl → Txt.join (Str.ofString "") (pp.map (·.1)) = Str.ofString "<" ++ tg ++ cat ((inOrder prs).map attrW) ++ Str.ofString ">" → pp.length ≤ 3 → TabOk pt' (ext ++ tl) → (nns, W.listOf (List.toArray []) nn') ∈ ext → (∀ p ∈ ext, ∀ q ∈ tl, @Ne Nat q.1 p.1) → Nd [tp, dx, dA, ds, ns, ps, 123] (ext ++ tl) → 0 < tk' → Fr h₀ L h' m → News h₀ L h' ((tp, W.listOf (List.toArray (parts ++ fl ++ strValues pp)) np') :: (dx, dictOf (tgtEs w wm dA et ds ns pm ps cm true false 0 tig T) 18) :: (dA, W.listOf (List.toArray []) nd') :: (ds, W.listOf (List.toArray ((.ref l0 :: rest) ++ [.ref nns])) n0') :: (ns, W.listOf (List.toArray (nst ++ [.ref nv])) n2') :: (ps, W.listOf (List.toArray (pst ++ [.bool false] ++ [.bool false])) n3') :: (123, tabObj pt') :: (ext ++ tl)) → Q .none { s with heap := h', drawn := d', toks := tk' }),
    wpAny (model PySem.Challenge.rw_nb0300_01.row.prog w) A (call (.ref 120) [.ref x, .str tg tt, .ref at_]) Q Nay s := by
  intro w p loose mean mg mb A env outer base h₀ L m s Q x dx ds tp wm dA et ns pm ps np nd n0 n1 n2 n3 l0 tpl ntp at_ nat cm rs ig tig tu tx Tt parts rest nst pst tl dat tg tt pt l prs so c F N hn C hpt h1 h2 h3 h4 h5 het hS hsm hD hrs hi0 hi2 hl4 hr hns hp htg he hpo ret1 hret
  have X := c.X
  k_dflt (refine' enterA (ps := [(Str.ofString "attrs", .ref at_), (Str.ofString "tag", .str tg tt), (Str.ofString "self", .ref x)]) ?c ?F ?N ?ho ?hcd ?hb ?hps ?h0 ?hloc ?_ ?c2 ?c3 ?c4 ?c5; (case c => assumption); (case F => k_asm); (case N => k_asm); (case ho => k_is); (case hcd => k_is); (case hb => first | exact BindsTo.of_eq rfl | exact binds_K (by k_in) rfl (by k_is) rfl rfl rfl); (case hps => exact rfl); (case h0 => exact Nat.le_of_ble_eq_true rfl); (case hloc => exact locs rfl); (case c2 => exact rfl); (case c3 => exact rfl); (case c4 => exact rfl); (case c5 => decide); k_whole)
  intro A1 g1 L1 h1' tk0 htk0 c1 X1 FG1 F1 N1
  have T1 := c1.T
  (k_with "compareOp In str ref" => k_here; (with_reducible show wpAny _ _ (compareOp _ (Value.str _ _) (Value.ref _)) _ _ _); k_dflt (refine' sset_inB ?N ?m ?o ?b ?x ?_; (case N => k_asm); (case m => k_mem); (case o => assumption); (case b => decide); (case x => first | assumption | decide | exact rfl)))
  walk_at "goJ"
  · exact ret1 (.inl (by rename ¬ _ => hne; (first | lia | omega))) _ _ _ (by walk_at "tpos") kF (News.sub kN (List.Sublist.subset (.cons_cons _ (.cons_cons _ (.cons_cons _ (.cons_cons _ (.cons_cons _ (.cons_cons _ (.cons _ (.refl _))))))))))
  · rename tg = _ => hx
    exact ret1 (.inr hx) _ _ _ (by walk_at "tpos") kF (News.sub kN (List.Sublist.subset (.cons_cons _ (.cons_cons _ (.cons_cons _ (.cons_cons _ (.cons_cons _ (.cons_cons _ (.cons _ (.refl _))))))))))
  rename ig = 0 => hig
  rename ¬ _ => hx
  subst hig
  have htg3 : tg = Str.ofString "r" ∨ tg = Str.ofString "a" ∨ tg = Str.ofString "b" := by rcases htg with h | h | h | h <;> first | exact .inl h | exact .inr (.inl h) | exact .inr (.inr h) | exact absurd h hx
  have hpl : parts.length ≤ 1000 := by (first | lia | omega)
  clear ret1
  refine exec_join (FlP g1 L1 (pinned nom [(Str.ofString "attrs", .ref at_), (Str.ofString "tag", .str tg tt), (Str.ofString "self", .ref x)]) tp dx dA 18 (tgtEs w wm dA et ds ns pm ps cm rs false 0 tig Tt) parts dat ((ds, W.listOf (List.toArray (.ref l0 :: rest)) n0) :: (ns, W.listOf (List.toArray nst) n2) :: (ps, W.listOf (List.toArray (pst ++ [.bool false])) n3) :: (at_, dictOf (entS w l) nat) :: (123, tabObj pt) :: tl) s.gens s.drawn s.os) ?_ ?_
  · clear hret
    by_cases hne : dat = []
    · walk_at "go"
      refine NextP.mk ?_
      exact ⟨_, _, _, _, _, rfl, fv_nil hne, by walk_at "tpos", F1, by rw [List.append_nil]; rw [hne] at N1; exact N1⟩
    · have hrs1 := hrs hne
      subst hrs1
      walk_at "go"
      refine NextP.mk ?_
      exact ⟨_, _, _, _, _, rfl, fv_some hne, by walk_at "tpos", F', N'⟩
  · rintro _ ⟨fl, np2, nd2, h2', tk2, rfl, hfl, htk2, F2, N2⟩
    have hpl2 : (parts ++ fl).length ≤ 900 := by
      have := fv_len hfl
      rw [List.length_append]; (first | lia | omega)
    clear F1 N1
    (k_with "go9" => repeat' (first
      | (k_unfold; (try dsimp only))
      | ((fail_if_success (with_reducible show wpAny _ _ (PySem.call (Value.ref 126) _) _ _ _)); first | walk1 | (dsimp only; walk1))
      | fail "no step"))
    walk_at "go9"
    rename Nd (_ :: _) _ => hn9
    have hn8 := nd_perm hn9 (pm_in (l1 := [_]) (pm_in (l1 := [_]) (pm_in (l1 := [_, dA, ds]) (pm_in (l1 := [_, dA, ds]) (pm_in (l1 := [_, dA, ds]) (pm_in (l1 := []) (pm_in (l1 := [dA, ds]) (.refl [dA, ds]))))))))
    k_dflt (refine' start_spec (tl := (dA, W.listOf (List.toArray []) nd2) :: (ds, W.listOf (List.toArray ((.ref l0 :: rest) ++ [_])) _) :: tl) ?c ?F (News.sub N' (sub_cons memH1 (sub_cons memH2 (sub_cons memH5 (sub_cons memH6 (sub_cons memH7 (sub_cons memH0 (sub_cons memH8 (sub_cons memH3 (sub_cons memH4 fun p hp => memT9 hp)))))))))) (nd_part _ hn8 rfl) ?ht ?C ?hpt (memT2 h1) (memT2 h2) (memT1 memH0) (memT2 h3) (memT2 h4) ?h5 hsm hpl2 ?hr hns hp htg3 he hpo ?_)
    case c => exact c1
    case F => k_asm
    case ht => walk_at "tpos"
    case C => exact CodeHd.keeps C FG1.keep
    case hpt => exact tabOk_mono hpt fun p hp => memT2 hp
    case h5 =>
      intro v hv
      rcases List.mem_append.mp hv with hv | hv
      · obtain ⟨a, n, e, hm⟩ := h5 v hv
        exact ⟨a, n, e, memT3 hm⟩
      · exact ⟨_, _, List.mem_singleton.mp hv, memH0⟩
    case hr => (show (rest ++ [_]).length ≤ 10; simp only [List.length_append, List.length_cons, List.length_nil]; (first | lia | omega))
    intro nv pp np' n2' n3' pt' ext h9 d9 tk9 hj hlp hpt9 hext hnd9 htk9 F9 N9
    refine QF_next F9 N9 fun kF kN => ?_
    refine' hret rfl hx nv _ fl pp np' nd2 _ n2' n3' _ pt' (_ :: ext) h9 d9 tk9 hfl hj hlp (tabOk_mono (tabOk_drop hpt9) ?t1) memH0 ?ap ?nd htk9 kF (News.sub kN (sub_cons memH0 (sub_cons memH1 (sub_cons (memT6 (List.mem_append_right _ memH0)) (sub_cons (memT6 (List.mem_append_right _ memH1)) (sub_cons memH2 (sub_cons memH3 (sub_cons memH5 (sub_cons (l' := ext ++ tl) memH4 ?s1)))))))))
    case ap => exact fa_cons (nd_ne hn9 memH0) fun p hp q hq => hext p hp q (memT2 hq)
    case t1 => exact fun p hp => memT1 hp
    case s1 => exact fun p hp => memT6 ((List.mem_append.mp hp).elim (fun h => List.mem_append_left _ h) (fun h => List.mem_append_right _ (memT2 h)))
    case nd => exact nd_in (nd_back (nd_sub hn9 (.cons_cons _ (.cons_cons _ (.cons_cons _ (.cons_cons _ (.cons_cons _ (.cons_cons _ (.cons_cons _ (.cons _ (.cons_cons _ .slnil)))))))))) (fa_cons (.inl memH4) (fa_cons (.inl memH0) (fa_cons (.inl memH1) (fa_cons (.inr ⟨_, memH0⟩) (fa_cons (.inr ⟨_, memH1⟩) (fa_cons (.inl memH2) (fa_cons (.inl memH3) (fa_cons (.inl memH5) (List.forall_mem_nil _))))))))) hnd9 hext)
end
section
open PySem PySem.W PyProof.Rows PySem.Calls PySem.Spec
section
variable {prog : Program} {w : World} {A : Around} {E : Value → Shared → Prop} {s : Shared}
theorem set_loop_one {R : Result → Shared → Prop} {S I l : Addr} {x : Str} {t : Tok} (hh : A.handled = none) (hit : s.heap.IsListIter I l 0) (hl : s.heap.IsList l #[.str x t]) (hS : s.heap.SetOf (strKind prog w) S (fun _ => false) 0) (h1 : S ≠ I) (h2 : S ≠ l) (h3 : l ≠ I)
    (hR : ∀ h' tk, h'.SetOf (strKind prog w) S (fun k => decide (k = x)) 1 → (∀ b o, b ≠ S → b ≠ I → s.heap.get? b = some o → h'.get? b = some o) → R (.ok (.ret .none)) { s with heap := h', toks := tk }) :
    codeAny (model prog w) A (.builtin "set.update.loop" ⟨[.ref S, .ref I], []⟩) R s := by
  refine codeAny_builtin PyProof.Rows.F.entry_set_update_loop ?_
  rw [Around.under_plainId PyProof.Rows.F.plain_set_update_loop _]
  show wpAny _ A.in1 (pyNext (.ref I) >>= _) _ _ s
  refine wpAny_bind (wpAny_pyNext_list_item (A := A.in1) hit hl rfl fun h' hit' hs => ?_)
  have hS' : h'.SetOf (strKind prog w) S (fun _ => false) 0 := by
    obtain ⟨o, es, ep, tb, ho, rest⟩ := hS
    exact ⟨o, es, ep, tb, hs.extBut _ _ h1 ho, rest⟩
  have hl' : h'.IsList l #[.str x t] := by obtain ⟨o, ho, r⟩ := hl; exact ⟨o, hs.extBut _ _ h3 ho, r⟩
  show wpAny _ A.in1 (holding [Value.str x t] (setAdd S (.str x t)) >>= _) _ _ _
  refine wpAny_bind (wpAny_holding ?_)
  unfold setAdd
  refine wpAny_holding ?_
  refine wpAny_bind ((strKind prog w).pyHash (k := x) (strKind_is _ _ _ _) ?_)
  refine wpAny_setAddHashed_of (knd := strKind prog w) (s := { s with heap := h', toks := s.toks + 1 }) (strKind_is _ _ _ _) rfl hS' (by decide) fun h2' hsb hS2 => ?_
  refine wpAny_pure ⟨plainId_quiet PyProof.Rows.F.plain_set_update_loop _, ?_⟩
  refine codeAny_builtin PyProof.Rows.F.entry_set_update_loop ?_
  rw [Around.under_plainId PyProof.Rows.F.plain_set_update_loop _]
  show wpAny _ A.in1 (pyNext (.ref I) >>= _) _ _ _
  have hit2 : h2'.IsListIter I l 1 := by obtain ⟨o, ho, r⟩ := hit'; exact ⟨o, hsb.extBut _ _ (Ne.symm h1) ho, r⟩
  have hl2 : h2'.IsList l #[.str x t] := by obtain ⟨o, ho, r⟩ := hl'; exact ⟨o, hsb.extBut _ _ (Ne.symm h2) ho, r⟩
  refine wpAny_bind (wpAny_pyNext_list_end (s := { s with heap := h2', toks := s.toks + 1 }) (A := A.in1) hh hit2 hl2 rfl fun h3' hs3 => ?_)
  show wpAny _ A.in1 (ret Value.none) _ _ _
  refine wpAny_pure (hR h3' (s.toks + 1) ?_ fun b o hb hI e => hs3 _ _ hI (hsb.extBut _ _ hb (hs.extBut _ _ hI e)))
  obtain ⟨o, es, ep, tb, ho, rest⟩ := hS2
  exact SetOf_congr ⟨o, es, ep, tb, hs3 _ _ h1 ho, rest⟩ (fun k => by simp) rfl
theorem set_of_one {l : Addr} {x : Str} {t : Tok} {n : Nat} {Q : Value → Shared → Prop} (hh : A.handled = none) (hl : s.heap.get? l = some (W.listOf #[.str x t] n))
    (h : ∀ h' tk, h'.SetOf (strKind prog w) s.heap.objs.size (fun k => decide (k = x)) 1 → (∀ b o, s.heap.get? b = some o → h'.get? b = some o) → Q (.ref s.heap.objs.size) { s with heap := h', toks := tk }) :
    wpAny (model prog w) A (call (.type "set") [.ref l]) Q E s := by
  have hlt : @LT.lt Nat _ l s.heap.objs.size := Heap.lt_size hl
  have h1 := F.called_set.notType
  have h2 := F.called_set.canCreate
  have hct := F.typeCall_set_1 (.ref l)
  obtain ⟨c, tl, hmro⟩ := F.called_set.mro
  have hmade := F.called_set.made
  have hsub := F.called_set.sub
  refine wpAny_call (codeAny_of_tree ?_)
  show wpAny _ _ (callAny (.type "set") _) _ _ _
  refine wpAny_pure ⟨Code.quiet_builtin _ (by decide +kernel), codeAny_builtin F.entry_type_call ?_⟩
  rw [Around.under_plain (weight_type_call_type "set" [.ref l] []) rfl]
  repeat (any_goals (first | assumption | wp_step))
  refine codeAny_mono (code_set_new_1 (.ref l) (E := E) (Q₁ := fun obj s₁ => ∃ led : Bool, obj = .ref s.heap.objs.size ∧ s₁ = { s with heap := s.heap.push { cls := .type "set", dict := none, data := .set #[] 0 (.fresh 0 0 led) } }) fun led => ⟨led, rfl, rfl⟩) fun r s₁ hr => ?_
  rcases r with e | (obj | _ | _ | _) <;> first | exact hr.elim | exact hr | skip
  obtain ⟨led, rfl, rfl⟩ := hr
  have hS : (s.heap.push { cls := .type "set", dict := none, data := .set #[] 0 (.fresh 0 0 led) }).get? s.heap.objs.size = some { cls := .type "set", dict := none, data := .set #[] 0 (.fresh 0 0 led) } := Heap.get?_push_size _ rfl
  have hz1 : (s.heap.push { cls := .type "set", dict := none, data := .set #[] 0 (.fresh 0 0 led) }).objs.size = s.heap.objs.size + 1 := Heap.size_push ..
  have up1 : ∀ b o, s.heap.get? b = some o → (s.heap.push { cls := .type "set", dict := none, data := .set #[] 0 (.fresh 0 0 led) }).get? b = some o := fun b o e => Heap.get?_push_of_some _ e
  have hltS : ∀ b o, s.heap.get? b = some o → @LT.lt Nat _ b s.heap.objs.size := fun b o e => Heap.lt_size e
  generalize s.heap.objs.size = D at *
  generalize s.heap.push { cls := .type "set", dict := none, data := .set #[] 0 (.fresh 0 0 led) } = h1' at *
  have hT : Shared.TypeIs { s with heap := h1' } (.ref D) "set" := ⟨_, hS, rfl⟩
  have hli := F.called_set.init.lookup
  have hbi := F.called_set.init.bind (.ref D)
  repeat (any_goals (first | assumption | wp_step))
  refine codeAny_mono (codeAny_call_builtin (R := wants (fun r s₂ => r = .none ∧ Q (.ref D) s₂) E) F.called_set.init.plain F.entry_set_init (check_set_init_1 hT ?_)) fun r₂ s₂ hr₂ => ?_
  · have hl1 := up1 _ _ hl
    have hl2 : h1'.IsList l #[.str x t] := ⟨_, hl1, rfl, _, rfl⟩
    have hsls := F.sub_list_set
    have hslf := F.sub_list_frozenset
    have hne : (Value.type "list" == Value.type "dict") = false := by decide
    unfold Builtin.«set.__init__» noKeywords Builtin.Frozenset.updateFrom
    generalize hPI : pyIter = PI
    wp_walk
    subst hPI
    refine wpAny_pyIter_list hl2 ?_
    refine wpAny_bind (wpAny_runValue ?_)
    have hIz : (h1'.push { cls := .type "list_iterator", data := .fields #[.ref l, .int 0 0] }).get? h1'.objs.size = some { cls := .type "list_iterator", data := .fields #[.ref l, .int 0 0] } := Heap.get?_push_size _ rfl
    have up2 : ∀ b o, h1'.get? b = some o → (h1'.push { cls := .type "list_iterator", data := .fields #[.ref l, .int 0 0] }).get? b = some o := fun b o e => Heap.get?_push_of_some _ e
    have hDI : D ≠ h1'.objs.size := by rw [hz1]; exact Nat.ne_of_lt (Nat.lt_succ_self _)
    have hlI : l ≠ h1'.objs.size := by rw [hz1]; exact Nat.ne_of_lt (Nat.lt_succ_of_lt hlt)
    refine set_loop_one (by simp [hh]) ⟨_, hIz, rfl, rfl⟩ ⟨_, up2 _ _ hl1, rfl, _, rfl⟩ ((setObjOf_fresh (knd := strKind prog w) led).setOf (up2 _ _ hS) (by decide)) hDI (Nat.ne_of_gt hlt) hlI fun h' tk hS' hk => ?_
    show wpAny _ _ (pure ()) _ _ _
    refine wpAny_pure ?_
    show wpAny _ _ (ret Value.none) _ _ _
    exact wpAny_pure ⟨rfl, h h' tk hS' fun b o e => hk b o (Nat.ne_of_lt (hltS b o e)) (by rw [show ({ s with heap := h1' } : Shared).heap.objs.size = D + 1 from hz1]; exact Nat.ne_of_lt (Nat.lt_succ_of_lt (hltS b o e))) (up2 _ _ (up1 _ _ e))⟩
  · rcases r₂ with e | (r | _ | _ | _) <;> first | exact hr₂.elim | exact hr₂ | skip
    obtain ⟨rfl, hq⟩ := hr₂
    repeat (any_goals (first | assumption | wp_step))
theorem set_one_N {h₀ : Heap} {L : Addr} {m : Str → Option Value} {news : List (Addr × Obj)} {l : Addr} {x : Str} {t : Tok} {n : Nat} {Q : Value → Shared → Prop} (hh : A.handled = none) (F : Fr h₀ L s.heap m) (N : News h₀ L s.heap news) (hl : (l, W.listOf (List.toArray [.str x t]) n) ∈ news)
    (h : ∀ (D : Nat) so h' tk, SSet prog w so (fun k => decide (k = x)) 1 → Fr h₀ L h' m → News h₀ L h' ((D, so) :: news) → (∀ p ∈ news, @LT.lt Nat _ p.1 D) → Q (.ref D) { s with heap := h', toks := tk }) :
    wpAny (model prog w) A (call (.type "set") [.ref l]) Q E s := by
  refine set_of_one hh (N _ hl).1 fun h' tk hS hk => ?_
  obtain ⟨so, ho, hso⟩ := hS.objOf
  have hLlt : @LT.lt Nat _ L s.heap.objs.size := by obtain ⟨oL, es, ep, hL, r⟩ := F.ns; exact Heap.lt_size hL
  refine h _ so h' tk hso (F.keeps hk) ?_ fun p hp => Heap.lt_size (N p hp).1
  refine fun p hp => ?_
  rcases List.mem_cons.mp hp with rfl | hp
  · refine ⟨ho, Nat.ne_of_gt hLlt, ?_⟩
    cases hq : h₀.get? s.heap.objs.size with
    | none => rfl
    | some o' => exact absurd (Heap.lt_size (F.keep _ _ hq)) (Nat.lt_irrefl _)
  · exact ⟨hk _ _ (N p hp).1, (N p hp).2⟩
end
end
section
open PySem PySem.W PyProof.Rows PySem.Calls PySem.Spec
theorem look44 (w : World) : ∃ l n, (hd.heap_1 w.params).lookup 44 = some (dictOf (entS w l) n) ∧ (l.map (·.1)).Nodup ∧ l.length = 7 := ⟨[(_, _, _), (_, _, _), (_, _, _), (_, _, _), (_, _, _), (_, _, _), (_, _, _)], _, rfl, by decide, rfl⟩
section
variable {prog : Program} {w : World} {A : Around} {E : Value → Shared → Prop} {s : Shared} {h₀ : Heap} {L d v : Addr} {m : Str → Option Value} {news : List (Addr × Obj)} {l : List (Str × Tok × Value)} {n : Nat}
theorem items_method {pl : Sem Bool} {Q : Value × List Value → Shared → Prop} (F : Fr h₀ L s.heap m) (hX : h₀.get? d = some (dictOf (entS w l) n)) (h : Q (.builtin "dict.items", [.ref d]) s) : wpAny (model prog w) A (getMethod (.ref d) (Str.ofString "items") pl) Q E s := by
  have ho := F.keep _ _ hX
  exact getMethod_builtin ⟨_, ho, rfl⟩ PySem.F.plainAttrs_dict PySem.F.slot_dict_items PySem.F.type_dict_items (fun a e => by cases e; exact ⟨_, ho, rfl⟩) h
theorem items_view {Q : Value → Shared → Prop} (F : Fr h₀ L s.heap m) (N : News h₀ L s.heap news) (hX : h₀.get? d = some (dictOf (entS w l) n)) (hnd : (l.map (·.1)).Nodup) (lo : (d == sysModules) = false)
    (h : ∀ (D : Nat) h', Fr h₀ L h' m → News h₀ L h' ((D, { cls := .type "dict_items", data := .fields #[.ref d] }) :: news) → (∀ q ∈ news, @LT.lt Nat _ q.1 D) → Q (.ref D) { s with heap := h' }) :
    wpAny (model prog w) A (call (.builtin "dict.items") [.ref d]) Q E s := by
  have hD := (dictAt_ents (prog := prog) (F.keep _ _ hX) hnd).dictOf
  exact call_meetsIn PySem.F.slot_dict_items hD.typeIs PySem.F.entry_dict_items (PySem.F.args_dict_items_1 _) (meets_dict_items (strKind prog w) d lo) ⟨⟨_, hD⟩, h _ _ (F.push _) (News.push F N _) fun q hq => Heap.lt_size (N q hq).1⟩
theorem items_list {Q : Value → Shared → Prop} (hh : A.handled = none) (F : Fr h₀ L s.heap m) (N : News h₀ L s.heap news) (hX : h₀.get? d = some (dictOf (entS w l) n)) (hnd : (l.map (·.1)).Nodup) (hz : l.length ≤ 1000) (hv : (v, { cls := .type "dict_items", data := .fields #[.ref d] }) ∈ news)
    (h : ∀ (D : Nat) h' tk', Fr h₀ L h' m → News h₀ L h' news → Q (.ref D) { s with heap := h', toks := tk' }) :
    wpAny (model prog w) A (call (.type "list") [.ref v]) Q E s := by
  have hD := dictAt_ents (prog := prog) (F.keep _ _ hX) hnd
  refine kdx_call (knd := strKind prog w) hh ⟨_, (N _ hv).1, rfl, rfl⟩ hD (by rw [sizeLine_eq, List.length_map]; (first | lia | omega)) fun h' tk acc c as hk hS hl hG hacc => ?_
  exact h _ h' tk (F.keeps hk) fun q hq => ⟨hk _ _ (N q hq).1, (N q hq).2⟩
end
end
section
open PySem PySem.W PyProof.Rows PySem.Calls
theorem words_KI : PySem.Challenge.rw_nb0300_01.row.prog = PySem.Challenge.rw_nb0300_01.row.prog → hd.heap_1 = hd.heap_1 → True := by
  k_with_none
  k_fill
  k_with "k_mem" => first | exact memH0 | exact memH1 | exact memH2 | exact memH3 | exact memH4 | exact memH5 | exact memH6 | exact memH7 | exact memH8 | exact memH9 | exact memH10 | exact memH11 | exact memH12 | exact memH13 | exact memH14 | exact memH15 | exact memH16 | (with_reducible assumption) | (refine memT1 ?_; with_reducible assumption) | (refine memT2 ?_; with_reducible assumption) | (refine memT3 ?_; with_reducible assumption) | (refine memT4 ?_; with_reducible assumption) | (refine memT5 ?_; with_reducible assumption) | (refine memT6 ?_; with_reducible assumption) | (refine memT7 ?_; with_reducible assumption) | (refine memT8 ?_; with_reducible assumption) | (refine memT9 ?_; with_reducible assumption) | (refine memT10 ?_; with_reducible assumption) | (refine memT11 ?_; with_reducible assumption) | (refine memT12 ?_; with_reducible assumption) | (refine memT13 ?_; with_reducible assumption) | (refine memT14 ?_; with_reducible assumption) | (refine memT15 ?_; with_reducible assumption) | (refine memT16 ?_; with_reducible assumption) | (refine memT17 ?_; with_reducible assumption)
  k_with "k_upd" => first | (refine' upd0 ?a ?b; (case a => with_reducible assumption); (case b => k_dflt exact rfl)) | (refine' upd1 ?a ?b; (case a => with_reducible assumption); (case b => k_dflt exact rfl)) | (refine' upd2 ?a ?b; (case a => with_reducible assumption); (case b => k_dflt exact rfl)) | (refine' upd3 ?a ?b; (case a => with_reducible assumption); (case b => k_dflt exact rfl)) | (refine' upd4 ?a ?b; (case a => with_reducible assumption); (case b => k_dflt exact rfl)) | (refine' upd5 ?a ?b; (case a => with_reducible assumption); (case b => k_dflt exact rfl)) | (refine' upd6 ?a ?b; (case a => with_reducible assumption); (case b => k_dflt exact rfl)) | (refine' upd7 ?a ?b; (case a => with_reducible assumption); (case b => k_dflt exact rfl)) | (refine' upd8 ?a ?b; (case a => with_reducible assumption); (case b => k_dflt exact rfl)) | (refine' upd9 ?a ?b; (case a => with_reducible assumption); (case b => k_dflt exact rfl)) | (refine' upd10 ?a ?b; (case a => with_reducible assumption); (case b => k_dflt exact rfl)) | (refine' upd11 ?a ?b; (case a => with_reducible assumption); (case b => k_dflt exact rfl)) | (refine' upd12 ?a ?b; (case a => with_reducible assumption); (case b => k_dflt exact rfl)) | (refine' upd13 ?a ?b; (case a => with_reducible assumption); (case b => k_dflt exact rfl))
  k_with "k_updF" => first | (refine' updF0 ?a ?b; (case a => with_reducible assumption); (case b => k_dflt exact rfl)) | (refine' updF1 ?a ?b; (case a => with_reducible assumption); (case b => k_dflt exact rfl)) | (refine' updF2 ?a ?b; (case a => with_reducible assumption); (case b => k_dflt exact rfl)) | (refine' updF3 ?a ?b; (case a => with_reducible assumption); (case b => k_dflt exact rfl)) | (refine' updF4 ?a ?b; (case a => with_reducible assumption); (case b => k_dflt exact rfl)) | (refine' updF5 ?a ?b; (case a => with_reducible assumption); (case b => k_dflt exact rfl)) | (refine' updF6 ?a ?b; (case a => with_reducible assumption); (case b => k_dflt exact rfl)) | (refine' updF7 ?a ?b; (case a => with_reducible assumption); (case b => k_dflt exact rfl)) | (refine' updF8 ?a ?b; (case a => with_reducible assumption); (case b => k_dflt exact rfl)) | (refine' updF9 ?a ?b; (case a => with_reducible assumption); (case b => k_dflt exact rfl)) | (refine' updF10 ?a ?b; (case a => with_reducible assumption); (case b => k_dflt exact rfl)) | (refine' updF11 ?a ?b; (case a => with_reducible assumption); (case b => k_dflt exact rfl)) | (refine' updF12 ?a ?b; (case a => with_reducible assumption); (case b => k_dflt exact rfl)) | (refine' updF13 ?a ?b; (case a => with_reducible assumption); (case b => k_dflt exact rfl))
  k_with "cx" => exact CxA.le (by with_reducible assumption) (by decide)
  k_with "go" => repeat' (first
    | (k_unfold; (try dsimp only))
    | ((fail_if_success (with_reducible show wpAny _ _ (PySem.exec (PySem.Stmt.For _ _ _ _ _) _) _ _ _)); (fail_if_success (with_reducible show wpAny _ _ (PySem.exec (PySem.Stmt.While _ _ _ _) _) _ _ _)); (fail_if_success (with_reducible show wpAny _ _ (pyIter _) _ _ _)); (fail_if_success (with_reducible show wpAny _ _ (subscriptTail _ (PySem.Expr.Slice _ _ _ _) (Value.ref _) _) _ _ _)); first | walk1 | (dsimp only; walk1))
    | fail "no step")
  k_with "goJ" => repeat' (first
    | (k_unfold; (try dsimp only))
    | ((fail_if_success (with_reducible show wpAny _ _ (PySem.execs (PySem.Stmt.If _ _ (_ :: _) _ :: _) _) _ _ _)); (fail_if_success (with_reducible show wpAny _ _ (PySem.execs (PySem.Stmt.If (PySem.Expr.Attribute _ (PySem.Str.ofString "_data") _) _ _ _ :: _) _) _ _ _)); first | walk1 | (dsimp only; walk1))
    | fail "no step")
  k_with "goL" => repeat' (first
    | (k_unfold; (try dsimp only))
    | ((fail_if_success (with_reducible show wpAny _ _ (PySem.eval (PySem.Expr.ListComp _ _ _ _) _) _ _ _)); first | walk1 | (dsimp only; walk1))
    | fail "no step")
  k_with "goG" => repeat' (first
    | (k_unfold; (try dsimp only))
    | ((fail_if_success (with_reducible show wpAny _ _ (PySem.call (Value.builtin _) _) _ _ _)); first | walk1 | (dsimp only; walk1))
    | fail "no step")
  k_with "execs cons" => (try dsimp only); first | (with_reducible refine execs_one ?_) | (with_reducible refine execsS ?_)
  k_with "execs nil" => with_reducible refine wpAny_execs_nil ?_
  k_with "tpos" => (try dsimp only); first | exact Nat.succ_pos _ | assumption | (first | lia | omega)
  k_with "QS" => (try dsimp only); first | ((with_reducible refine QS_next (by first | exact Nat.succ_pos _ | assumption | (first | lia | omega)) ?_); intro tk htk) | ((with_reducible refine QS_any ?_); intro tk) | (with_reducible refine QS_ret ?_) | (with_reducible refine QS_brk ?_) | (with_reducible refine QS_cont ?_)
  k_with "QF" => (first | (with_reducible refine QF_ret (by k_asm) (by k_asm) ?_) | (with_reducible refine QF_next (by k_asm) (by k_asm) ?_)); intro kF kN
  k_with "storeName" => k_here; k_dflt (refine' storeP ?F ?N ?_ ?a ?b; (case F => k_asm); (case N => k_asm); (case a => rfl); (case b => rfl); k_whole); intro h' F' N'; (try k_sweep)
  k_with "eval Attribute Name" => k_here; (with_reducible show wpAny _ _ (eval (PySem.Expr.Attribute (PySem.Expr.Name (PySem.Str.ofString "self") _) _ _) (envOf _ _ _ _ _)) _ _ _); k_dflt (refine' attrR ?F ?X ?N ?s ?h1 ?h2 (attr_ok _ _ ?ok) ?hl ?hv ?_ ?hk ?hx; (case F => k_asm); (case X => k_asm); (case N => k_asm); (case s => exact rfl); (case h1 => k_mem); (case h2 => k_mem); (case ok => exact rfl); (case hl => k_get); (case hv => k_handed); (case hk => exact rfl); (case hx => exact rfl); k_whole); (try dsimp only)
  k_with "call builtin:list.append" => k_here; (with_reducible show wpAny _ _ (call (Value.builtin _) [Value.ref _, _]) _ _ _); k_dflt (refine' append_L ?k1 ?k2 ?k3 ?z ?_; (case k1 => k_asm); (case k2 => k_asm); (case k3 => k_upd); (case z => first | exact n_le (by with_reducible assumption) rfl | (first | lia | omega) | (simp only [strValues, List.length_map, List.length_append, List.length_cons, List.length_nil]; (first | lia | omega))); k_whole); intro h' F' N'; (try k_sweep)
  k_with "call builtin:str.replace" => (with_reducible show wpAny _ _ (call (Value.builtin "str.replace") [Value.str _ _, Value.str _ _, Value.str _ _]) _ _ _); k_dflt (refine' replace_P ?a ?b ?c ?d ?e ?_; (case a => (refine ltN ?_; first | assumption | (first | lia | omega))); (case b => (refine ltN ?_; first | assumption | (first | lia | omega))); (case c => decide); (case d => (first | lia | omega)); (case e => decide)); intro t' k' hk'; (try dsimp only at hk')
  k_with "bound" => first | exact BndAt.ofK (by k_asm) (by k_asm) (by assumption) | exact (BndAt.of (by k_asm) (by k_mem))
  k_with "callWith" => (with_reducible show wpAny _ _ (callWith _ (Value.builtin _) (_ :: _) _ _) _ _ _); refine PyProof.Rows.callWith_method1 ?_
  k_with "callWith ref" => k_here; (with_reducible show wpAny _ _ (callWith _ (Value.ref _) _ (backTo _ (starEach (_ :: _) _)) []) _ _ _); k_dflt (refine' callWith_B ?kb ?_; (case kb => walk_at "bound"); k_whole)
  k_with "And" => (with_reducible show BndAt _ _ _ _ ∧ _); k_dflt (refine ⟨by walk_at "bound", ?_⟩); (try dsimp only [List.nil_append, List.cons_append])
  k_with "delItem ref ref" => k_here; (with_reducible show wpAny _ _ (delItem (Value.ref _) (Value.ref _)) _ _ _); k_dflt (refine' del_all ?F ?N ?U ?z ?_; (case F => k_asm); (case N => k_asm); (case U => k_updF); (case z => first | exact n_le (by with_reducible assumption) rfl | (first | lia | omega) | (simp only [strValues, List.length_map]; (first | lia | omega)))); intro h' n' F' N'; (try dsimp only at N')
  k_with "call ref" => k_here; (with_reducible show wpAny _ _ (call (Value.ref 98) [Value.ref _]) _ _ _); k_dflt (refine' join_B ?b ?l rfl ?j ?t ?_; (case b => walk_at "bound"); (case l => exact News.isList (by k_asm) (by k_mem)); (case j => assumption); (case t => ((try dsimp only); first | assumption | (first | lia | omega)))); intro t' k' hk'
  k_with "call ref" => k_here; (with_reducible show wpAny _ _ (call (Value.ref _) [Value.str _ _]) _ _ _); k_dflt (refine' append_B ?F ?N ?b ?U ?z ?_; (case F => k_asm); (case N => k_asm); (case b => k_mem); (case U => k_upd); (case z => first | exact n_le (by with_reducible assumption) rfl | (first | lia | omega) | (simp only [strValues, List.length_append, List.length_map, List.length_cons, List.length_nil]; (first | lia | omega)))); intro h' F' N'; (try dsimp only at N')
  k_with "truthy str" => (with_reducible show wpAny _ _ (PySem.truthy (Value.str _ _)) _ _ _); refine truthy_yes (by assumption) (by (first | lia | omega)) ?_
  k_with "binaryOp Add ref ref" => k_here; (with_reducible show wpAny _ _ (binaryOp _ (Value.ref _) (Value.ref _)) _ _ _); k_dflt (refine' add_L ?F ?N ?a ?b ?z ?_; (case F => k_asm); (case N => k_asm); (case a => exact News.isList (by k_asm) (by k_mem)); (case b => exact News.isList (by k_asm) (by k_mem)); (case z => (simp only [List.length_nil, List.length_cons]; (first | lia | omega)))); intro D' h' F' N' l1; (try k_lt l1); (try k_sweep)
  k_with "hh" => first | exact CxA.hh (by with_reducible assumption) | assumption
  k_with "assign Tuple" => k_here; (with_reducible show wpAny _ _ (assign (Expr.Tuple _ _ _) _ (Value.ref _)) _ _ _); k_dflt (refine' unpackN_ ?F ?N ?T ?k1 ?k2 ?k3 ?_; (case F => k_asm); (case N => k_asm); (case T => refine News.isTup (by k_asm) (by k_mem)); (case k1 => walk_at "hh"); (case k2 => exact rfl); (case k3 => exact rfl)); intro h' F' N'; (try k_sweep)
  k_with "truthy ref" => (with_reducible show wpAny _ _ (PySem.truthy (Value.ref _)) _ _ _); k_dflt (first | (refine truthy_L (b := false) (by k_asm) (by k_mem) rfl ?_ ?_) | (refine truthy_L (b := true) (by k_asm) (by k_mem) rfl ?_ ?_)); (case' refine_1 => first | exact n_le (by with_reducible assumption) rfl | (first | lia | omega) | (simp only [strValues, List.length_map, List.length_cons, List.length_nil] at *; (first | lia | omega))); skip
  k_with "call builtin:list.pop" => k_here; (with_reducible show wpAny _ _ (call (Value.builtin _) [Value.ref _]) _ _ _); k_dflt (refine' pop_L ?F ?N ?U ?z ?_; (case F => k_asm); (case N => k_asm); (case U => k_upd); (case z => first | exact n_le (by with_reducible assumption) rfl | (first | lia | omega) | (simp only [List.length_append, List.length_cons, List.length_nil]; (first | lia | omega)))); intro h' F' N'; (try dsimp only at N')
  k_with "call builtin:len" => k_here; (with_reducible show wpAny _ _ (call (Value.builtin "len") [Value.ref _]) _ _ _); k_dflt (refine' len_L ?N ?m ?z ?_; (case N => k_asm); (case m => k_mem); (case z => first | exact n_le (by with_reducible assumption) rfl | (first | lia | omega) | (simp only [strValues, List.length_map, List.length_append, List.length_cons, List.length_nil]; (first | lia | omega)))); intro t'
  k_with "sset" => first | assumption | exact sset_fresh _
  k_with "getMethod ref" => k_here; (with_reducible show wpAny _ _ (getMethod (Value.ref _) (PySem.Str.ofString "_iter_namespaces") _) _ _ _); k_dflt (refine' method_shadow ?k1 ?k2 ?k3 ?k4 ?k5 ?k6 ?k7 ?k8 ?k9 ?k10 ?k11 ?_; (case k1 => k_asm); (case k2 => k_asm); (case k3 => k_inst); (case k4 => k_is); (case k5 => k_is); (case k6 => k_is); (case k7 => k_is); (case k8 => k_is); (case k9 => k_is); (case k10 => k_get); (case k11 => k_handed); k_whole)
  k_with "getMethod ref" => (with_reducible show wpAny _ _ (getMethod (Value.ref _) (PySem.Str.ofString "_write") _) _ _ _); walk_at "last getMethod ref"
  k_with "getMethod ref" => k_here; (with_reducible show wpAny _ _ (getMethod (Value.ref _) (PySem.Str.ofString "add") _) _ _ _); k_dflt (refine' sset_method ?N ?m ?o ?b ?_; (case N => k_asm); (case m => k_mem); (case o => walk_at "sset"); (case b => decide))
  k_with "call builtin:set.add" => k_here; (with_reducible show wpAny _ _ (call (Value.builtin _) [Value.ref _, Value.str _ _]) _ _ _); k_dflt (refine' sset_add ?F ?N ?U ?o ?b ?_; (case F => k_asm); (case N => k_asm); (case U => k_updF); (case o => walk_at "sset"); (case b => decide)); intro h' so' F' N' hS'; (try dsimp only at N')
  k_with "compareOp NotIn str ref" => k_here; (with_reducible show wpAny _ _ (compareOp _ (Value.str _ _) (Value.ref _)) _ _ _); k_dflt (refine' sset_notin ?N ?m ?o ?b ?_; (case N => k_asm); (case m => k_mem); (case o => walk_at "sset"); (case b => first | decide | (split <;> decide)))
  k_with "compareOp In str ref" => k_here; (with_reducible show wpAny _ _ (compareOp _ (Value.str _ _) (Value.ref _)) _ _ _); k_dflt (refine' sset_in ?N ?m ?o ?b ?_; (case N => k_asm); (case m => k_mem); (case o => walk_at "sset"); (case b => first | decide | (split <;> decide)))
  intros
  trivial
noncomputable abbrev tgt17 (w : World) (wm dA et ds ns pm ps : Nat) (cm : Bool) (tig t0 t1 t2 t3 t4 t5 t6 t7 t8 t9 t10 t11 t12 t13 t14 t15 t16 : Tok) : List DictEntry := [
  ⟨PyData.keyHash w.params (Str.ofString "_write"), .str (Str.ofString "_write") t0, .ref wm⟩,
  ⟨PyData.keyHash w.params (Str.ofString "_data"), .str (Str.ofString "_data") t1, .ref dA⟩,
  ⟨PyData.keyHash w.params (Str.ofString "_with_comments"), .str (Str.ofString "_with_comments") t2, .bool cm⟩,
  ⟨PyData.keyHash w.params (Str.ofString "_strip_text"), .str (Str.ofString "_strip_text") t3, .bool false⟩,
  ⟨PyData.keyHash w.params (Str.ofString "_exclude_attrs"), .str (Str.ofString "_exclude_attrs") t4, .none⟩,
  ⟨PyData.keyHash w.params (Str.ofString "_exclude_tags"), .str (Str.ofString "_exclude_tags") t5, .ref et⟩,
  ⟨PyData.keyHash w.params (Str.ofString "_rewrite_prefixes"), .str (Str.ofString "_rewrite_prefixes") t6, .bool false⟩,
  ⟨PyData.keyHash w.params (Str.ofString "_qname_aware_tags"), .str (Str.ofString "_qname_aware_tags") t7, .none⟩,
  ⟨PyData.keyHash w.params (Str.ofString "_find_qname_aware_attrs"), .str (Str.ofString "_find_qname_aware_attrs") t8, .none⟩,
  ⟨PyData.keyHash w.params (Str.ofString "_declared_ns_stack"), .str (Str.ofString "_declared_ns_stack") t9, .ref ds⟩,
  ⟨PyData.keyHash w.params (Str.ofString "_ns_stack"), .str (Str.ofString "_ns_stack") t10, .ref ns⟩,
  ⟨PyData.keyHash w.params (Str.ofString "_prefix_map"), .str (Str.ofString "_prefix_map") t11, .ref pm⟩,
  ⟨PyData.keyHash w.params (Str.ofString "_preserve_space"), .str (Str.ofString "_preserve_space") t12, .ref ps⟩,
  ⟨PyData.keyHash w.params (Str.ofString "_pending_start"), .str (Str.ofString "_pending_start") t13, .none⟩,
  ⟨PyData.keyHash w.params (Str.ofString "_root_seen"), .str (Str.ofString "_root_seen") t14, .bool false⟩,
  ⟨PyData.keyHash w.params (Str.ofString "_root_done"), .str (Str.ofString "_root_done") t15, .bool false⟩,
  ⟨PyData.keyHash w.params (Str.ofString "_ignored_depth"), .str (Str.ofString "_ignored_depth") t16, .int 0 tig⟩]
section
variable {k j : Nat} {w : World} {p : Program} {loose : List Str} {mean : ExcName → Option Value} {mg mb : Str → Option Value} {A : Around} {env : Env} {outer : List Env} {base h₀ : Heap} {L : Addr} {m : Str → Option Value} {s : Shared} {news : List (Addr × Obj)} {Q : Value → Shared → Prop}
  {name qual : Str} {params : Arguments} {body : List Stmt} {scope : Scope} {dV kV doc pm cdv ct oc : Value} {an od : Option Addr} {osl : Array (Option Value)} {f : Addr} {args : Args} {binds ps : List (Str × Value)}
theorem CxA.under {C : Addr} {vals : List Value} {kw : List (Str × Value)} (c : CxA (k + 1) w p loose mean mg mb A env outer base h₀ L) : CxA k w p loose mean mg mb (A.under (.builtin "type.__call__" ⟨.ref C :: vals, kw⟩)) env outer base h₀ L := by
  refine ⟨c.st, c.fr, c.T, c.X, c.hf, c.hl, c.hk, c.hh, ?_, ?_⟩
  · have := c.hd
    show A.depth + 1 + k < _
    (first | lia | omega)
  · have := c.hu
    show A.units + 1 + 8 * k < _
    (first | lia | omega)
theorem codeAk (c : CxA (k + 1) w p loose mean mg mb A env outer base h₀ L) (F : Fr h₀ L s.heap m) (N : News h₀ L s.heap news)
    (ho : (hd.heap_1 w.params).lookup f = some ⟨oc, od, .func (fnOf name qual params body scope dV kV doc pm an cdv ct), osl⟩) (hcd : codeIn (hd.heap_1 w.params) cdv qual = true)
    (hbind : BindsTo s (fnOf name qual params body scope dV kV doc pm an cdv ct) args binds) (hps : binds.reverse = ps) (h0 : 0 < binds.length) (hloc : ∀ y ∈ binds, scope.names.lookup y.1 = some .local)
    (h : ∀ A' g L' h₁ tk, 0 < tk → CxA k w p loose mean mg mb A' (envOf qual scope L' f cdv) (env :: outer) base g L' → (hd.heap_1 w.params).In g → Fr h₀ L g m → Fr g L' h₁ (pinned nom ps) → News g L' h₁ news →
      wpAny (model thePr w) A' (execs body (envOf qual scope L' f cdv)) (QF h₀ L m g Q) Nay { s with heap := h₁, toks := tk })
    (hco : scope.isCoroutine = false) (hgen : scope.isGenerator = false) (hk : scope.kind = .function) (hcell : ∀ x ∈ scope.names, x.2 ≠ .cell) :
    codeAny (model thePr w) A (.call (.ref f) args) (fun r s' => match r with | .ok (.ret v) => Q v s' | .ok _ => False | .error e => Nay e s') s := by
  refine code_def c.B F c.X N c.T c.hf c.hl c.hk ho hcd (by have := c.hd; (first | lia | omega)) hbind hloc (fun g L' h₁ FG F1 N1 B1 X1 T1 => ?_) hco hgen hk hcell
  subst hps
  exact ok_any (h _ g L' h₁ _ (Nat.lt_of_lt_of_le h0 (Nat.le_add_left ..)) (c.in_ B1 X1 T1 hk) X1 FG (lk_fr F1) N1)
end
theorem init_spec : ∀ {w : World} {p : Program} {loose : List Str} {mean : ExcName → Option Value} {mg mb : Str → Option Value} {A : Around} {env : Env} {outer : List Env} {base h₀ : Heap} {L : Addr} {m : Str → Option Value} {s : Shared} {Q : Value → Shared → Prop} {x dx wm et0 ne : Nat} {b : Bool} {te : Tok} {news : List (Addr × Obj)}
    (_ : CxA 5 w p loose mean mg mb A env outer base h₀ L) (_ : Fr h₀ L s.heap m)
    (_ : News h₀ L s.heap ((x, instObj 150 dx) :: (dx, dictOf [] 0) :: news))
    (_ : Nd [x, dx] news)
    (_ : (et0, W.listOf (List.toArray [.str (Str.ofString "x") te]) ne) ∈ news)
    (_ : ∀ (ps pm a2 vw ns a1 nn ds l0 tpl et dA ntp : Nat) od ov so tu tx tig t0 t1 t2 t3 t4 t5 t6 t7 t8 t9 t10 t11 t12 t13 t14 t15 t16 h' tk', 0 < tk' → SSet thePr w so (fun k => decide (k = Str.ofString "x")) 1 → Nd [ps, pm, a2, vw, ns, ds, l0, tpl, et, dA, x, dx] news → Fr h₀ L h' m → News h₀ L h' ((ps, W.listOf (List.toArray [.bool false]) 0) :: (pm, od) :: (a2, W.listOf (List.toArray []) 0) :: (vw, ov) :: (ns, W.listOf (List.toArray [.ref a1, .ref a2]) nn) :: (ds, W.listOf (List.toArray [.ref l0]) 0) :: (l0, W.listOf (List.toArray [.ref tpl]) 0) :: (tpl, nsTup tu tx ntp) :: (et, so) :: (dA, W.listOf (List.toArray []) 0) :: (x, instObj 150 dx) :: (dx, dictOf (tgt17 w wm dA et ds ns pm ps b tig t0 t1 t2 t3 t4 t5 t6 t7 t8 t9 t10 t11 t12 t13 t14 t15 t16) 17) :: news) → Q .none { s with heap := h', toks := tk' }),
    codeAny (model PySem.Challenge.rw_nb0300_01.row.prog w) A (.call (.ref 67) ⟨[.ref x, .ref wm], [(Str.ofString "with_comments", .bool b), (Str.ofString "exclude_tags", .ref et0)]⟩) (fun r s' => match r with | .ok (.ret v) => Q v s' | .ok _ => False | .error e => Nay e s') s := by
  intro w p loose mean mg mb A env outer base h₀ L m s Q x dx wm et0 ne b te news c F N hn he hret
  have X := c.X
  k_dflt (refine' codeAk (ps := [(Str.ofString "exclude_tags", .ref et0), (Str.ofString "exclude_attrs", .none), (Str.ofString "qname_aware_attrs", .none), (Str.ofString "qname_aware_tags", .none), (Str.ofString "rewrite_prefixes", .bool false), (Str.ofString "strip_text", .bool false), (Str.ofString "with_comments", .bool b), (Str.ofString "write", .ref wm), (Str.ofString "self", .ref x)]) ?c ?F ?N ?ho ?hcd ?hb ?hps ?h0 ?hloc ?_ ?c2 ?c3 ?c4 ?c5; (case c => assumption); (case F => k_asm); (case N => k_asm); (case ho => k_is); (case hcd => k_is); (case hb => (refine' kp_binds ?kx ?ke; (case kx => exact X.keeps F.keep); (case ke => exact fun _ => rfl))); (case hps => exact rfl); (case h0 => exact Nat.le_of_ble_eq_true rfl); (case hloc => exact locs rfl); (case c2 => exact rfl); (case c3 => exact rfl); (case c4 => exact rfl); (case c5 => decide); k_whole)
  intro A1 g1 L1 h1' tk0 htk0 c1 X1 FG1 F1 N1
  have T1 := c1.T
  (k_with "call type:set cons nil" => (with_reducible show wpAny _ _ (call (Value.type "set") [Value.ref _]) _ _ _); k_dflt (refine' set_one_N ?hh ?F ?N ?m ?_; (case hh => walk_at "hh"); (case F => k_asm); (case N => k_asm); (case m => k_mem)); intro D' so' h' tk' hS' F' N' l1; (try k_lt l1))
  obtain ⟨l44, n44, hX0, hnd44, hl44⟩ := look44 w
  have hX44 := X1 _ _ hX0
  clear hX0
  (k_with "getMethod ref" => (with_reducible show wpAny _ _ (getMethod (Value.ref 44) (PySem.Str.ofString "items") _) _ _ _); k_dflt (refine' items_method ?F ?h ?_; (case F => k_asm); (case h => assumption)))
  (k_with "call builtin:dict.items" => (with_reducible show wpAny _ _ (call (Value.builtin _) [Value.ref 44]) _ _ _); k_dflt (refine' items_view ?F ?N ?h ?nd ?sm ?_; (case F => k_asm); (case N => k_asm); (case h => assumption); (case nd => assumption); (case sm => decide)); intro D' h' F' N' l1; (try k_lt l1))
  (k_with "call type:list" => (with_reducible show wpAny _ _ (call (Value.type "list") [Value.ref _]) _ _ _); k_dflt (refine' items_list ?hh ?F ?N ?h ?nd ?z ?v ?_; (case hh => walk_at "hh"); (case F => k_asm); (case N => k_asm); (case h => assumption); (case nd => assumption); (case z => (rw [hl44]; decide)); (case v => k_mem)); intro D' h' tk' F' N')
  walk_at "go"
  rename Nd (_ :: _ :: _ :: _ :: _ :: _ :: _ :: _ :: _ :: _ :: _ :: _ :: []) _ => hn9
  exact hret _ _ _ _ _ _ _ _ _ _ _ _ _ _ _ _ _ _ _ _ _ _ _ _ _ _ _ _ _ _ _ _ _ _ _ _ _ _ (by walk_at "tpos") hS' hn9 kF kN
end
section
open PySem PySem.W PyProof.Rows PySem.Calls
theorem words_KEn : PySem.Challenge.rw_nb0300_01.row.prog = PySem.Challenge.rw_nb0300_01.row.prog → hd.heap_1 = hd.heap_1 → True := by
  k_with_none
  k_fill
  k_with "k_mem" => first | exact memH0 | exact memH1 | exact memH2 | exact memH3 | exact memH4 | exact memH5 | exact memH6 | exact memH7 | exact memH8 | exact memH9 | exact memH10 | exact memH11 | exact memH12 | exact memH13 | exact memH14 | exact memH15 | exact memH16 | (with_reducible assumption) | (refine memT1 ?_; with_reducible assumption) | (refine memT2 ?_; with_reducible assumption) | (refine memT3 ?_; with_reducible assumption) | (refine memT4 ?_; with_reducible assumption) | (refine memT5 ?_; with_reducible assumption) | (refine memT6 ?_; with_reducible assumption) | (refine memT7 ?_; with_reducible assumption) | (refine memT8 ?_; with_reducible assumption) | (refine memT9 ?_; with_reducible assumption) | (refine memT10 ?_; with_reducible assumption) | (refine memT11 ?_; with_reducible assumption) | (refine memT12 ?_; with_reducible assumption) | (refine memT13 ?_; with_reducible assumption) | (refine memT14 ?_; with_reducible assumption) | (refine memT15 ?_; with_reducible assumption) | (refine memT16 ?_; with_reducible assumption) | (refine memT17 ?_; with_reducible assumption)
  k_with "k_upd" => first | (refine' upd0 ?a ?b; (case a => with_reducible assumption); (case b => k_dflt exact rfl)) | (refine' upd1 ?a ?b; (case a => with_reducible assumption); (case b => k_dflt exact rfl)) | (refine' upd2 ?a ?b; (case a => with_reducible assumption); (case b => k_dflt exact rfl)) | (refine' upd3 ?a ?b; (case a => with_reducible assumption); (case b => k_dflt exact rfl)) | (refine' upd4 ?a ?b; (case a => with_reducible assumption); (case b => k_dflt exact rfl)) | (refine' upd5 ?a ?b; (case a => with_reducible assumption); (case b => k_dflt exact rfl)) | (refine' upd6 ?a ?b; (case a => with_reducible assumption); (case b => k_dflt exact rfl)) | (refine' upd7 ?a ?b; (case a => with_reducible assumption); (case b => k_dflt exact rfl)) | (refine' upd8 ?a ?b; (case a => with_reducible assumption); (case b => k_dflt exact rfl)) | (refine' upd9 ?a ?b; (case a => with_reducible assumption); (case b => k_dflt exact rfl)) | (refine' upd10 ?a ?b; (case a => with_reducible assumption); (case b => k_dflt exact rfl)) | (refine' upd11 ?a ?b; (case a => with_reducible assumption); (case b => k_dflt exact rfl)) | (refine' upd12 ?a ?b; (case a => with_reducible assumption); (case b => k_dflt exact rfl)) | (refine' upd13 ?a ?b; (case a => with_reducible assumption); (case b => k_dflt exact rfl))
  k_with "k_updF" => first | (refine' updF0 ?a ?b; (case a => with_reducible assumption); (case b => k_dflt exact rfl)) | (refine' updF1 ?a ?b; (case a => with_reducible assumption); (case b => k_dflt exact rfl)) | (refine' updF2 ?a ?b; (case a => with_reducible assumption); (case b => k_dflt exact rfl)) | (refine' updF3 ?a ?b; (case a => with_reducible assumption); (case b => k_dflt exact rfl)) | (refine' updF4 ?a ?b; (case a => with_reducible assumption); (case b => k_dflt exact rfl)) | (refine' updF5 ?a ?b; (case a => with_reducible assumption); (case b => k_dflt exact rfl)) | (refine' updF6 ?a ?b; (case a => with_reducible assumption); (case b => k_dflt exact rfl)) | (refine' updF7 ?a ?b; (case a => with_reducible assumption); (case b => k_dflt exact rfl)) | (refine' updF8 ?a ?b; (case a => with_reducible assumption); (case b => k_dflt exact rfl)) | (refine' updF9 ?a ?b; (case a => with_reducible assumption); (case b => k_dflt exact rfl)) | (refine' updF10 ?a ?b; (case a => with_reducible assumption); (case b => k_dflt exact rfl)) | (refine' updF11 ?a ?b; (case a => with_reducible assumption); (case b => k_dflt exact rfl)) | (refine' updF12 ?a ?b; (case a => with_reducible assumption); (case b => k_dflt exact rfl)) | (refine' updF13 ?a ?b; (case a => with_reducible assumption); (case b => k_dflt exact rfl))
  k_with "cx" => exact CxA.le (by with_reducible assumption) (by decide)
  k_with "go" => repeat' (first
    | (k_unfold; (try dsimp only))
    | ((fail_if_success (with_reducible show wpAny _ _ (PySem.exec (PySem.Stmt.For _ _ _ _ _) _) _ _ _)); (fail_if_success (with_reducible show wpAny _ _ (PySem.exec (PySem.Stmt.While _ _ _ _) _) _ _ _)); (fail_if_success (with_reducible show wpAny _ _ (pyIter _) _ _ _)); (fail_if_success (with_reducible show wpAny _ _ (subscriptTail _ (PySem.Expr.Slice _ _ _ _) (Value.ref _) _) _ _ _)); first | walk1 | (dsimp only; walk1))
    | fail "no step")
  k_with "goJ" => repeat' (first
    | (k_unfold; (try dsimp only))
    | ((fail_if_success (with_reducible show wpAny _ _ (PySem.execs (PySem.Stmt.If _ _ (_ :: _) _ :: _) _) _ _ _)); (fail_if_success (with_reducible show wpAny _ _ (PySem.execs (PySem.Stmt.If (PySem.Expr.Attribute _ (PySem.Str.ofString "_data") _) _ _ _ :: _) _) _ _ _)); first | walk1 | (dsimp only; walk1))
    | fail "no step")
  k_with "goL" => repeat' (first
    | (k_unfold; (try dsimp only))
    | ((fail_if_success (with_reducible show wpAny _ _ (PySem.eval (PySem.Expr.ListComp _ _ _ _) _) _ _ _)); first | walk1 | (dsimp only; walk1))
    | fail "no step")
  k_with "goG" => repeat' (first
    | (k_unfold; (try dsimp only))
    | ((fail_if_success (with_reducible show wpAny _ _ (PySem.call (Value.builtin _) _) _ _ _)); first | walk1 | (dsimp only; walk1))
    | fail "no step")
  k_with "execs cons" => (try dsimp only); first | (with_reducible refine execs_one ?_) | (with_reducible refine execsS ?_)
  k_with "execs nil" => with_reducible refine wpAny_execs_nil ?_
  k_with "tpos" => (try dsimp only); first | exact Nat.succ_pos _ | assumption | (first | lia | omega)
  k_with "QS" => (try dsimp only); first | ((with_reducible refine QS_next (by first | exact Nat.succ_pos _ | assumption | (first | lia | omega)) ?_); intro tk htk) | ((with_reducible refine QS_any ?_); intro tk) | (with_reducible refine QS_ret ?_) | (with_reducible refine QS_brk ?_) | (with_reducible refine QS_cont ?_)
  k_with "QF" => (first | (with_reducible refine QF_ret (by k_asm) (by k_asm) ?_) | (with_reducible refine QF_next (by k_asm) (by k_asm) ?_)); intro kF kN
  k_with "storeName" => k_here; k_dflt (refine' storeP ?F ?N ?_ ?a ?b; (case F => k_asm); (case N => k_asm); (case a => rfl); (case b => rfl); k_whole); intro h' F' N'; (try k_sweep)
  k_with "eval Attribute Name" => k_here; (with_reducible show wpAny _ _ (eval (PySem.Expr.Attribute (PySem.Expr.Name (PySem.Str.ofString "self") _) _ _) (envOf _ _ _ _ _)) _ _ _); k_dflt (refine' attrR ?F ?X ?N ?s ?h1 ?h2 (attr_ok _ _ ?ok) ?hl ?hv ?_ ?hk ?hx; (case F => k_asm); (case X => k_asm); (case N => k_asm); (case s => exact rfl); (case h1 => k_mem); (case h2 => k_mem); (case ok => exact rfl); (case hl => k_get); (case hv => k_handed); (case hk => exact rfl); (case hx => exact rfl); k_whole); (try dsimp only)
  k_with "call builtin:list.append" => k_here; (with_reducible show wpAny _ _ (call (Value.builtin _) [Value.ref _, _]) _ _ _); k_dflt (refine' append_L ?k1 ?k2 ?k3 ?z ?_; (case k1 => k_asm); (case k2 => k_asm); (case k3 => k_upd); (case z => first | exact n_le (by with_reducible assumption) rfl | (first | lia | omega) | (simp only [strValues, List.length_map, List.length_append, List.length_cons, List.length_nil]; (first | lia | omega))); k_whole); intro h' F' N'; (try k_sweep)
  k_with "call builtin:str.replace" => (with_reducible show wpAny _ _ (call (Value.builtin "str.replace") [Value.str _ _, Value.str _ _, Value.str _ _]) _ _ _); k_dflt (refine' replace_P ?a ?b ?c ?d ?e ?_; (case a => (refine ltN ?_; first | assumption | (first | lia | omega))); (case b => (refine ltN ?_; first | assumption | (first | lia | omega))); (case c => decide); (case d => (first | lia | omega)); (case e => decide)); intro t' k' hk'; (try dsimp only at hk')
  k_with "bound" => first | exact BndAt.ofK (by k_asm) (by k_asm) (by assumption) | exact (BndAt.of (by k_asm) (by k_mem))
  k_with "callWith" => (with_reducible show wpAny _ _ (callWith _ (Value.builtin _) (_ :: _) _ _) _ _ _); refine PyProof.Rows.callWith_method1 ?_
  k_with "callWith ref" => k_here; (with_reducible show wpAny _ _ (callWith _ (Value.ref _) _ (backTo _ (starEach (_ :: _) _)) []) _ _ _); k_dflt (refine' callWith_B ?kb ?_; (case kb => walk_at "bound"); k_whole)
  k_with "And" => (with_reducible show BndAt _ _ _ _ ∧ _); k_dflt (refine ⟨by walk_at "bound", ?_⟩); (try dsimp only [List.nil_append, List.cons_append])
  k_with "delItem ref ref" => k_here; (with_reducible show wpAny _ _ (delItem (Value.ref _) (Value.ref _)) _ _ _); k_dflt (refine' del_all ?F ?N ?U ?z ?_; (case F => k_asm); (case N => k_asm); (case U => k_updF); (case z => first | exact n_le (by with_reducible assumption) rfl | (first | lia | omega) | (simp only [strValues, List.length_map]; (first | lia | omega)))); intro h' n' F' N'; (try dsimp only at N')
  k_with "call ref" => k_here; (with_reducible show wpAny _ _ (call (Value.ref 98) [Value.ref _]) _ _ _); k_dflt (refine' join_B ?b ?l rfl ?j ?t ?_; (case b => walk_at "bound"); (case l => exact News.isList (by k_asm) (by k_mem)); (case j => assumption); (case t => ((try dsimp only); first | assumption | (first | lia | omega)))); intro t' k' hk'
  k_with "call ref" => k_here; (with_reducible show wpAny _ _ (call (Value.ref _) [Value.str _ _]) _ _ _); k_dflt (refine' append_B ?F ?N ?b ?U ?z ?_; (case F => k_asm); (case N => k_asm); (case b => k_mem); (case U => k_upd); (case z => first | exact n_le (by with_reducible assumption) rfl | (first | lia | omega) | (simp only [strValues, List.length_append, List.length_map, List.length_cons, List.length_nil]; (first | lia | omega)))); intro h' F' N'; (try dsimp only at N')
  k_with "truthy str" => (with_reducible show wpAny _ _ (PySem.truthy (Value.str _ _)) _ _ _); refine truthy_yes (by assumption) (by (first | lia | omega)) ?_
  k_with "binaryOp Add ref ref" => k_here; (with_reducible show wpAny _ _ (binaryOp _ (Value.ref _) (Value.ref _)) _ _ _); k_dflt (refine' add_L ?F ?N ?a ?b ?z ?_; (case F => k_asm); (case N => k_asm); (case a => exact News.isList (by k_asm) (by k_mem)); (case b => exact News.isList (by k_asm) (by k_mem)); (case z => (simp only [List.length_nil, List.length_cons]; (first | lia | omega)))); intro D' h' F' N' l1; (try k_lt l1); (try k_sweep)
  k_with "hh" => first | exact CxA.hh (by with_reducible assumption) | assumption
  k_with "assign Tuple" => k_here; (with_reducible show wpAny _ _ (assign (Expr.Tuple _ _ _) _ (Value.ref _)) _ _ _); k_dflt (refine' unpackN_ ?F ?N ?T ?k1 ?k2 ?k3 ?_; (case F => k_asm); (case N => k_asm); (case T => refine News.isTup (by k_asm) (by k_mem)); (case k1 => walk_at "hh"); (case k2 => exact rfl); (case k3 => exact rfl)); intro h' F' N'; (try k_sweep)
  k_with "truthy ref" => (with_reducible show wpAny _ _ (PySem.truthy (Value.ref _)) _ _ _); k_dflt (first | (refine truthy_L (b := false) (by k_asm) (by k_mem) rfl ?_ ?_) | (refine truthy_L (b := true) (by k_asm) (by k_mem) rfl ?_ ?_)); (case' refine_1 => first | exact n_le (by with_reducible assumption) rfl | (first | lia | omega) | (simp only [strValues, List.length_map, List.length_cons, List.length_nil] at *; (first | lia | omega))); skip
  k_with "call builtin:list.pop" => k_here; (with_reducible show wpAny _ _ (call (Value.builtin _) [Value.ref _]) _ _ _); k_dflt (refine' pop_L ?F ?N ?U ?z ?_; (case F => k_asm); (case N => k_asm); (case U => k_upd); (case z => first | exact n_le (by with_reducible assumption) rfl | (first | lia | omega) | (simp only [List.length_append, List.length_cons, List.length_nil]; (first | lia | omega)))); intro h' F' N'; (try dsimp only at N')
  k_with "call builtin:len" => k_here; (with_reducible show wpAny _ _ (call (Value.builtin "len") [Value.ref _]) _ _ _); k_dflt (refine' len_L ?N ?m ?z ?_; (case N => k_asm); (case m => k_mem); (case z => first | exact n_le (by with_reducible assumption) rfl | (first | lia | omega) | (simp only [strValues, List.length_map, List.length_append, List.length_cons, List.length_nil]; (first | lia | omega)))); intro t'
  k_with "sset" => first | assumption | exact sset_fresh _
  k_with "getMethod ref" => k_here; (with_reducible show wpAny _ _ (getMethod (Value.ref _) (PySem.Str.ofString "_iter_namespaces") _) _ _ _); k_dflt (refine' method_shadow ?k1 ?k2 ?k3 ?k4 ?k5 ?k6 ?k7 ?k8 ?k9 ?k10 ?k11 ?_; (case k1 => k_asm); (case k2 => k_asm); (case k3 => k_inst); (case k4 => k_is); (case k5 => k_is); (case k6 => k_is); (case k7 => k_is); (case k8 => k_is); (case k9 => k_is); (case k10 => k_get); (case k11 => k_handed); k_whole)
  k_with "getMethod ref" => (with_reducible show wpAny _ _ (getMethod (Value.ref _) (PySem.Str.ofString "_write") _) _ _ _); walk_at "last getMethod ref"
  k_with "getMethod ref" => k_here; (with_reducible show wpAny _ _ (getMethod (Value.ref _) (PySem.Str.ofString "add") _) _ _ _); k_dflt (refine' sset_method ?N ?m ?o ?b ?_; (case N => k_asm); (case m => k_mem); (case o => walk_at "sset"); (case b => decide))
  k_with "call builtin:set.add" => k_here; (with_reducible show wpAny _ _ (call (Value.builtin _) [Value.ref _, Value.str _ _]) _ _ _); k_dflt (refine' sset_add ?F ?N ?U ?o ?b ?_; (case F => k_asm); (case N => k_asm); (case U => k_updF); (case o => walk_at "sset"); (case b => decide)); intro h' so' F' N' hS'; (try dsimp only at N')
  k_with "compareOp NotIn str ref" => k_here; (with_reducible show wpAny _ _ (compareOp _ (Value.str _ _) (Value.ref _)) _ _ _); k_dflt (refine' sset_notin ?N ?m ?o ?b ?_; (case N => k_asm); (case m => k_mem); (case o => walk_at "sset"); (case b => first | decide | (split <;> decide)))
  k_with "compareOp In str ref" => k_here; (with_reducible show wpAny _ _ (compareOp _ (Value.str _ _) (Value.ref _)) _ _ _); k_dflt (refine' sset_in ?N ?m ?o ?b ?_; (case N => k_asm); (case m => k_mem); (case o => walk_at "sset"); (case b => first | decide | (split <;> decide)))
  intros
  trivial
local macro_rules | `(tactic| size_fits) => `(tactic| ((with_reducible show PySem.Str.length _ ≤ sizeLine); kt_le))
theorem words_fl_KEn : True := by
  (k_with "call ref" => (with_reducible show wpAny _ _ (call (Value.ref 161) [Value.str _ _]) _ _ _); k_dflt (refine' cdata_spec ?c ?F ?N ?l ?_; (case F => k_asm); (case N => k_asm); (case c => walk_at "cx"); (case l => first | assumption | (first | lia | omega))); intro t' h' tk' htk' F' N')
  (k_with "call ref" => (first | (with_reducible show wpAny _ _ (call (Value.ref 106) [Value.ref _]) _ _ _) | (with_reducible show wpAny _ _ (call (Prod.fst (Value.ref 106, _)) _) _ _ _)); k_dflt (refine' flush_spec ?c ?F ?N ?hn ?h1 ?h2 ?hD ?hne ?l ?_; (case c => walk_at "cx"); (case F => k_asm); (case N => k_asm); (case hn => walk_at "part"); (case h1 => k_mem); (case h2 => k_mem); (case hD => assumption); (case hne => assumption); (case l => first | assumption | (first | lia | omega))); intro t' n1' n2' h' tk' htk' F' N')
  (k_with "part" => first | (with_reducible assumption) | (refine' nd_part _ ?a ?b; (case a => assumption); (case b => exact rfl)))
  (k_with "truthy ref" => (with_reducible show wpAny _ _ (PySem.truthy (Value.ref _)) _ _ _); k_dflt (first | (refine' truthy_d (b := false) ?N ?m ?z ?hb ?_; (case N => k_asm); (case m => k_mem); (case z => assumption); (case hb => exact (decide_eq_false fun h => h (by assumption)))) | (refine' truthy_d (b := true) ?N ?m ?z ?hb ?_; (case N => k_asm); (case m => k_mem); (case z => assumption); (case hb => exact (decide_eq_true (by assumption))))))
  trivial
theorem end_spec : ∀ {w : World} {p : Program} {loose : List Str} {mean : ExcName → Option Value} {mg mb : Str → Option Value} {A : Around} {env : Env} {outer : List Env} {base h₀ : Heap} {L : Addr} {m : Str → Option Value} {s : Shared} {Q : Value → Shared → Prop} {x dx ds tp wm dA et ns pm ps np nd n0 n1 n2 n3 l0 tpl ntp : Nat} {cm : Bool} {tig tu tx : Tok} {T : Nat → Tok} {parts rest nst pst : List Value} {ev nv : Value} {dat : List (Str × Tok)} {tl : List (Addr × Obj)} {tg : Str} {tt : Tok}
    (_ : CxA 8 w p loose mean mg mb A env outer base h₀ L) (_ : Fr h₀ L s.heap m)
    (_ : News h₀ L s.heap ((tp, W.listOf (List.toArray parts) np) :: (dx, dictOf (tgtEs w wm dA et ds ns pm ps cm true false 0 tig T) 18) :: (dA, W.listOf (List.toArray (strValues dat)) nd) :: (ds, W.listOf (List.toArray ((.ref l0 :: rest) ++ [ev])) n0) :: (ns, W.listOf (List.toArray (nst ++ [nv])) n2) :: (ps, W.listOf (List.toArray (pst ++ [.bool false])) n3) :: tl))
    (_ : Nd [tp, dx, dA, ds, ns, ps] tl)
    (_ : (x, instObj 150 dx) ∈ tl)
    (_ : (wm, bndObj "list.append" (.ref tp)) ∈ tl)
    (_ : (l0, W.listOf (List.toArray [.ref tpl]) n1) ∈ tl)
    (_ : (tpl, nsTup tu tx ntp) ∈ tl)
    (_ : ∀ v ∈ rest ++ [ev], ∃ a n, v = .ref a ∧ (a, W.listOf (List.toArray []) n) ∈ tl)
    (_ : DatOk dat)
    (_ : parts.length ≤ 900)
    (_ : rest.length ≤ 9)
    (_ : nst.length ≤ 100)
    (_ : pst.length ≤ 100)
    (_ : tg = Str.ofString "r" ∨ tg = Str.ofString "a" ∨ tg = Str.ofString "b")
    (_ : ∀ fl t np' nd' n0' n2' n3' h' tk', FlushV dat fl → 0 < tk' → Fr h₀ L h' m → News h₀ L h' ((tp, W.listOf (List.toArray (parts ++ fl ++ [.str (Str.empty ++ Str.ofString "</" ++ tg ++ Str.ofString ">") t])) np') :: (dx, dictOf (tgtEs w wm dA et ds ns pm ps cm true (((pst.length : Nat) : Int) == 1) 0 tig T) 18) :: (dA, W.listOf (List.toArray []) nd') :: (ds, W.listOf (List.toArray (.ref l0 :: rest)) n0') :: (ns, W.listOf (List.toArray nst) n2') :: (ps, W.listOf (List.toArray pst) n3') :: tl) → Q .none { s with heap := h', toks := tk' }),
    wpAny (model PySem.Challenge.rw_nb0300_01.row.prog w) A (call (.ref 133) [.ref x, .str tg tt]) Q Nay s := by
  intro w p loose mean mg mb A env outer base h₀ L m s Q x dx ds tp wm dA et ns pm ps np nd n0 n1 n2 n3 l0 tpl ntp cm tig tu tx Tt parts rest nst pst ev nv dat tl tg tt c F N hn h1 h2 h3 h4 h5 hD hl4 hr hns hp htg hret
  have htl : tg.length ≤ 1 := by rcases htg with rfl | rfl | rfl <;> decide
  have X := c.X
  k_dflt (refine' enterA (ps := [(Str.ofString "tag", .str tg tt), (Str.ofString "self", .ref x)]) ?c ?F ?N ?ho ?hcd ?hb ?hps ?h0 ?hloc ?_ ?c2 ?c3 ?c4 ?c5; (case c => assumption); (case F => k_asm); (case N => k_asm); (case ho => k_is); (case hcd => k_is); (case hb => first | exact BindsTo.of_eq rfl | exact binds_K (by k_in) rfl (by k_is) rfl rfl rfl); (case hps => exact rfl); (case h0 => exact Nat.le_of_ble_eq_true rfl); (case hloc => exact locs rfl); (case c2 => exact rfl); (case c3 => exact rfl); (case c4 => exact rfl); (case c5 => decide); k_whole)
  intro A1 g1 L1 h1' tk0 htk0 c1 X1 FG1 F1 N1
  have T1 := c1.T
  walk_at "goJ"
  refine exec_join (FlP g1 L1 (pinned nom [(Str.ofString "tag", .str tg tt), (Str.ofString "self", .ref x)]) tp dx dA 18 (tgtEs w wm dA et ds ns pm ps cm true false 0 tig Tt) parts dat ((ds, W.listOf (List.toArray ((.ref l0 :: rest) ++ [ev])) n0) :: (ns, W.listOf (List.toArray (nst ++ [nv])) n2) :: (ps, W.listOf (List.toArray (pst ++ [.bool false])) n3) :: tl) s.gens s.drawn s.os) ?_ ?_
  · by_cases hne : dat = []
    · walk_at "go"
      refine NextP.mk ?_
      exact ⟨_, _, _, _, _, rfl, fv_nil hne, by walk_at "tpos", F1, by rw [List.append_nil]; rw [hne] at N1; exact N1⟩
    · walk_at "go"
      refine NextP.mk ?_
      exact ⟨_, _, _, _, _, rfl, fv_some hne, by walk_at "tpos", F', N'⟩
  · rintro _ ⟨fl, np2, nd2, h2', tk2, rfl, hfl, htk2, F2, N2⟩
    have hpl2 : (parts ++ fl).length ≤ 1000 := by
      rw [List.length_append]; exact n_le (Nat.add_le_add hl4 (fv_len hfl)) rfl
    clear F1 N1
    walk_at "go"
    k_dflt (refine' qname_spec (rest := rest ++ [ev]) ?c ?F ?N ?q1 ?q2 ?q3 ?q4 ?q5 ?q6 ?q7 ?q8 ?_)
    case F => k_asm
    case N => k_asm
    case q1 => k_mem
    case q2 => k_mem
    case q3 => k_mem
    case q4 => k_mem
    case q7 => k_mem
    case c => walk_at "cx"
    case q5 => (intro v hv; obtain ⟨a, n, e, hm⟩ := h5 v hv; exact ⟨a, n, e, memT6 hm⟩)
    case q6 => (simp only [List.length_append, List.length_cons, List.length_nil]; (first | lia | omega))
    case q8 => (rcases htg with h | h | h <;> simp [h])
    intro D9 t91 t92 t93 n9 h9 tk9 htk9 F9 N9 l9
    have hn9 := nd_newN hn rfl l9
    walk_at "go"
    exact hret _ _ _ _ _ _ _ _ _ hfl (by walk_at "tpos") kF (fun p hp => kN p (List.Mem.tail _ hp))

theorem endx_spec : ∀ {w : World} {p : Program} {loose : List Str} {mean : ExcName → Option Value} {mg mb : Str → Option Value} {A : Around} {env : Env} {outer : List Env} {base h₀ : Heap} {L : Addr} {m : Str → Option Value} {s : Shared} {Q : Value → Shared → Prop} {x dx ds wm dA et ns pm ps : Nat} {cm rs rd : Bool} {ig : Int} {tig : Tok} {T : Nat → Tok} {tl : List (Addr × Obj)} {tg : Str} {tt : Tok}
    (_ : CxA 5 w p loose mean mg mb A env outer base h₀ L) (_ : Fr h₀ L s.heap m)
    (_ : News h₀ L s.heap ((dx, dictOf (tgtEs w wm dA et ds ns pm ps cm rs rd ig tig T) 18) :: tl))
    (_ : (x, instObj 150 dx) ∈ tl)
    (_ : Nd [dx] tl)
    (_ : 0 < ig)
    (_ : ig ≤ 100)
    (_ : ∀ t h' tk', 0 < tk' → Fr h₀ L h' m → News h₀ L h' ((dx, dictOf (tgtEs w wm dA et ds ns pm ps cm rs rd (ig - 1) t T) 18) :: tl) → Q .none { s with heap := h', toks := tk' }),
    wpAny (model PySem.Challenge.rw_nb0300_01.row.prog w) A (call (.ref 133) [.ref x, .str tg tt]) Q Nay s := by
  intro w p loose mean mg mb A env outer base h₀ L m s Q x dx ds wm dA et ns pm ps cm rs rd ig tig Tt tl tg tt c F N h1 hn hig hi2 hret
  have X := c.X
  k_dflt (refine' enterA (ps := [(Str.ofString "tag", .str tg tt), (Str.ofString "self", .ref x)]) ?c ?F ?N ?ho ?hcd ?hb ?hps ?h0 ?hloc ?_ ?c2 ?c3 ?c4 ?c5; (case c => assumption); (case F => k_asm); (case N => k_asm); (case ho => k_is); (case hcd => k_is); (case hb => first | exact BindsTo.of_eq rfl | exact binds_K (by k_in) rfl (by k_is) rfl rfl rfl); (case hps => exact rfl); (case h0 => exact Nat.le_of_ble_eq_true rfl); (case hloc => exact locs rfl); (case c2 => exact rfl); (case c3 => exact rfl); (case c4 => exact rfl); (case c5 => decide); k_whole)
  intro A1 g1 L1 h1' tk0 htk0 c1 X1 FG1 F1 N1
  have T1 := c1.T
  have hne : ig ≠ 0 := Int.ne_of_gt hig
  walk_at "goJ"
  · exact hret _ _ _ (by walk_at "tpos") kF kN
  · exact absurd (by assumption) hne
end
section
open PySem PySem.W PyProof.Rows PySem.Calls
theorem data_spec : ∀ {w : World} {p : Program} {loose : List Str} {mean : ExcName → Option Value} {mg mb : Str → Option Value} {A : Around} {env : Env} {outer : List Env} {base h₀ : Heap} {L : Addr} {m : Str → Option Value} {s : Shared} {Q : Value → Shared → Prop} {x dx nn ds wm dA et ns pm ps nd : Nat} {cm rs rd : Bool} {ig : Int} {tig : Tok} {T : Nat → Tok} {dat : List (Str × Tok)} {tl : List (Addr × Obj)} {txt : Str} {tt : Tok}
    (_ : CxA 4 w p loose mean mg mb A env outer base h₀ L) (_ : Fr h₀ L s.heap m)
    (_ : News h₀ L s.heap ((dA, W.listOf (List.toArray (strValues dat)) nd) :: tl))
    (_ : Nd [dA] tl)
    (_ : (x, instObj 150 dx) ∈ tl)
    (_ : (dx, dictOf (tgtEs w wm dA et ds ns pm ps cm rs rd ig tig T) nn) ∈ tl)
    (_ : ig = 0 ∨ 0 < ig)
    (_ : dat.length ≤ 100)
    (_ : ∀ n' h' tk', 0 < tk' → Fr h₀ L h' m → News h₀ L h' ((dA, W.listOf (List.toArray (strValues (if ig = 0 then dat ++ [(txt, tt)] else dat))) n') :: tl) → Q .none { s with heap := h', toks := tk' }),
    wpAny (model PySem.Challenge.rw_nb0300_01.row.prog w) A (call (.ref 97) [.ref x, .str txt tt]) Q Nay s := by
  intro w p loose mean mg mb A env outer base h₀ L m s Q x dx nn ds wm dA et ns pm ps nd cm rs rd ig tig Tt dat tl txt tt c F N hn h1 h2 hig hdl hret
  have X := c.X
  k_dflt (refine' enterA (ps := [(Str.ofString "data", .str txt tt), (Str.ofString "self", .ref x)]) ?c ?F ?N ?ho ?hcd ?hb ?hps ?h0 ?hloc ?_ ?c2 ?c3 ?c4 ?c5; (case c => assumption); (case F => k_asm); (case N => k_asm); (case ho => k_is); (case hcd => k_is); (case hb => first | exact BindsTo.of_eq rfl | exact binds_K (by k_in) rfl (by k_is) rfl rfl rfl); (case hps => exact rfl); (case h0 => exact Nat.le_of_ble_eq_true rfl); (case hloc => exact locs rfl); (case c2 => exact rfl); (case c3 => exact rfl); (case c4 => exact rfl); (case c5 => decide); k_whole)
  intro A1 g1 L1 h1' tk0 htk0 c1 X1 FG1 F1 N1
  have T1 := c1.T
  walk_at "go"
  · refine' hret nd _ _ (by walk_at "tpos") kF ?_
    rw [if_neg (by assumption : ig ≠ 0)]; exact kN
  · refine' hret (nd + 1) _ _ (by walk_at "tpos") kF ?_
    rw [if_pos (by assumption : ig = 0), show strValues (dat ++ [(txt, tt)]) = strValues dat ++ [.str txt tt] by simp [strValues]]; exact kN
end
section
open PySem PySem.W PyProof.Rows PySem.Calls
theorem slot_mdg : Slot "method_descriptor" "__get__" "method_descriptor.__get__" :=
  .of (owner := "method_descriptor") (n := "__get__") (by rw [typeLookup_type, builtinLookup_eq_fast]; kernel_rfl) (by decide +kernel) (by decide +kernel) (by decide +kernel)
    (by first | exact .inl (by decide +kernel) | exact .inr (by decide +kernel)) (by rw [isSubtype_type]; kernel_rfl)
theorem entry_mdg : entryFor table "method_descriptor.__get__" = some Builtin.«method_descriptor.__get__» := entryFor_of_tree (by kernel_rfl)
theorem args_mdg (a b c : Value) : argsOk "method_descriptor.__get__" ⟨[a, b, c], []⟩ := by unfold argsOk; kernel_rfl
theorem md_set : typeLookup (.type "method_descriptor") "__set__" = pure none := by rw [typeLookup_type, builtinLookup_eq_fast]; kernel_rfl
theorem md_del : typeLookup (.type "method_descriptor") "__delete__" = pure none := by rw [typeLookup_type, builtinLookup_eq_fast]; kernel_rfl
theorem sub_list_list : isSubtype (.type "list") (.type "list") = pure true := by rw [isSubtype_type]; kernel_rfl
section
variable {prog : Program} {w : World} {A : Around} {E : Value → Shared → Prop} {h : Heap} {g : Array GenState} {d : Drawn} {t : Nat} {os : OsState} {a : Addr} {o : Obj}
theorem la_get {R : Result → Shared → Prop} (hx : h.get? a = some o) (hc : o.cls = .type "list") (hq : R (.ok (.ret (.ref h.objs.size))) ⟨h.push (bndObj "list.append" (.ref a)), g, d, t, os⟩) :
    codeAny (model prog w) A (.call (.builtin "method_descriptor.__get__") ⟨[.builtin "list.append", .ref a, .type "list"], []⟩) R ⟨h, g, d, t, os⟩ := by
  have hT : (⟨h, g, d, t, os⟩ : Shared).TypeIs (.ref a) "list" := ⟨_, hx, hc⟩
  have hT5 : (⟨h, g, d, t, os⟩ : Shared).TypeIs (.builtin "list.append") "method_descriptor" := F.type_list_append
  have f8 := sub_list_list
  refine codeAny_call_builtin slot_mdg.plain entry_mdg (slot_mdg.check _ _ _ _ _ _ _ _ hT5 (args_mdg _ _ _) ?_)
  unfold Builtin.«method_descriptor.__get__»
  refine wpAny_bind (wpAny_of_eq (a := (.builtin "list.append", some (.ref a), some (.type "list"))) (by first | rfl | kernel_rfl) ?_)
  have e1 : Manifest.toldItsClass.contains "list.append" = false := by decide +kernel
  simp only [e1, Bool.false_eq_true, if_false]
  show wpAny _ _ ((kfb_private% "checkInstance") (.builtin "list.append") (.ref a) >>= fun _ => newFields "builtin_function_or_method" [.builtin "list.append", .ref a] >>= fun x => ret x) _ _ _
  refine wpAny_bind ?_
  refine wpAny_bind (wpAny_of_eq (a := (("append" : Str), Value.type "list")) (by first | rfl | kernel_rfl) ?_)
  dsimp only
  refine wpAny_bind ?_
  repeat (any_goals (first | assumption | wp_step))
theorem la_entry {tk : Tok} {xs : Array Value} {n : Nat} {Q : Fin → Shared → Prop} (hx : h.get? a = some (W.listOf xs n)) (hq : Q (.done (.ret (.ref h.objs.size))) ⟨h.push (bndObj "list.append" (.ref a)), g, d, t, os⟩) :
    wpAny (model prog w) A (Builtin.«object.__getattribute__» ⟨[.ref a, .str (Str.ofString "append") tk], []⟩) Q E ⟨h, g, d, t, os⟩ := by
  have hT : (⟨h, g, d, t, os⟩ : Shared).TypeIs (.ref a) "list" := ⟨_, hx, rfl⟩
  have hT5 : (⟨h, g, d, t, os⟩ : Shared).TypeIs (.builtin "list.append") "method_descriptor" := F.type_list_append
  have f4 := F.slot_list_append.lookup
  have f5 := F.type_list_append
  have f6 := slot_mdg.lookup
  have f7 := md_set
  have f8 := md_del
  have hn : (["__module__", "__name__", "__qualname__", "__doc__", "__annotations__"] : List Str).contains (Str.ofString "append") = false := by decide +kernel
  repeat (any_goals (first | assumption | wp_step))
  repeat (any_goals (first | assumption | wp_step))
  refine la_get hx rfl ?_
  repeat (any_goals (first | assumption | wp_step))
theorem la_call {tk : Tok} {xs : Array Value} {n : Nat} {R : Result → Shared → Prop} (hx : h.get? a = some (W.listOf xs n)) (hq : R (.ok (.ret (.ref h.objs.size))) ⟨h.push (bndObj "list.append" (.ref a)), g, d, t, os⟩) :
    codeAny (model prog w) A (.call (.builtin "list.__getattribute__") ⟨[.ref a, .str (Str.ofString "append") tk], []⟩) R ⟨h, g, d, t, os⟩ :=
  codeAny_call_builtin F.slot_list_getattribute.plain F.entry_list_ga (F.slot_list_getattribute.check _ _ _ _ _ _ _ _ (show (⟨h, g, d, t, os⟩ : Shared).TypeIs (.ref a) "list" from ⟨_, hx, rfl⟩) (F.args_list_getattribute_2 _ _) (la_entry hx hq))
theorem la_attr {s : Shared} {xs : Array Value} {n : Nat} {e : Bool} {Q : Value → Shared → Prop} (hx : s.heap.get? a = some (W.listOf xs n)) (hq : Q (.ref s.heap.objs.size) { s with heap := s.heap.push (bndObj "list.append" (.ref a)), toks := s.toks + 1 }) :
    wpAny (model prog w) A (getAttr (.ref a) (Str.ofString "append") e) Q E s := by
  obtain ⟨h, g, d, t, os⟩ := s
  have hT : ∀ tk', (⟨h, g, d, tk', os⟩ : Shared).TypeIs (.ref a) "list" := fun _ => ⟨_, hx, rfl⟩
  have f3 := F.slot_list_getattribute.lookup
  have f4 := F.slot_list_getattribute.bind (.ref a)
  unfold getAttr getAttrBy
  repeat (any_goals (first | assumption | exact hT _ | wp_step))
  rw [if_neg (by cases e <;> decide)]
  repeat (any_goals (first | assumption | exact hT _ | wp_step))
  refine la_call hx ?_
  repeat (any_goals (first | assumption | exact hT _ | wp_step))
theorem append_bound {s : Shared} {h₀ : Heap} {L : Addr} {m : Str → Option Value} {news : List (Addr × Obj)} {xs : Array Value} {n : Nat} {e : Bool} {Q : Value → Shared → Prop} (F : Fr h₀ L s.heap m) (N : News h₀ L s.heap news) (hm : (a, W.listOf xs n) ∈ news)
    (hq : ∀ (B : Nat) h', Fr h₀ L h' m → News h₀ L h' ((B, bndObj "list.append" (.ref a)) :: news) → (∀ p ∈ news, @LT.lt Nat _ p.1 B) → Q (.ref B) { s with heap := h', toks := s.toks + 1 }) :
    wpAny (model prog w) A (getAttr (.ref a) (Str.ofString "append") e) Q E s :=
  la_attr (N _ hm).1 (hq _ _ (F.push _) (News.push F N _) fun p hp => Heap.lt_size (N p hp).1)
end
end
section


end
section
open PySem PySem.W PyProof.Rows
theorem escT_list (x : Str) : (escT x).cps.toList = x.cps.toList.flatMap escC := by unfold escT; simp
theorem escT_app (a b : Str) : escT (a ++ b) = escT a ++ escT b := str_ext (by rw [escT_list, Str.cps_append, Array.toList_append, List.flatMap_append, Str.cps_append, Array.toList_append, escT_list, escT_list])
noncomputable def dOf : List Str → Nat
  | [] => 0
  | t :: ts => if t = S "x" ∨ 0 < igOf ts then dOf ts else dOf ts + 1
noncomputable def Bot : List Str → Prop
  | [] => True
  | [t] => t = S "r"
  | _ :: t :: ts => Bot (t :: ts)
theorem bot_d : ∀ {ts : List Str}, Bot ts → ts ≠ [] → 0 < dOf ts
  | [t], h, _ => by
    have h : t = S "r" := h
    subst h
    decide
  | t :: u :: r, h, _ => by
    have ih := bot_d (ts := u :: r) h (by simp)
    simp only [dOf] at ih ⊢
    split <;> split at ih <;> simp_all <;> (first | lia | omega)
theorem bot_tail : ∀ {t : Str} {ts : List Str}, Bot (t :: ts) → Bot ts
  | _, [], _ => trivial
  | _, _ :: _, h => h
theorem goesAll_cons {ts ts'' : List Str} {c : Cl} {r : List Cl} (h : GoesAll ts (c :: r) ts'') : ∃ ts', Goes ts c ts' ∧ GoesAll ts' r ts'' := by
  obtain ⟨t1, h1, h2⟩ := goesAll_split (a := [c]) (b := r) h
  generalize e : [c] = l at h1
  cases h1 with
  | nil => cases e
  | snoc h hc =>
    rename_i cs c'
    have : cs = [] ∧ c = c' := by
      cases cs with
      | nil => exact ⟨rfl, by simpa using e⟩
      | cons a r => simp at e
    obtain ⟨rfl, rfl⟩ := this
    generalize e2 : ([] : List Cl) = l2 at h
    cases h with
    | nil => exact ⟨t1, hc, h2⟩
    | snoc _ _ => simp at e2
structure WOk (b : Bool) (calls : List Cl) (i : Nat) (ts : List Str) (rs rd : Bool) (pp dat : List (Str × Tok)) : Prop where
  whole : cat (pp.map (·.1)) ++ escT (cat (dat.map (·.1))) = (due b (calls.take i)).whole
  ig : (due b (calls.take i)).ig = igOf ts
  bot : Bot ts
  tags : ∀ t ∈ ts, IsTag t
  emp : ts = [] → dat = []
  txt : ∀ p ∈ dat, p.1 ∈ texts10
  dl : dat.length ≤ i
  pl : pp.length ≤ 5 * i
  st : (i = 0 ∧ ts = [] ∧ rs = false ∧ rd = false ∧ Lawful calls) ∨ (0 < i ∧ rs = true ∧ rd = decide (dOf ts = 0) ∧ GoesAll ts (calls.drop i) [])
section
variable {b : Bool} {calls : List Cl} {i : Nat} {ts : List Str} {rs rd : Bool} {pp dat : List (Str × Tok)} {c : Cl}
theorem wok_zero (h : Lawful calls) : WOk b calls 0 [] false false [] [] := ⟨rfl, rfl, trivial, by simp, fun _ => rfl, by simp, Nat.le_refl _, Nat.le_refl _, .inl ⟨rfl, rfl, rfl, rfl, h⟩⟩
theorem WOk.next (h : WOk b calls i ts rs rd pp dat) (hc : calls[i]? = some c) : (∃ ts', Goes ts c ts' ∧ rs = true ∧ GoesAll ts' (calls.drop (i + 1)) []) ∨ (i = 0 ∧ ts = [] ∧ c = .start (S "r") [] ∧ rd = false ∧ GoesAll [S "r"] (calls.drop 1) []) := by
  rcases h.st with ⟨rfl, h1, _, h3, r, rfl, hg⟩ | ⟨_, h1, _, hg⟩
  · simp at hc
    exact .inr ⟨rfl, h1, hc.symm, h3, hg⟩
  · have e : calls.drop i = c :: calls.drop (i + 1) := by
      obtain ⟨hk, rfl⟩ := List.getElem?_eq_some_iff.mp hc
      exact List.drop_eq_getElem_cons hk
    rw [e] at hg
    obtain ⟨ts', h2, h3⟩ := goesAll_cons hg
    exact .inl ⟨ts', h2, h1, h3⟩
theorem WOk.rd_no (h : WOk b calls i ts rs rd pp dat) (hc : calls[i]? = some c) : rd = false := by
  rcases h.next hc with ⟨ts', hg, h1, _⟩ | ⟨_, _, _, h, _⟩
  · rcases h.st with ⟨_, _, h2, _⟩ | ⟨_, _, h2, _⟩
    · rw [h1] at h2; cases h2
    · rw [h2]
      have hne : ts ≠ [] := by cases hg <;> simp_all
      have := bot_d h.bot hne
      exact decide_eq_false (by (first | lia | omega))
  · exact h
theorem WOk.rs_of (h : WOk b calls i ts rs rd pp dat) (hd : dat ≠ []) : rs = true := by
  rcases h.st with ⟨_, h2, _⟩ | ⟨_, h2, _⟩
  · exact absurd (h.emp h2) hd
  · exact h2
theorem take_whole (hc : calls[i]? = some c) : due b (calls.take (i + 1)) = (due b (calls.take i)).step b c := due_take hc
noncomputable def flP (dat : List (Str × Tok)) (t : Tok) : List (Str × Tok) := if dat = [] then [] else [(escT (Txt.join (Str.ofString "") (dat.map (·.1))), t)]
theorem flP_cat (t : Tok) : cat ((flP dat t).map (·.1)) = escT (cat (dat.map (·.1))) := by
  unfold flP
  split
  · rename_i h; subst h; decide
  · rw [join_cat]; exact cat_one _
theorem flP_len (t : Tok) : (flP dat t).length ≤ 1 := by unfold flP; split <;> simp
theorem WOk.start_x {t : Str} {ps : List (Str × Str)} (h : WOk b calls i ts rs rd pp dat) (hc : calls[i]? = some (.start t ps)) (hx : 0 < igOf ts ∨ t = S "x") : WOk b calls (i + 1) (t :: ts) rs rd pp dat := by
  have hw := take_whole (b := b) hc
  have hx' : t = S "x" ∨ 0 < (due b (calls.take i)).ig := by rw [h.ig]; exact hx.symm
  have e : (due b (calls.take i)).step b (.start t ps) = { (due b (calls.take i)) with ig := (due b (calls.take i)).ig + 1 } := by simp [Due.step, hx']
  rw [e] at hw
  rcases h.next hc with ⟨ts', hg, h1, hr⟩ | ⟨_, h2, h3, _⟩
  · rcases h.st with ⟨_, _, h2, _⟩ | ⟨h0, _, h2, _⟩
    · rw [h1] at h2; cases h2
    · cases hg with
      | start hne hl ht hp =>
        refine ⟨by rw [hw]; exact h.whole, by rw [hw]; simp only [igOf]; rw [if_pos hx.symm, h.ig], ?_, ?_, by simp, h.txt, Nat.le_succ_of_le h.dl, by have := h.pl; (first | lia | omega), .inr ⟨Nat.succ_pos _, h1, ?_, hr⟩⟩
        · cases ts with
          | nil => exact absurd rfl hne
          | cons u r => exact h.bot
        · exact fun u hu => (List.mem_cons.mp hu).elim (fun e => e ▸ .inr ht) (h.tags u)
        · have e1 : dOf (t :: ts) = dOf ts := by simp only [dOf]; rw [if_pos hx.symm]
          rw [h2, e1]
  · cases h3
    subst h2
    rcases hx with hx | hx
    · exact absurd hx (by decide)
    · exact absurd hx (by decide)
theorem WOk.start_w {t : Str} {ps : List (Str × Str)} {p2 : List (Str × Tok)} {u : Tok} (h : WOk b calls i ts rs rd pp dat) (hc : calls[i]? = some (.start t ps)) (h0 : igOf ts = 0) (hx : t ≠ S "x") (hp : Txt.join (Str.ofString "") (p2.map (·.1)) = S "<" ++ t ++ cat ((inOrder ps).map attrW) ++ S ">") (hl : p2.length ≤ 3) :
    WOk b calls (i + 1) (t :: ts) true false (pp ++ flP dat u ++ p2) [] := by
  have hw := take_whole (b := b) hc
  have hx' : ¬ (t = S "x" ∨ 0 < (due b (calls.take i)).ig) := by rw [h.ig]; exact fun hq => hq.elim hx (by (first | lia | omega))
  have hx2 : ¬ (t = S "x" ∨ 0 < igOf ts) := fun hq => hq.elim hx (by (first | lia | omega))
  have e : (due b (calls.take i)).step b (.start t ps) = { (due b (calls.take i)) with whole := (due b (calls.take i)).whole ++ S "<" ++ t ++ cat ((inOrder ps).map attrW) ++ S ">", left := (due b (calls.take i)).left ++ S "<" ++ t ++ cat ((inOrder ps).map attrL) ++ S ">" } := by simp [Due.step, hx']
  rw [e] at hw
  have hW : cat ((pp ++ flP dat u ++ p2).map (·.1)) ++ escT (cat (([] : List (Str × Tok)).map (·.1))) = (due b (calls.take (i + 1))).whole := by
    rw [hw, List.map_append, List.map_append, cat_app, cat_app, flP_cat, h.whole, ← join_cat (p2.map _), hp]
    have e0 : escT (cat (([] : List (Str × Tok)).map (·.1))) = S "" := by decide
    rw [e0, app_nil]
    simp only [str_assoc]
  have hlen := flP_len (dat := dat) u
  have hpl := h.pl
  have hpl2 : (pp ++ flP dat u ++ p2).length ≤ 5 * (i + 1) := by simp only [List.length_append]; (first | lia | omega)
  have hig : (due b (calls.take (i + 1))).ig = igOf (t :: ts) := by rw [hw]; simp only [igOf]; rw [if_neg hx2, h.ig, h0]
  have hd : (false : Bool) = decide (dOf (t :: ts) = 0) := by
    have e1 : dOf (t :: ts) = dOf ts + 1 := by simp only [dOf]; rw [if_neg hx2]
    rw [e1]; simp
  rcases h.next hc with ⟨ts', hg, h1, hr⟩ | ⟨_, h2, h3, _, hr⟩
  · cases hg with
    | start hne hl ht hp =>
      refine ⟨hW, hig, ?_, ?_, fun _ => rfl, by simp, Nat.zero_le _, hpl2, .inr ⟨Nat.succ_pos _, rfl, hd, hr⟩⟩
      · cases ts with
        | nil => exact absurd rfl hne
        | cons v r => exact h.bot
      · exact fun v hv => (List.mem_cons.mp hv).elim (fun e => e ▸ .inr ht) (h.tags v)
  · cases h3
    subst h2
    have hi : i = 0 := by assumption
    subst hi
    exact ⟨hW, hig, rfl, by intro v hv; rw [List.mem_singleton.mp hv]; exact .inl rfl, fun _ => rfl, by simp, Nat.zero_le _, hpl2, .inr ⟨Nat.succ_pos _, rfl, hd, hr⟩⟩
theorem WOk.fin_x {t : Str} (h : WOk b calls i ts rs rd pp dat) (hc : calls[i]? = some (.fin t)) (h0 : 0 < igOf ts) : WOk b calls (i + 1) ts.tail rs rd pp dat ∧ igOf ts.tail = igOf ts - 1 ∧ dOf ts.tail = dOf ts := by
  have hw := take_whole (b := b) hc
  have e : (due b (calls.take i)).step b (.fin t) = { (due b (calls.take i)) with ig := (due b (calls.take i)).ig - 1 } := by simp [Due.step, h.ig, h0]
  rw [e] at hw
  rcases h.next hc with ⟨ts', hg, h1, hr⟩ | ⟨_, h2, h3, _⟩
  · rcases h.st with ⟨_, _, h2, _⟩ | ⟨_, _, h2, _⟩
    · rw [h1] at h2; cases h2
    · cases hg with
      | fin =>
        have hq : t = S "x" ∨ 0 < igOf ts' := by
          simp only [igOf] at h0
          split at h0
          · assumption
          · cases h0
        have e1 : igOf (t :: ts') = igOf ts' + 1 := by simp only [igOf]; rw [if_pos hq]
        have e2 : dOf (t :: ts') = dOf ts' := by simp only [dOf]; rw [if_pos hq]
        have hne : ts' ≠ [] := by
          rintro rfl
          have : t = S "r" := h.bot
          subst this
          exact absurd h0 (by decide)
        refine ⟨⟨by rw [hw]; exact h.whole, by rw [hw]; simp only [List.tail_cons]; rw [h.ig, e1]; rfl, bot_tail h.bot, fun u hu => h.tags u (List.mem_cons_of_mem _ hu), fun e => absurd e hne, h.txt, Nat.le_succ_of_le h.dl, by have := h.pl; (first | lia | omega), .inr ⟨Nat.succ_pos _, h1, by rw [h2, e2]; rfl, hr⟩⟩, by simp only [List.tail_cons]; (first | lia | omega), e2.symm⟩
  · cases h3
theorem WOk.fin_w {t : Str} {u v : Tok} (h : WOk b calls i ts rs rd pp dat) (hc : calls[i]? = some (.fin t)) (h0 : igOf ts = 0) : WOk b calls (i + 1) ts.tail true (decide (dOf ts.tail = 0)) (pp ++ flP dat u ++ [(Str.empty ++ S "</" ++ t ++ S ">", v)]) [] ∧ igOf ts.tail = 0 ∧ dOf ts = dOf ts.tail + 1 ∧ t ≠ S "x" ∧ IsTag t := by
  have hw := take_whole (b := b) hc
  have e : (due b (calls.take i)).step b (.fin t) = { (due b (calls.take i)) with whole := (due b (calls.take i)).whole ++ S "</" ++ t ++ S ">", left := (due b (calls.take i)).left ++ S "</" ++ t ++ S ">" } := by simp [Due.step, h.ig, h0]
  rw [e] at hw
  have hW : cat ((pp ++ flP dat u ++ [(Str.empty ++ S "</" ++ t ++ S ">", v)]).map (·.1)) ++ escT (cat (([] : List (Str × Tok)).map (·.1))) = (due b (calls.take (i + 1))).whole := by
    rw [hw, List.map_append, List.map_append, cat_app, cat_app, flP_cat, h.whole]
    have e0 : escT (cat (([] : List (Str × Tok)).map (·.1))) = S "" := by decide
    rw [e0, app_nil]
    simp only [List.map_cons, List.map_nil, cat_one, Str.empty_append, str_assoc]
  have hlen := flP_len (dat := dat) u
  have hpl := h.pl
  have hpl2 : (pp ++ flP dat u ++ [(Str.empty ++ S "</" ++ t ++ S ">", v)]).length ≤ 5 * (i + 1) := by simp only [List.length_append, List.length_cons, List.length_nil]; (first | lia | omega)
  rcases h.next hc with ⟨ts', hg, h1, hr⟩ | ⟨_, h2, h3, _⟩
  · cases hg with
    | fin =>
      have hq : ¬ (t = S "x" ∨ 0 < igOf ts') := by
        intro hq
        simp only [igOf] at h0
        rw [if_pos hq] at h0
        cases h0
      have e2 : dOf (t :: ts') = dOf ts' + 1 := by simp only [dOf]; rw [if_neg hq]
      have e3 : igOf ts' = 0 := by (first | lia | omega)
      exact ⟨⟨hW, by rw [hw]; exact h.ig.trans (h0.trans e3.symm), bot_tail h.bot, fun u hu => h.tags u (List.mem_cons_of_mem _ hu), fun _ => rfl, by simp, Nat.zero_le _, hpl2, .inr ⟨Nat.succ_pos _, rfl, rfl, hr⟩⟩, e3, e2, fun e => hq (.inl e), h.tags _ (List.mem_cons_self ..)⟩
  · cases h3
theorem WOk.com_no {x : Str} (h : WOk b calls i ts rs rd pp dat) (hc : calls[i]? = some (.comment x)) (h0 : b = false ∨ igOf ts ≠ 0) : WOk b calls (i + 1) ts rs rd pp dat := by
  have hw := take_whole (b := b) hc
  have e : (due b (calls.take i)).step b (.comment x) = due b (calls.take i) := by
    simp only [Due.step, h.ig]
    rw [if_neg]
    rintro ⟨h1, h2⟩
    rcases h0 with h0 | h0
    · rw [h0] at h2; cases h2
    · exact h0 h1
  rw [e] at hw
  rcases h.next hc with ⟨ts', hg, h1, hr⟩ | ⟨_, h2, h3, _⟩
  · rcases h.st with ⟨_, _, h2, _⟩ | ⟨_, _, h2, _⟩
    · rw [h1] at h2; cases h2
    · cases hg with
      | comment => exact ⟨by rw [hw]; exact h.whole, by rw [hw]; exact h.ig, h.bot, h.tags, h.emp, h.txt, Nat.le_succ_of_le h.dl, by have := h.pl; (first | lia | omega), .inr ⟨Nat.succ_pos _, h1, h2, hr⟩⟩
  · cases h3
theorem WOk.com_w {x : Str} {u v : Tok} (h : WOk b calls i ts rs rd pp dat) (hc : calls[i]? = some (.comment x)) (hb : b = true) (h0 : igOf ts = 0) : WOk b calls (i + 1) ts rs rd (pp ++ flP dat u ++ [(Str.empty ++ S "<!--" ++ escT x ++ S "-->", v)]) [] := by
  have hw := take_whole (b := b) hc
  have e : (due b (calls.take i)).step b (.comment x) = { (due b (calls.take i)) with whole := (due b (calls.take i)).whole ++ S "<!--" ++ escT x ++ S "-->", left := (due b (calls.take i)).left ++ S "<!--" ++ shownOf x ++ S "-->", row := (due b (calls.take i)).row ++ rowOf x } := by simp only [Due.step]; rw [if_pos ⟨h.ig.trans h0, hb⟩]
  rw [e] at hw
  have hW : cat ((pp ++ flP dat u ++ [(Str.empty ++ S "<!--" ++ escT x ++ S "-->", v)]).map (·.1)) ++ escT (cat (([] : List (Str × Tok)).map (·.1))) = (due b (calls.take (i + 1))).whole := by
    rw [hw, List.map_append, List.map_append, cat_app, cat_app, flP_cat, h.whole]
    have e0 : escT (cat (([] : List (Str × Tok)).map (·.1))) = S "" := by decide
    rw [e0, app_nil]
    simp only [List.map_cons, List.map_nil, cat_one, Str.empty_append, str_assoc]
  have hlen := flP_len (dat := dat) u
  have hpl := h.pl
  have hpl2 : (pp ++ flP dat u ++ [(Str.empty ++ S "<!--" ++ escT x ++ S "-->", v)]).length ≤ 5 * (i + 1) := by simp only [List.length_append, List.length_cons, List.length_nil]; (first | lia | omega)
  rcases h.next hc with ⟨ts', hg, h1, hr⟩ | ⟨_, h2, h3, _⟩
  · rcases h.st with ⟨_, _, h2, _⟩ | ⟨_, _, h2, _⟩
    · rw [h1] at h2; cases h2
    · cases hg with
      | comment => exact ⟨hW, by rw [hw]; exact h.ig, h.bot, h.tags, fun _ => rfl, by simp, Nat.zero_le _, hpl2, .inr ⟨Nat.succ_pos _, h1, h2, hr⟩⟩
  · cases h3
theorem WOk.data_ok {x : Str} {v : Tok} (h : WOk b calls i ts rs rd pp dat) (hc : calls[i]? = some (.data x)) : WOk b calls (i + 1) ts rs rd pp (if ((igOf ts : Nat) : Int) = 0 then dat ++ [(x, v)] else dat) := by
  have hw := take_whole (b := b) hc
  rcases h.next hc with ⟨ts', hg, h1, hr⟩ | ⟨_, h2, h3, _⟩
  · rcases h.st with ⟨_, _, h2, _⟩ | ⟨_, _, h2, _⟩
    · rw [h1] at h2; cases h2
    · cases hg with
      | data hne ht =>
        by_cases h0 : igOf ts = 0
        · have e : (due b (calls.take i)).step b (.data x) = { (due b (calls.take i)) with whole := (due b (calls.take i)).whole ++ escT x, left := (due b (calls.take i)).left ++ shownOf x, row := (due b (calls.take i)).row ++ rowOf x } := by simp [Due.step, h.ig, h0]
          rw [e] at hw
          rw [if_pos (by rw [h0]; rfl)]
          refine ⟨?_, by rw [hw]; exact h.ig, h.bot, h.tags, fun e => absurd e hne, ?_, ?_, by have := h.pl; (first | lia | omega), .inr ⟨Nat.succ_pos _, h1, h2, hr⟩⟩
          · rw [hw, ← h.whole, List.map_append, cat_app, escT_app]
            simp only [List.map_cons, List.map_nil, cat_one, str_assoc]
          · intro p hp
            rcases List.mem_append.mp hp with hp | hp
            · exact h.txt p hp
            · rw [List.mem_singleton.mp hp]; exact ht
          · have := h.dl; simp only [List.length_append, List.length_cons, List.length_nil]; (first | lia | omega)
        · have e : (due b (calls.take i)).step b (.data x) = due b (calls.take i) := by simp [Due.step, h.ig, h0]
          rw [e] at hw
          rw [if_neg (by (first | lia | omega))]
          exact ⟨by rw [hw]; exact h.whole, by rw [hw]; exact h.ig, h.bot, h.tags, h.emp, h.txt, Nat.le_succ_of_le h.dl, by have := h.pl; (first | lia | omega), .inr ⟨Nat.succ_pos _, h1, h2, hr⟩⟩
  · cases h3
theorem WOk.done (h : WOk b calls calls.length ts rs rd pp dat) : cat (pp.map (·.1)) = (due b calls).whole := by
  have e := h.whole
  rw [List.take_length] at e
  have hts : ts = [] := by
    rcases h.st with ⟨_, h2, _⟩ | ⟨_, _, _, hg⟩
    · exact h2
    · rw [List.drop_length] at hg
      generalize e1 : ([] : List Cl) = l at hg
      generalize e2 : ([] : List Str) = r at hg
      cases hg with
      | nil => first | rfl | exact e2.symm
      | snoc _ _ => simp at e1
  have e0 : escT (cat (([] : List (Str × Tok)).map (·.1))) = S "" := by decide
  rw [h.emp hts, e0, app_nil] at e
  exact e
end
end
section
open PySem PySem.W PyProof.Rows PySem.Calls
theorem init_in {M : Model} {A : Around} {c : Code} {x : Addr} {s : Shared} {R : Result → Shared → Prop} (h : codeAny M A c (fun r s' => match r with | .ok (.ret v) => v = .none ∧ R (.ok (.ret (.ref x))) s' | .ok _ => False | .error e => Nay e s') s) : codeAny M A c (InitBack x R) s := by
  refine codeAny_mono h fun r s' h => ?_
  rcases r with e | (v | _ | _ | _) <;> first | exact h | exact h.elim
theorem igOf_le : ∀ ts : List Str, igOf ts ≤ ts.length
  | [] => Nat.le_refl _
  | t :: ts => by
    have := igOf_le ts
    simp only [igOf, List.length_cons]
    split <;> (first | lia | omega)
theorem dOf_le : ∀ ts : List Str, dOf ts ≤ ts.length
  | [] => Nat.le_refl _
  | t :: ts => by
    have := dOf_le ts
    simp only [dOf, List.length_cons]
    split <;> (first | lia | omega)
theorem cat_mem_len : ∀ {l : List Str} {y : Str}, y ∈ l → y.length ≤ (cat l).length
  | x :: r, y, h => by
    have e : cat (x :: r) = x ++ cat r := by rw [show x :: r = [x] ++ r from rfl, cat_app, cat_one]
    rw [e, str_len_app]
    rcases List.mem_cons.mp h with rfl | h
    · (first | lia | omega)
    · have := cat_mem_len h; (first | lia | omega)
theorem cat_len_le {b : Nat} : ∀ {l : List Str}, (∀ y ∈ l, y.length ≤ b) → (cat l).length ≤ l.length * b
  | [], _ => by show (S "").length ≤ _; simp; decide
  | x :: r, h => by
    have e : cat (x :: r) = x ++ cat r := by rw [show x :: r = [x] ++ r from rfl, cat_app, cat_one]
    rw [e, str_len_app, List.length_cons, Nat.succ_mul]
    have h1 := h x (.head _)
    have h2 := cat_len_le (l := r) fun y hy => h y (.tail _ hy)
    (first | lia | omega)
theorem wok_dat {b : Bool} {calls : List Cl} {i : Nat} {ts : List Str} {rs rd : Bool} {pp dat : List (Str × Tok)} (h : WOk b calls i ts rs rd pp dat) (hi : i ≤ 20) : DatOk dat := by
  have hx : ∀ y ∈ dat.map (·.1), y.length ≤ 4 ∧ 0 < y.length := fun y hy => by
    obtain ⟨p, hp, rfl⟩ := List.mem_map.mp hy
    exact ⟨(escT10 (h.txt p hp)).2.2.2.1, (escT10 (h.txt p hp)).2.2.2.2⟩
  have hl := h.dl
  have h1 : (cat (dat.map (·.1))).length ≤ (dat.map (·.1)).length * 4 := cat_len_le fun y hy => (hx y hy).1
  rw [List.length_map] at h1
  refine ⟨joinOk_of (b := 4) (fun y hy => (hx y hy).1) (by rw [List.length_map]; (first | lia | omega)), by rw [join_cat]; (first | lia | omega), fun hne => ?_, by (first | lia | omega)⟩
  rw [join_cat]
  cases dat with
  | nil => exact absurd rfl hne
  | cons p r =>
    have := cat_mem_len (l := (p :: r).map (·.1)) (y := p.1) (.head _)
    have := (hx p.1 (.head _)).2
    (first | lia | omega)
theorem fl_of {dat : List (Str × Tok)} {fl : List Value} (h : FlushV dat fl) : ∃ u, fl = strValues (flP dat u) := by
  obtain ⟨u, rfl⟩ := h
  refine ⟨u, ?_⟩
  unfold flP
  split <;> rfl
theorem goes_len {b : Bool} {calls : List Cl} {i : Nat} {ts : List Str} {rs rd : Bool} {pp dat : List (Str × Tok)} {t : Str} {ps : List (Str × Str)} (h : WOk b calls i ts rs rd pp dat) (hc : calls[i]? = some (.start t ps)) : ts.length ≤ 4 := by
  rcases h.next hc with ⟨ts', hg, _, _⟩ | ⟨_, h2, _⟩
  · cases hg with
    | start _ hl _ _ => (first | lia | omega)
  · rw [h2]; simp
theorem nd_it {as : List Addr} {tl led : List (Addr × Obj)} {It : Nat} {oI : Obj} (hn : Nd as tl) (hl : led.map (·.1) = as ++ tl.map (·.1)) (hne : ∀ p ∈ led, @Ne Nat p.1 It) : Nd as ((It, oI) :: tl) := ⟨hn.1, fun p hp h => by
  rcases List.mem_cons.mp hp with rfl | hp
  · have h2 : It ∈ led.map (·.1) := by rw [hl]; exact List.mem_append_left _ h
    obtain ⟨q, hq, e⟩ := List.mem_map.mp h2
    exact hne q hq e
  · exact hn.2 p hp h⟩
theorem tabOk_it {pt : Array Value} {It l n : Nat} {oI : Obj} {ext tl : List (Addr × Obj)} {k : Int} (h : TabOk pt (ext ++ (It, oI) :: tl)) (hd : oI.data = .fields #[.ref l, .int k n]) : TabOk pt (ext ++ tl) := by
  rcases h with h | ⟨c', oc, vs, t, e, hm, hd', hv⟩
  · exact .inl h
  · refine .inr ⟨c', oc, vs, t, e, ?_, hd', hv⟩
    rcases List.mem_append.mp hm with hm | hm
    · exact List.mem_append_left _ hm
    · rcases List.mem_cons.mp hm with hm | hm
      · cases hm
        rw [hd] at hd'
        cases hd'
        cases hv
      · exact List.mem_append_right _ hm
structure WFix (news : List (Addr × Obj)) (x dx tp wm et l0 tpl : Nat) (so : Obj) (tl : List (Addr × Obj)) : Prop where
  hx : (x, instObj 150 dx) ∈ tl
  hwm : (wm, bndObj "list.append" (.ref tp)) ∈ tl
  hl0 : ∃ n, (l0, W.listOf (List.toArray [.ref tpl]) n) ∈ tl
  htp : ∃ tu tx n, (tpl, nsTup tu tx n) ∈ tl
  het : (et, so) ∈ tl
  sub : ∀ p ∈ news, p ∈ tl
structure WL (w : World) (b : Bool) (calls : List Cl) (news : List (Addr × Obj)) (x dx tp dA et ds ns pm ps wm l0 tpl : Nat) (so : Obj) (i : Nat) (m : Str → Option Value) (news₁ : List (Addr × Obj)) (tk : Nat) (ts : List Str) (rs rd : Bool) (pp dat : List (Str × Tok)) (np nd n0 n2 n3 : Nat) (tig : Tok) (T : Nat → Tok) (rest nst : List Value) (pt : Array Value) (tl : List (Addr × Obj)) : Prop where
  tk0 : 0 < tk
  pins : Pins m [(Str.ofString "target", .ref x), (Str.ofString "target_parts", .ref tp)]
  ok : WOk b calls i ts rs rd pp dat
  led : news₁ = (tp, W.listOf (List.toArray (strValues pp)) np) :: (dx, dictOf (tgtEs w wm dA et ds ns pm ps b rs rd ((igOf ts : Nat) : Int) tig T) 18) :: (dA, W.listOf (List.toArray (strValues dat)) nd) :: (ds, W.listOf (List.toArray (.ref l0 :: rest)) n0) :: (ns, W.listOf (List.toArray nst) n2) :: (ps, W.listOf (List.toArray (List.replicate (dOf ts) (.bool false) ++ [.bool false])) n3) :: (123, tabObj pt) :: tl
  nd_ : Nd [tp, dx, dA, ds, ns, ps, 123] tl
  tab : TabOk pt tl
  fx : WFix news x dx tp wm et l0 tpl so tl
  rst : ∀ v ∈ rest, ∃ a n, v = .ref a ∧ (a, W.listOf (List.toArray []) n) ∈ tl
  lr : rest.length = dOf ts
  ln : nst.length = dOf ts + 2
  lt : ts.length ≤ 5
noncomputable def WJ (w : World) (b : Bool) (calls : List Cl) (news : List (Addr × Obj)) (x dx tp dA et ds ns pm ps wm l0 tpl : Nat) (so : Obj) (i : Nat) (m : Str → Option Value) (news₁ : List (Addr × Obj)) (_ : Drawn) (tk : Nat) : Prop := ∃ ts rs rd pp dat np nd n0 n2 n3 tig T rest nst pt tl, WL w b calls news x dx tp dA et ds ns pm ps wm l0 tpl so i m news₁ tk ts rs rd pp dat np nd n0 n2 n3 tig T rest nst pt tl
theorem WJ.elim {w : World} {b : Bool} {calls : List Cl} {news : List (Addr × Obj)} {x dx tp dA et ds ns pm ps wm l0 tpl : Nat} {so : Obj} {i : Nat} {m : Str → Option Value} {news₁ : List (Addr × Obj)} {d : Drawn} {tk : Nat} {P : Prop} (h : WJ w b calls news x dx tp dA et ds ns pm ps wm l0 tpl so i m news₁ d tk)
    (k : ∀ ts rs rd pp dat np nd n0 n2 n3 tig T rest nst pt tl n1 tu tx ntp, 0 < tk → Pins m [(Str.ofString "target", .ref x), (Str.ofString "target_parts", .ref tp)] → WOk b calls i ts rs rd pp dat → news₁ = (tp, W.listOf (List.toArray (strValues pp)) np) :: (dx, dictOf (tgtEs w wm dA et ds ns pm ps b rs rd ((igOf ts : Nat) : Int) tig T) 18) :: (dA, W.listOf (List.toArray (strValues dat)) nd) :: (ds, W.listOf (List.toArray (.ref l0 :: rest)) n0) :: (ns, W.listOf (List.toArray nst) n2) :: (ps, W.listOf (List.toArray (List.replicate (dOf ts) (.bool false) ++ [.bool false])) n3) :: (123, tabObj pt) :: tl → Nd [tp, dx, dA, ds, ns, ps, 123] tl → TabOk pt tl → (x, instObj 150 dx) ∈ tl → (wm, bndObj "list.append" (.ref tp)) ∈ tl → (l0, W.listOf (List.toArray [.ref tpl]) n1) ∈ tl → (tpl, nsTup tu tx ntp) ∈ tl → (et, so) ∈ tl → (∀ p ∈ news, p ∈ tl) → (∀ v ∈ rest, ∃ a n, v = .ref a ∧ (a, W.listOf (List.toArray []) n) ∈ tl) → rest.length = dOf ts → nst.length = dOf ts + 2 → ts.length ≤ 5 → P) : P := by
  obtain ⟨ts, rs, rd, pp, dat, np, nd, n0, n2, n3, tig, T, rest, nst, pt, tl, H⟩ := h
  obtain ⟨n1, h1⟩ := H.fx.hl0
  obtain ⟨tu, tx, ntp, h2⟩ := H.fx.htp
  exact k ts rs rd pp dat np nd n0 n2 n3 tig T rest nst pt tl n1 tu tx ntp H.tk0 H.pins H.ok H.led H.nd_ H.tab H.fx.hx H.fx.hwm h1 h2 H.fx.het H.fx.sub H.rst H.lr H.ln H.lt
theorem call_elim {news : List (Addr × Obj)} {vals : List Value} {calls : List Cl} {i : Nat} {v : Value} {P : Prop} (hc : CallsAt news vals calls) (hv : vals[i]? = some v)
    (k : ∀ c a9 pl pv tk9 tt n9 n8, calls[i]? = some c → v = .ref a9 → (a9, ({ cls := .type "tuple", data := .seq #[.str c.kind tk9, .str c.text tt, .ref pl] n9 } : Obj)) ∈ news → (pl, W.listOf (List.toArray pv) n8) ∈ news → PairsAt news pv c.pairs → P) : P := by
  obtain ⟨c, hci, a9, pl, pv, tk9, tt, n9, n8, h⟩ := hc.at_ i v hv
  exact k c a9 pl pv tk9 tt n9 n8 hci h.v_is h.tup h.pl_is h.prs
theorem nd_pick {big as : List Addr} {tl : List (Addr × Obj)} (hn : Nd big tl) (is : List Nat) (h : is.filterMap (big[·]?) = as) (hd : is.Nodup) : Nd as tl := by
  subst h
  refine ⟨List.Pairwise.filterMap (R := fun a b => a ≠ b) _ (fun i j hij a ha b hb e => ?_) hd, fun p hp h => ?_⟩
  · have ha : big[i]? = some a := ha
    have hb : big[j]? = some b := hb
    subst e
    obtain ⟨hi, _⟩ := List.getElem?_eq_some_iff.mp ha
    exact hij ((List.getElem?_inj hi hn.1).mp (ha.trans hb.symm))
  · obtain ⟨i, _, hi⟩ := List.mem_filterMap.mp h
    exact hn.2 p hp (List.mem_of_getElem? hi)
theorem nd_join {as1 as2 : List Addr} {tl led : List (Addr × Obj)} (h1 : Nd as1 led) (h2 : Nd as2 tl) (hl : led.map (·.1) = as2 ++ tl.map (·.1)) : Nd (as1 ++ as2) tl := by
  have key : ∀ a ∈ as2 ++ tl.map (·.1), a ∉ as1 := fun a ha h => by
    rw [← hl] at ha
    obtain ⟨p, hp, rfl⟩ := List.mem_map.mp ha
    exact h1.2 p hp h
  refine ⟨List.nodup_append.mpr ⟨h1.1, h2.1, fun a ha b hb e => key b (List.mem_append_left _ hb) (e ▸ ha)⟩, fun p hp h => ?_⟩
  rcases List.mem_append.mp h with h | h
  · exact key p.1 (List.mem_append_right _ (List.mem_map_of_mem hp)) h
  · exact h2.2 p hp h
theorem pairs_nodup {ps : List (Str × Str)} (h : PairsOk ps) : (ps.map (·.1)).Nodup := by
  rcases h with rfl | ⟨v, _, rfl⟩ | ⟨v, _, u, _, rfl⟩
  · exact List.nodup_nil
  · exact List.nodup_cons.mpr ⟨nofun, List.nodup_nil⟩
  · show [S "m", S "k"].Nodup
    decide
theorem pairs_z {ps : List (Str × Str)} (h : PairsOk ps) : ps.length ≤ 100 := by
  rcases h with rfl | ⟨v, _, rfl⟩ | ⟨v, _, u, _, rfl⟩ <;> simp
theorem snoc_of {α : Type} {l : List α} {n : Nat} (h : l.length = n + 1) : ∃ l' x, l = l' ++ [x] ∧ l'.length = n := by
  rcases List.eq_nil_or_concat l with rfl | ⟨l', x, rfl⟩
  · simp at h
  · rw [List.concat_eq_append] at h ⊢
    exact ⟨l', x, rfl, by simpa using h⟩
theorem ne_it {as : List Addr} {tl' tl2 led : List (Addr × Obj)} {It : Nat} {oI : Obj} (hn : Nd as tl') (hI : (It, oI) ∈ tl') (hl : led.map (·.1) = as ++ tl2.map (·.1)) (h2 : ∀ p ∈ tl2, @Ne Nat p.1 It) : ∀ p ∈ led, @Ne Nat p.1 It := fun p hp e => by
  have h : p.1 ∈ as ++ tl2.map (·.1) := hl ▸ List.mem_map_of_mem hp
  rcases List.mem_append.mp h with h | h
  · exact hn.2 _ hI (e ▸ h)
  · obtain ⟨q, hq, e2⟩ := List.mem_map.mp h
    exact h2 q hq (e2.trans e)
theorem wj_mk {w : World} {b : Bool} {calls : List Cl} {news : List (Addr × Obj)} {x dx tp dA et ds ns pm ps wm l0 tpl : Nat} {so : Obj} {i : Nat} {m : Str → Option Value} {d : Drawn} {tk : Nat} {ts : List Str} {rs rd : Bool} {pp dat : List (Str × Tok)} {np nd n0 n2 n3 : Nat} {tig : Tok} {T : Nat → Tok} {rest nst : List Value} {pt : Array Value} {tl : List (Addr × Obj)} {ig : Int} {pst vpp vdat : List Value}
    (htk : 0 < tk) (hp : Pins m [(Str.ofString "target", .ref x), (Str.ofString "target_parts", .ref tp)]) (ok : WOk b calls i ts rs rd pp dat) (hig : ig = ((igOf ts : Nat) : Int)) (hps : pst = List.replicate (dOf ts) (.bool false) ++ [.bool false]) (hpp : vpp = strValues pp) (hdat : vdat = strValues dat) (hnd : Nd [tp, dx, dA, ds, ns, ps, 123] tl) (htab : TabOk pt tl) (hfx : WFix news x dx tp wm et l0 tpl so tl)
    (hrst : ∀ v ∈ rest, ∃ a n, v = .ref a ∧ (a, W.listOf (List.toArray []) n) ∈ tl) (hlr : rest.length = dOf ts) (hln : nst.length = dOf ts + 2) (hlt : ts.length ≤ 5) :
    WJ w b calls news x dx tp dA et ds ns pm ps wm l0 tpl so i m ((tp, W.listOf (List.toArray vpp) np) :: (dx, dictOf (tgtEs w wm dA et ds ns pm ps b rs rd ig tig T) 18) :: (dA, W.listOf (List.toArray vdat) nd) :: (ds, W.listOf (List.toArray (.ref l0 :: rest)) n0) :: (ns, W.listOf (List.toArray nst) n2) :: (ps, W.listOf (List.toArray pst) n3) :: (123, tabObj pt) :: tl) d tk := by
  subst hig hps hpp hdat
  exact ⟨ts, rs, rd, pp, dat, np, nd, n0, n2, n3, tig, T, rest, nst, pt, tl, htk, hp, ok, rfl, hnd, htab, hfx, hrst, hlr, hln, hlt⟩
theorem sv_app (a b : List (Str × Tok)) : strValues a ++ strValues b = strValues (a ++ b) := by simp [strValues]
theorem wok_rs {b : Bool} {calls : List Cl} {i : Nat} {ts : List Str} {rs rd : Bool} {pp dat : List (Str × Tok)} {c : Cl} (h : WOk b calls i ts rs rd pp dat) (hc : calls[i]? = some c) (hn : ∀ t p, c ≠ .start t p) : rs = true := by
  rcases h.next hc with ⟨_, _, h, _⟩ | ⟨_, _, h, _⟩
  · exact h
  · exact absurd h (hn _ _)
theorem wok_end {b : Bool} {calls : List Cl} {rs rd : Bool} {pp dat : List (Str × Tok)} {ts : List Str} (h : WOk b calls calls.length ts rs rd pp dat) (hok : Lawful calls) (hz : calls.length ≤ 20) : JoinOk (Str.ofString "") (pp.map (·.1)) = true ∧ Txt.join (Str.ofString "") (pp.map (·.1)) = (due b calls).whole := by
  have e := h.done
  have hs := (due_take_small (cm := b) (lawful_ok hok) calls.length).w
  rw [List.take_length] at hs
  have hl := h.pl
  refine ⟨joinOk_of (b := 800) (fun y hy => ?_) (by rw [List.length_map]; (first | lia | omega)), by rw [join_cat]; exact e⟩
  have := cat_mem_len hy
  rw [e] at this
  (first | lia | omega)
end
section
open PySem PySem.W PyProof.Rows PySem.Calls
theorem abx_tag {k : Int} (h0 : 0 ≤ k) (h1 : k < 3) : Txt.item (Str.ofString "abx") k = S "a" ∨ Txt.item (Str.ofString "abx") k = S "b" ∨ Txt.item (Str.ofString "abx") k = S "x" := by
  have h : k = 0 ∨ k = 1 ∨ k = 2 := by (first | lia | omega)
  rcases h with rfl | rfl | rfl <;> decide
noncomputable def RowsP (g : Heap) (L : Addr) (TX lsc : Nat) (tobj : Obj) (news : List (Addr × Obj)) (gs : Array GenState) (d : Drawn) (os : OsState) (s' : Shared) : Prop :=
  ∃ (R : Nat) (rvals : List Value) (rns : List Int) (n : Nat) (h' : Heap) (tk' : Nat), s' = ⟨h', gs, d, tk', os⟩ ∧ IntsAre rvals rns ∧ rvals.length ≤ 10 ∧ 0 < tk' ∧ Nd [R, TX] news ∧ Fr g L h' (pinned nom [(Str.ofString "rows", .ref R), (Str.ofString "texts", .ref TX), (Str.ofString "script", .ref lsc)]) ∧ News g L h' ((R, W.listOf (List.toArray rvals) n) :: (TX, tobj) :: news)
theorem ints_len {vs : List Value} {ns : List Int} (h : IntsAre vs ns) : vs.length = ns.length := by
  induction h with
  | nil => rfl
  | cons n t _ ih => simp [ih]
theorem rows_of {g h : Heap} {L TX lsc : Nat} {tobj : Obj} {news : List (Addr × Obj)} {gs : Array GenState} {d : Drawn} {tk : Nat} {os : OsState} {R : Nat} {rvals : List Value} {rns : List Int} {n : Nat} (h1 : IntsAre rvals rns) (h2 : rvals.length ≤ 10) (h3 : 0 < tk) (hn : Nd [R, TX] news) (F : Fr g L h (pinned nom [(Str.ofString "rows", .ref R), (Str.ofString "texts", .ref TX), (Str.ofString "script", .ref lsc)])) (N : News g L h ((R, W.listOf (List.toArray rvals) n) :: (TX, tobj) :: news)) : RowsP g L TX lsc tobj news gs d os ⟨h, gs, d, tk, os⟩ :=
  ⟨R, rvals, rns, n, h, tk, rfl, h1, h2, h3, hn, F, N⟩
noncomputable def Apart (ext news : List (Addr × Obj)) : Prop := ∀ p ∈ ext, ∀ q ∈ news, @Ne Nat q.1 p.1
theorem apart_nil {news : List (Addr × Obj)} : Apart [] news := fun _ h => nomatch h
theorem apart_cons {d : Nat} {o : Obj} {ext news : List (Addr × Obj)} (h1 : ∀ q ∈ news, @Ne Nat q.1 d) (h2 : Apart ext news) : Apart ((d, o) :: ext) news := fun p hp => by
  rcases List.mem_cons.mp hp with rfl | hp
  · exact h1
  · exact h2 p hp
noncomputable def CaJ (CL TG R TX : Nat) (oR oT : Obj) (news : List (Addr × Obj)) (i : Nat) (m : Str → Option Value) (news₁ : List (Addr × Obj)) (tk : Nat) : Prop :=
  ∃ (nc nt : Nat) (vals : List Value) (r : List Cl) (tvs : List (Str × Tok)) (ext : List (Addr × Obj)),
    0 < tk ∧ Pins m [(Str.ofString "calls", .ref CL), (Str.ofString "tags", .ref TG), (Str.ofString "rows", .ref R), (Str.ofString "texts", .ref TX)] ∧ news₁ = (CL, W.listOf (List.toArray vals) nc) :: (TG, W.listOf (List.toArray (strValues tvs)) nt) :: (R, oR) :: (TX, oT) :: (ext ++ news) ∧ Nd [CL, TG, R, TX] (ext ++ news) ∧ Apart ext news ∧ CallsAt ext vals (Cl.start (S "r") [] :: r) ∧ GoesAll [S "r"] r (tvs.map (·.1)).reverse ∧ tvs ≠ [] ∧ tvs.length ≤ 5 ∧ r.length ≤ i
theorem callsAt_one {news : List (Addr × Obj)} {v : Value} {c : Cl} (h : ClIn news v c) : CallsAt news [v] [c] := CallsAt.snoc (vs := []) (cs := []) ⟨rfl, fun _ _ h => absurd h (by simp)⟩ h
theorem last_of {α β : Type} {l : List (α × β)} (h : l ≠ []) : ∃ l' x y, l = l' ++ [(x, y)] := by
  rcases List.eq_nil_or_concat l with rfl | ⟨l', x, rfl⟩
  · exact absurd rfl h
  · exact ⟨l', x.1, x.2, List.concat_eq_append ..⟩
theorem sv_snoc (l : List (Str × Tok)) (x : Str) (t : Tok) : strValues (l ++ [(x, t)]) = strValues l ++ [.str x t] := by simp [strValues]
section
variable {news : List (Addr × Obj)} {D pl n n2 : Nat} {tg : Str} {tk tt : Tok} {pv : List Value} {ps : List (Str × Str)}
theorem clIn_start (h1 : (D, ({ cls := .type "tuple", data := .seq #[.str (Str.ofString "start") tk, .str tg tt, .ref pl] n } : Obj)) ∈ news) (h2 : (pl, W.listOf (List.toArray pv) n2) ∈ news) (h3 : PairsAt news pv ps) : ClIn news (.ref D) (.start tg ps) := ⟨D, pl, pv, tk, tt, n, n2, rfl, h1, h2, h3⟩
theorem clIn_fin (h1 : (D, ({ cls := .type "tuple", data := .seq #[.str (Str.ofString "end") tk, .str tg tt, .ref pl] n } : Obj)) ∈ news) (h2 : (pl, W.listOf (List.toArray []) n2) ∈ news) : ClIn news (.ref D) (.fin tg) := ⟨D, pl, [], tk, tt, n, n2, rfl, h1, h2, trivial⟩
theorem clIn_com (h1 : (D, ({ cls := .type "tuple", data := .seq #[.str (Str.ofString "comment") tk, .str tg tt, .ref pl] n } : Obj)) ∈ news) (h2 : (pl, W.listOf (List.toArray []) n2) ∈ news) : ClIn news (.ref D) (.comment tg) := ⟨D, pl, [], tk, tt, n, n2, rfl, h1, h2, trivial⟩
theorem clIn_dat (h1 : (D, ({ cls := .type "tuple", data := .seq #[.str (Str.ofString "data") tk, .str tg tt, .ref pl] n } : Obj)) ∈ news) (h2 : (pl, W.listOf (List.toArray []) n2) ∈ news) : ClIn news (.ref D) (.data tg) := ⟨D, pl, [], tk, tt, n, n2, rfl, h1, h2, trivial⟩
end
theorem dec_pos {p a b : Prop} [Decidable p] (h : p) (ha : a) : if decide p = true then a else b := by rw [if_pos (decide_eq_true h)]; exact ha
theorem dec_neg {p a b : Prop} [Decidable p] (h : ¬ p) (hb : b) : if decide p = true then a else b := by rw [if_neg (by rw [decide_eq_false h]; exact Bool.false_ne_true)]; exact hb
theorem beqI_pos {x y : Int} {a b : Prop} (h : x = y) (ha : a) : if (x == y) = true then a else b := by rw [if_pos (beq_iff_eq.mpr h)]; exact ha
theorem beqI_neg {x y : Int} {a b : Prop} (h : x ≠ y) (hb : b) : if (x == y) = true then a else b := by rw [if_neg (fun e => h (beq_iff_eq.mp e))]; exact hb
theorem ca_leaf {dos e5 ext news : List (Addr × Obj)} {It CL TG R TX : Nat} {o1 o2 oR oT : Obj} (hq : Nd (dos.map (·.1) ++ [It, CL, TG, R, TX]) (e5 ++ (ext ++ news))) (hap : Apart e5 news) :
    (∀ p ∈ (CL, o1) :: (TG, o2) :: (R, oR) :: (TX, oT) :: ((dos ++ e5) ++ (ext ++ news)), @Ne Nat p.1 It) ∧ Nd [CL, TG, R, TX] ((dos ++ e5) ++ (ext ++ news)) ∧ Apart (dos ++ e5) news := by
  have hn2 : Nd ([It, CL, TG, R, TX] ++ dos.map (·.1)) (e5 ++ (ext ++ news)) := nd_perm hq List.perm_append_comm
  refine ⟨Nd.off (r := [CL, TG, R, TX] ++ dos.map (·.1)) hn2 (by simp), nd_part [CL, TG, R, TX] (as2 := dos.map (·.1)) (Nd.rest (as := [CL, TG, R, TX] ++ dos.map (·.1)) hn2) (by simp), fun p hp q hq' => ?_⟩
  rcases List.mem_append.mp hp with hp | hp
  · exact fun e => hq.2 q (List.mem_append_right _ (List.mem_append_right _ hq')) (List.mem_append_left _ (e ▸ List.mem_map_of_mem hp))
  · exact hap p hp q hq'
theorem caj_mk {CL TG R TX : Nat} {oR oT : Obj} {news : List (Addr × Obj)} {i : Nat} {m : Str → Option Value} {tk nc nt : Nat} {vals tvl : List Value} {r : List Cl} {tvs' : List (Str × Tok)} {e2 ext : List (Addr × Obj)} {D : Nat} {c : Cl} {ts0 : List Str}
    (htk : 0 < tk) (hp : Pins m [(Str.ofString "calls", .ref CL), (Str.ofString "tags", .ref TG), (Str.ofString "rows", .ref R), (Str.ofString "texts", .ref TX)]) (hnd : Nd [CL, TG, R, TX] (e2 ++ (ext ++ news))) (hap : Apart ext news) (hap2 : Apart e2 news) (hca : CallsAt ext vals (Cl.start (S "r") [] :: r)) (hcl : ClIn (e2 ++ ext) (.ref D) c)
    (hga : GoesAll [S "r"] r ts0) (hgo : Goes ts0 c (tvs'.map (·.1)).reverse) (htv : tvl = strValues tvs') (hne : tvs' ≠ []) (hl : tvs'.length ≤ 5) (hr : r.length ≤ i) :
    CaJ CL TG R TX oR oT news (i + 1) m ((CL, W.listOf (List.toArray (vals ++ [.ref D])) nc) :: (TG, W.listOf (List.toArray tvl) nt) :: (R, oR) :: (TX, oT) :: (e2 ++ (ext ++ news))) tk := by
  subst htv
  refine ⟨nc, nt, vals ++ [.ref D], r ++ [c], tvs', e2 ++ ext, htk, hp, by rw [List.append_assoc], by rw [List.append_assoc]; exact hnd, fun p hp => ?_, (hca.mono fun p hp => List.mem_append_right _ hp).snoc hcl, .snoc hga hgo, hne, hl, by rw [List.length_append, List.length_singleton]; (first | lia | omega)⟩
  rcases List.mem_append.mp hp with hp | hp
  · exact hap2 p hp
  · exact hap p hp
noncomputable def CwJ (CL TG R TX : Nat) (oR oT : Obj) (news : List (Addr × Obj)) (n : Nat) (m : Str → Option Value) (news₁ : List (Addr × Obj)) (tk : Nat) : Prop :=
  ∃ (nc nt : Nat) (vals : List Value) (r : List Cl) (tvs : List (Str × Tok)) (ext : List (Addr × Obj)),
    0 < tk ∧ Pins m [(Str.ofString "calls", .ref CL), (Str.ofString "tags", .ref TG), (Str.ofString "rows", .ref R), (Str.ofString "texts", .ref TX)] ∧ news₁ = (CL, W.listOf (List.toArray vals) nc) :: (TG, W.listOf (List.toArray (strValues tvs)) nt) :: (R, oR) :: (TX, oT) :: (ext ++ news) ∧ Nd [CL, TG, R, TX] (ext ++ news) ∧ Apart ext news ∧ CallsAt ext vals (Cl.start (S "r") [] :: r) ∧ GoesAll [S "r"] r (tvs.map (·.1)).reverse ∧ tvs.length = n ∧ r.length + n ≤ 15
theorem CaJ.cw {CL TG R TX : Nat} {oR oT : Obj} {news : List (Addr × Obj)} {i : Nat} {m : Str → Option Value} {news₁ : List (Addr × Obj)} {tk : Nat} (h : CaJ CL TG R TX oR oT news i m news₁ tk) (hi : i ≤ 10) : ∃ n, CwJ CL TG R TX oR oT news n m news₁ tk := by
  obtain ⟨nc, nt, vals, r, tvs, ext, h1, h2, h3, h4, h5, h6, h7, h8, h9, h10⟩ := h
  exact ⟨tvs.length, nc, nt, vals, r, tvs, ext, h1, h2, h3, h4, h5, h6, h7, rfl, by (first | lia | omega)⟩
theorem cwj_mk {CL TG R TX : Nat} {oR oT : Obj} {news : List (Addr × Obj)} {n : Nat} {m : Str → Option Value} {tk nc nt : Nat} {vals : List Value} {r : List Cl} {tvs' : List (Str × Tok)} {e2 ext : List (Addr × Obj)} {D : Nat} {c : Cl} {ts0 : List Str}
    (htk : 0 < tk) (hp : Pins m [(Str.ofString "calls", .ref CL), (Str.ofString "tags", .ref TG), (Str.ofString "rows", .ref R), (Str.ofString "texts", .ref TX)]) (hnd : Nd [CL, TG, R, TX] (e2 ++ (ext ++ news))) (hap : Apart ext news) (hap2 : Apart e2 news) (hca : CallsAt ext vals (Cl.start (S "r") [] :: r)) (hcl : ClIn (e2 ++ ext) (.ref D) c)
    (hga : GoesAll [S "r"] r ts0) (hgo : Goes ts0 c (tvs'.map (·.1)).reverse) (hl : tvs'.length = n) (hr : r.length + (n + 1) ≤ 15) :
    CwJ CL TG R TX oR oT news n m ((CL, W.listOf (List.toArray (vals ++ [.ref D])) nc) :: (TG, W.listOf (List.toArray (strValues tvs')) nt) :: (R, oR) :: (TX, oT) :: (e2 ++ (ext ++ news))) tk := by
  refine ⟨nc, nt, vals ++ [.ref D], r ++ [c], tvs', e2 ++ ext, htk, hp, by rw [List.append_assoc], by rw [List.append_assoc]; exact hnd, fun p hp => ?_, (hca.mono fun p hp => List.mem_append_right _ hp).snoc hcl, .snoc hga hgo, hl, by rw [List.length_append, List.length_singleton]; (first | lia | omega)⟩
  rcases List.mem_append.mp hp with hp | hp
  · exact hap2 p hp
  · exact hap p hp
theorem dat_strs : ∀ tvs : List (Str × Tok), DatAll [] (strValues tvs) (tvs.map fun p => Dat.str p.1)
  | [] => .nil
  | p :: r => .cons (.str p.1 p.2) (dat_strs r)
theorem ne_nil_S {prog : Program} {w : World} {A : Around} {E : Value → Shared → Prop} {s : Shared} {h₀ : Heap} {L : Addr} {news : List (Addr × Obj)} {a b k n : Nat} {vs : List Value} {tvs : List (Str × Tok)} {r : Bool} {Q : Value → Shared → Prop} (N : News h₀ L s.heap news) (hm : (a, W.listOf (List.toArray vs) n) ∈ news) (hv : vs = strValues tvs) (ho : ∀ p ∈ tvs, PyData.strOk p.1 = true) (hb : (b, W.listOf (List.toArray []) k) ∈ news) (hu : A.units + 64 < cLine) (hr : (!tvs.isEmpty) = r) (h : Q (.bool r) s) :
    wpAny (model prog w) A (compareOp .NotEq (.ref a) (.ref b)) Q E s := by
  subst hv
  refine kqd_ne (n₁ := []) (n₂ := []) (xs := strValues tvs) (ys := []) (ds := tvs.map fun p => Dat.str p.1) (es := []) N hm rfl rfl (dat_strs tvs) (fun _ h => nomatch h) hb rfl rfl .nil (fun _ h => nomatch h) (fun d hd => ?_) (fun _ h => nomatch h) hu ?_
  · obtain ⟨p, hp, rfl⟩ := List.mem_map.mp hd
    simpa [kqdOk] using ho p hp
  · rw [← hr] at h
    cases tvs with
    | nil => simpa using h
    | cons p r => simpa using h
theorem nd_exL {as : List Addr} {tl e led : List (Addr × Obj)} (hn : Nd as tl) (hap : ∀ p ∈ e, ∀ q ∈ led, @Ne Nat q.1 p.1) (has : ∀ a ∈ as, a ∈ led.map (·.1)) : Nd as (e ++ tl) := ⟨hn.1, fun p hp h => by
  rcases List.mem_append.mp hp with hp | hp
  · obtain ⟨q, hq, e⟩ := List.mem_map.mp (has _ h)
    exact hap p hp q hq e
  · exact hn.2 p hp h⟩
theorem rev_snoc (l : List (Str × Tok)) (x : Str) (t : Tok) : ((l ++ [(x, t)]).map (·.1)).reverse = x :: (l.map (·.1)).reverse := by simp
theorem CwJ.tk {CL TG R TX : Nat} {oR oT : Obj} {news : List (Addr × Obj)} {n : Nat} {m : Str → Option Value} {news₁ : List (Addr × Obj)} {tk tk' : Nat} (h : CwJ CL TG R TX oR oT news n m news₁ tk) (hk : 0 < tk') : CwJ CL TG R TX oR oT news n m news₁ tk' := by
  obtain ⟨nc, nt, vals, r, tvs, ext, _, h⟩ := h
  exact ⟨nc, nt, vals, r, tvs, ext, hk, h⟩
theorem tags_ok {r : List Cl} {tvs : List (Str × Tok)} (h : GoesAll [S "r"] r (tvs.map (·.1)).reverse) : ∀ p ∈ tvs, PyData.strOk p.1 = true := fun p hp => by
  have h1 := (goes_tags h fun t ht => .inl (List.mem_singleton.mp ht)).1 p.1 (List.mem_reverse.mpr (List.mem_map_of_mem hp))
  rcases h1 with h | h | h | h <;> (rw [h]; decide +kernel)
theorem calls_spec : ∀ {w : World} {p : Program} {loose : List Str} {mean : ExcName → Option Value} {mg mb : Str → Option Value} {A : Around} {env : Env} {outer : List Env} {base h₀ : Heap} {L : Addr} {m : Str → Option Value} {s : Shared} {Q : Value → Shared → Prop} {lsc : Nat} {svs : List Value} {sns : List Int} {news : List (Addr × Obj)}
    (_ : CxA 10 w p loose mean mg mb A env outer base h₀ L) (_ : Fr h₀ L s.heap m)
    (_ : News h₀ L s.heap news)
    (_ : h₀.IsList lsc svs.toArray)
    (_ : IntsAre svs sns)
    (_ : svs.length ≤ 63)
    (_ : ∀ (D lc nc nD : Nat) vals calls b ext h' tk', CallsAt ext vals calls → Lawful calls → calls.length ≤ 20 → 0 < tk' → (∀ p ∈ (D, ({ cls := .type "tuple", data := .seq #[.ref lc, .bool b] nD } : Obj)) :: (lc, W.listOf (List.toArray vals) nc) :: ext, ∀ q ∈ news, @Ne Nat q.1 p.1) → Fr h₀ L h' m → News h₀ L h' ((D, ({ cls := .type "tuple", data := .seq #[.ref lc, .bool b] nD } : Obj)) :: (lc, W.listOf (List.toArray vals) nc) :: (ext ++ news)) → Q (.ref D) { s with heap := h', toks := tk' }),
    wpAny (model PySem.Challenge.rw_nb0300_01.row.prog w) A (call (.ref 213) [.ref lsc]) Q Nay s := by
  intro w p loose mean mg mb A env outer base h₀ L m s Q lsc svs sns news c F N hsl hsi hsz hret
  have X := c.X
  k_dflt (refine' enterA (ps := [(Str.ofString "script", .ref lsc)]) ?c ?F ?N ?ho ?hcd ?hb ?hps ?h0 ?hloc ?_ ?c2 ?c3 ?c4 ?c5; (case c => assumption); (case F => k_asm); (case N => k_asm); (case ho => k_is); (case hcd => k_is); (case hb => first | exact BindsTo.of_eq rfl | exact binds_K (by k_in) rfl (by k_is) rfl rfl rfl); (case hps => exact rfl); (case h0 => exact Nat.le_of_ble_eq_true rfl); (case hloc => exact locs rfl); (case c2 => exact rfl); (case c3 => exact rfl); (case c4 => exact rfl); (case c5 => decide); k_whole)
  intro A1 g1 L1 h1' tk0 htk0 c1 X1 FG1 F1 N1
  have T1 := c1.T
  have hn := @nd_nil news
  (k_with "compareOp Eq ref ref" => (with_reducible show wpAny _ _ (compareOp CmpOp.Eq (Value.ref _) (Value.ref _)) _ _ _); k_dflt (refine eq_intsK (News.isList (by k_asm) (by k_mem)) (by assumption) (News.isList (by k_asm) (by k_mem)) .nil (by have := c1.hu; (first | lia | omega)) ?_))
  walk_at "go"
  rename Nd [_] _ => hnT
  have hslx : Heap.IsList h' lsc svs.toArray := by
    obtain ⟨o, ho, r⟩ := hsl
    exact ⟨o, F'.keep _ _ (FG1.keep _ _ ho), r⟩
  k_dflt (refine' slice_list3 F' N' hslx .none (IsPart.int _ _) .none ?n ?_ ?s ?t ?z; (case n => exact nofun); (case s => with_unfolding_all rfl); (case t => kmk_pure); (case z => (rw [sizeLine_eq]; simp only [List.size_toArray]; (first | lia | omega))))
  intro h5 F5 N5
  dsimp only at N5 ⊢
  have e10 : slicePick svs.toArray none (some 10) none = (svs.take 10).toArray := slicePick_upto' svs.toArray 10
  rw [e10] at N5
  replace N5 : News g1 L1 h5 ((h'.objs.size + 1, W.listOf (List.toArray (svs.take 10)) 0) :: _) := N5
  have hR := fun (p : Addr × Obj) hp => (Nat.ne_of_lt (Nat.lt_succ_of_lt (Heap.lt_size (N' p hp).1)) : @Ne Nat p.1 (h'.objs.size + 1))
  have hti := hsi.take 10
  clear F' N' hslx
  generalize h'.objs.size + 1 = R at *
  have hnR := nd_newN hnT rfl hR
  clear hR e10
  (k_with "goI" => repeat' (first
    | (k_unfold; (try dsimp only))
    | ((fail_if_success (with_reducible show wpAny _ _ (PySem.execs (PySem.Stmt.If (PySem.Expr.Compare _ _ _ _) _ _ _ :: _) _) _ _ _)); first | walk1 | (dsimp only; walk1))
    | fail "no step"))
  walk_at "goI"
  rename_i TX _ _ _ _ 
  obtain ⟨tv, N9, htv⟩ : ∃ tv : List Value, News g1 L1 h' ((R, W.listOf (List.toArray (svs.take 10)) 0) :: (TX, W.listOf (List.toArray tv) 0) :: news) ∧ IsStrs tv texts10 := by
    refine ⟨_, N', ?_⟩
    exact ⟨rfl, rfl, rfl, rfl, rfl, rfl, rfl, rfl, rfl, rfl, trivial⟩
  clear N'
  refine exec_join (RowsP g1 L1 TX lsc (W.listOf (List.toArray tv) 0) news s.gens s.drawn s.os) ?_ ?_
  · walk_at "go"
    · rename Nd [_, _, _, _] _ => hq
      exact NextP.mk (rows_of (.cons _ _ (.cons _ _ (.cons _ _ (.cons _ _ (.cons _ _ (.cons _ _ (.cons _ _ .nil))))))) (Nat.le_of_ble_eq_true rfl) (by walk_at "tpos") (nd_pick hq [0, 3] rfl (by decide)) (fr_again (by k_asm)) (News.sub N' (sub_cons memH0 (sub_cons memH3 fun p hp => memT4 hp))))
    · rename News _ _ _ _ => N8
      exact NextP.mk (rows_of hti (by rw [List.length_take]; (first | lia | omega)) (by walk_at "tpos") hnR (by k_asm) (News.sub N8 (sub_cons memH1 (sub_cons memH2 fun p hp => memT3 hp))))
  · rintro _ ⟨R', rvals, rns, nR, h6, tk6, rfl, hri, hrl, htk6, hn6, F6, N6⟩
    clear F' N9 hnR
    walk_at "go"
    refine For_go ?_
    walk_at "go"
    (k_with "ite" => first | (with_reducible refine beqI_pos (by (first | lia | omega)) ?_) | (with_reducible refine beqI_neg (by (first | lia | omega)) ?_) | (with_reducible refine dec_pos (by (first | lia | omega)) ?_) | (with_reducible refine dec_neg (by (first | lia | omega)) ?_))
    (k_with "subscriptTail" => (with_reducible show wpAny _ _ (subscriptTail _ _ (Value.ref _) (Value.int (Int.fmod _ 10) _)) _ _ _); k_dflt (refine' item_strs ?N ?m htv (text_idx _).1 (Int.lt_trans (text_idx _).2.1 (by decide)) (text_idx _).2.2 ?_ ?hs; (case N => k_asm); (case m => k_mem); (case hs => exact rfl)); intro t1)
    (k_with "subscriptTail" => (with_reducible show wpAny _ _ (subscriptTail _ (Expr.UnaryOp _ _ _) (Value.ref _) _) _ _ _); k_dflt (refine' item_lastL ?N ?m ?z ?_; (case N => k_asm); (case m => k_mem); (case z => (simp only [strValues, List.length_map, List.length_append, List.length_cons, List.length_nil] at *; (first | lia | omega)))))
    rename Nd [_, _, _, _, _, _] _ => hq
    rename_i E0 _ _ D0 _ _ CL _ _ _ _ _ TG _
    refine for_list (vs := rvals) (CaJ CL TG R' TX (W.listOf (List.toArray rvals) nR) (W.listOf (List.toArray tv) 0) news) c1.hh F' (News.sub N' (sub_cons memH1 (sub_cons memH0 (sub_cons memH4 (sub_cons memH5 (sub_cons memH2 (sub_cons (l' := news) memH3 fun p hp => memT6 hp))))))) ?_ ?_ ?_ ?_
    · have hndQ := nd_pick hq [1, 0, 4, 5, 2, 3] rfl (by decide)
      have hndR : Nd [CL, TG, R', TX] ([(D0, ({ cls := .type "tuple", data := .seq #[.str (S "start") tk6, .str (S "r") (tk6 + 1), .ref E0] } : Obj)), (E0, W.listOf #[] 0)] ++ news) := nd_part [CL, TG, R', TX] hndQ rfl
      refine ⟨_, _, [.ref D0], [], [(S "r", _)], _, by walk_at "tpos", ⟨rfl, rfl, rfl, rfl, trivial⟩, rfl, hndR, ?_, ?_, .nil, List.cons_ne_nil _ _, Nat.le_of_ble_eq_true rfl, Nat.le_refl _⟩
      · exact apart_cons (nd_ne hq memH2) (apart_cons (nd_ne hq memH3) apart_nil)
      · exact callsAt_one (clIn_start (pv := []) memH0 memH1 trivial)
    · rintro i m₁ news₁ tk h ⟨nc, nt, vals, r, tvs, ext, htk, hp, rfl, _⟩ F₁ N₁
      exact News.isList N₁ memH2
    · rintro i v m₁ news₁ h tk It oI hv ⟨nc, nt, vals, r, tvs, ext, htk, hp, rfl, hn4, hap, hca, hga, hne0, hl5, hrl5⟩ hoc hlt hne F₁ N₁
      obtain ⟨n, nt9, rfl, _⟩ := hri.at i v hv
      obtain ⟨tvs, tg, tgt, rfl⟩ := last_of hne0
      have hnI := nd_newN hn4 rfl hne
      rw [sv_snoc] at N₁
      have hl6 : tvs.length ≤ 4 := by rw [List.length_append, List.length_singleton] at hl5; (first | lia | omega)
      have hi10 : i < 10 := Nat.lt_of_lt_of_le (List.getElem?_eq_some_iff.mp hv).1 hrl
      have hvl : vals.length ≤ 20 := by have := hca.len; rw [List.length_cons] at this; (first | lia | omega)
      replace F₁ := fr_pinsP F₁ hp
      have hsv : (strValues tvs).length = tvs.length := by rw [strValues, List.length_map]
      have hlen : (strValues tvs ++ [Value.str tg tgt]).length = tvs.length + 1 := by rw [List.length_append, hsv]; rfl
      clear F' N'
      walk_at "go"
      · have hl4 : tvs.length < 4 := by (first | lia | omega)
        k_dflt (refine' pairs_spec ?c ?F ?N ?_; (case F => k_asm); (case N => k_asm); (case c => walk_at "cx"))
        intro D5 pv5 ext5 n5 h5 tk5 htk5 hpr5 F5 N5 hap5
        have hnd5 := nd_exL hnI hap5 (fun a ha => show a ∈ [It, CL, TG, R', TX] ++ (ext ++ news).map (·.1) from List.mem_append_left _ ha)
        have N6 := News.sub N5 (sub_cons (List.mem_append_right _ memH0) (sub_cons (List.mem_append_right _ memH1) (sub_cons (List.mem_append_right _ memH2) (sub_cons (List.mem_append_right _ memH3) (sub_cons (l' := ((D5, _) :: ext5) ++ (ext ++ news)) (List.mem_append_right _ memH4) fun p hp => (List.mem_append.mp hp).elim (fun h => List.mem_append_left _ h) (fun h => List.mem_append_right _ (memT5 h)))))))
        have hapD : Apart ((D5, W.listOf (List.toArray pv5) n5) :: ext5) news := fun p hp q hq => hap5 p hp q (memT5 (List.mem_append_right _ hq))
        clear N' F' N5
        have hab := abx_tag (k := (n.fdiv 4).fmod 3) (Int.fmod_nonneg_of_pos _ (by decide)) (Int.fmod_lt_of_pos _ (by decide))
        generalize hxg : Txt.item (Str.ofString "abx") ((n.fdiv 4).fmod 3) = xg at *
        walk_at "go"
        rename Nd [_, _, _, _, _, _] (_ :: ext5 ++ _) => hq6
        obtain ⟨hz1, hz2, hz3⟩ := ca_leaf (dos := [(_, _)]) (e5 := (D5, W.listOf (List.toArray pv5) n5) :: ext5) hq6 hapD
        exact TurnP.next (by k_asm) (News.sub N' (sub_cons memH1 (sub_cons memH2 (sub_cons memH3 (sub_cons memH4 (sub_cons memH5 (sub_cons memH0 fun p hp => memT6 hp))))))) hz1 (caj_mk (e2 := (_, _) :: (D5, W.listOf (List.toArray pv5) n5) :: ext5) (tvs' := tvs ++ [(tg, tgt)] ++ [(xg, _)]) (by walk_at "tpos") ⟨rfl, rfl, rfl, rfl, trivial⟩ hz2 hap hz3 hca (clIn_start memH0 memH1 (hpr5.mono fun p hp => memT2 (List.mem_append_left _ hp))) hga (by rw [rev_snoc (tvs ++ [(tg, tgt)])]; exact .start (by rw [rev_snoc]; exact List.cons_ne_nil _ _) (by rw [List.length_reverse, List.length_map]; simp only [List.length_append, List.length_singleton]; (first | lia | omega)) hab (pairsOf_ok _)) ((congrArg (· ++ [Value.str xg _]) (sv_snoc tvs tg tgt).symm).trans (sv_snoc (tvs ++ [(tg, tgt)]) xg _).symm) (by simp) (by simp only [List.length_append, List.length_singleton]; (first | lia | omega)) hrl5)
      · rename Nd [_, _, _, _, _, _, _] _ => hq7
        obtain ⟨hz1, hz2, hz3⟩ := ca_leaf (dos := [(_, _), (_, _)]) (e5 := []) hq7 apart_nil
        exact TurnP.next (by k_asm) (News.sub N' (sub_cons memH2 (sub_cons memH3 (sub_cons memH4 (sub_cons memH5 (sub_cons memH6 (sub_cons memH0 (sub_cons memH1 fun p hp => memT7 hp)))))))) hz1 (caj_mk (e2 := [(_, _), (_, _)]) (tvs' := tvs ++ [(tg, tgt)]) (by walk_at "tpos") ⟨rfl, rfl, rfl, rfl, trivial⟩ hz2 hap hz3 hca (clIn_dat memH0 memH1) hga (by rw [rev_snoc]; exact .data (List.cons_ne_nil _ _) (textAt_mem _)) (sv_snoc ..).symm hne0 hl5 hrl5)
      · have hl4 : 0 < tvs.length := by (first | lia | omega)
        rename Nd [_, _, _, _, _, _, _] _ => hq7
        obtain ⟨hz1, hz2, hz3⟩ := ca_leaf (dos := [(_, _), (_, _)]) (e5 := []) hq7 apart_nil
        exact TurnP.next (by k_asm) (News.sub N' (sub_cons memH2 (sub_cons memH3 (sub_cons memH4 (sub_cons memH5 (sub_cons memH6 (sub_cons memH0 (sub_cons memH1 fun p hp => memT7 hp)))))))) hz1 (caj_mk (e2 := [(_, _), (_, _)]) (tvs' := tvs) (by walk_at "tpos") ⟨rfl, rfl, rfl, rfl, trivial⟩ hz2 hap hz3 hca (clIn_fin memH0 memH1) hga (by rw [rev_snoc]; exact .fin) rfl (fun e => by rw [e] at hl4; exact absurd hl4 (Nat.lt_irrefl _)) (Nat.le_succ_of_le hl6) hrl5)
      · rename Nd [_, _, _, _, _, _, _] _ => hq7
        obtain ⟨hz1, hz2, hz3⟩ := ca_leaf (dos := [(_, _), (_, _)]) (e5 := []) hq7 apart_nil
        exact TurnP.next (by k_asm) (News.sub N' (sub_cons memH2 (sub_cons memH3 (sub_cons memH4 (sub_cons memH5 (sub_cons memH6 (sub_cons memH0 (sub_cons memH1 fun p hp => memT7 hp)))))))) hz1 (caj_mk (e2 := [(_, _), (_, _)]) (tvs' := tvs ++ [(tg, tgt)]) (by walk_at "tpos") ⟨rfl, rfl, rfl, rfl, trivial⟩ hz2 hap hz3 hca (clIn_dat memH0 memH1) hga (by rw [rev_snoc]; exact .data (List.cons_ne_nil _ _) (textAt_mem _)) (sv_snoc ..).symm hne0 hl5 hrl5)
      · rename Nd [_, _, _, _, _, _, _] _ => hq7
        obtain ⟨hz1, hz2, hz3⟩ := ca_leaf (dos := [(_, _), (_, _)]) (e5 := []) hq7 apart_nil
        exact TurnP.next (by k_asm) (News.sub N' (sub_cons memH2 (sub_cons memH3 (sub_cons memH4 (sub_cons memH5 (sub_cons memH6 (sub_cons memH0 (sub_cons memH1 fun p hp => memT7 hp)))))))) hz1 (caj_mk (e2 := [(_, _), (_, _)]) (tvs' := tvs ++ [(tg, tgt)]) (by walk_at "tpos") ⟨rfl, rfl, rfl, rfl, trivial⟩ hz2 hap hz3 hca (clIn_com memH0 memH1) hga (by rw [rev_snoc]; exact .comment (List.cons_ne_nil _ _) (textAt_mem _)) (sv_snoc ..).symm hne0 hl5 hrl5)
      · rename Nd [_, _, _, _, _, _, _] _ => hq7
        obtain ⟨hz1, hz2, hz3⟩ := ca_leaf (dos := [(_, _), (_, _)]) (e5 := []) hq7 apart_nil
        exact TurnP.next (by k_asm) (News.sub N' (sub_cons memH2 (sub_cons memH3 (sub_cons memH4 (sub_cons memH5 (sub_cons memH6 (sub_cons memH0 (sub_cons memH1 fun p hp => memT7 hp)))))))) hz1 (caj_mk (e2 := [(_, _), (_, _)]) (tvs' := tvs ++ [(tg, tgt)]) (by walk_at "tpos") ⟨rfl, rfl, rfl, rfl, trivial⟩ hz2 hap hz3 hca (clIn_dat memH0 memH1) hga (by rw [rev_snoc]; exact .data (List.cons_ne_nil _ _) (textAt_mem _)) (sv_snoc ..).symm hne0 hl5 hrl5)
    · rintro m₁ news₁ h tk hJ F₁ N₁
      obtain ⟨n8, hJ⟩ := hJ.cw hrl
      refine QS_next (by obtain ⟨_, _, _, _, _, _, h, _⟩ := hJ; exact h) ?_
      intro tkR htkR
      walk_at "go"
      refine while_any (CwJ CL TG R' TX (W.listOf (List.toArray rvals) nR) (W.listOf (List.toArray tv) 0) news) F₁ N₁ (hJ.tk htkR) ?_
      clear F' N' hJ
      rintro n m₂ news₂ h2 tk2 ⟨nc, nt, vals, r, tvs, ext, htk, hp, rfl, hn4, hap, hca, hga, hln, hrl⟩ F₂ N₂
      replace F₂ := fr_pinsP F₂ hp
      clear F₁ N₁
      have ho9 := tags_ok hga
      (k_with "call builtin:sum" => k_dflt (refine' LSm.sum_ints ?sumF ?sumN ?sumh ?suml hri ?_; (case sumF => k_asm); (case sumN => k_asm); (case sumh => exact c1.hh); (case suml => exact News.isList (by k_asm) (by k_mem))); intro h' tk' t' F' N')
      have hvl : vals.length ≤ 20 := by have := hca.len; rw [List.length_cons] at this; (first | lia | omega)
      (k_with "compareOp NotEq ref ref" => k_dflt (refine' ne_nil_S ?N ?m ?v ho9 ?b ?u ?r ?_; (case N => k_asm); (case m => k_mem); (case v => first | assumption | exact rfl); (case b => k_mem); (case u => (have := c1.hu; (first | lia | omega))); (case r => first | assumption | exact rfl)))
      by_cases hne0 : tvs = []
      · subst hne0
        have hr9 : (!([] : List (Str × Tok)).isEmpty) = false := rfl
        have hv9 : ([] : List Value) = strValues [] := rfl
        walk_at "go"
        rename Nd [_, _, _, _, _, _] _ => hq6
        exact hret _ CL _ _ vals _ _ ext _ _ hca ⟨r, rfl, hga⟩ (by rw [List.length_cons]; (first | lia | omega)) (by walk_at "tpos") (apart_cons (fun q hq => nd_ne hq6 memH0 q (List.mem_append_right _ hq)) (apart_cons (fun q hq => nd_ne hq6 memH2 q (List.mem_append_right _ hq)) hap)) kF (News.sub kN (sub_cons memH0 (sub_cons memH2 fun p hp => memT6 hp)))
      · obtain ⟨tvs, tg, tgt, rfl⟩ := last_of hne0
        have hv9 := (sv_snoc tvs tg tgt).symm
        have hr9 : (!(tvs ++ [(tg, tgt)]).isEmpty) = true := by cases tvs <;> rfl
        rw [sv_snoc] at N₂
        have hsv : (strValues tvs).length = tvs.length := by rw [strValues, List.length_map]
        rw [List.length_append, List.length_singleton] at hln
        walk_at "go"
        rename Nd [_, _, _, _, _, _, _] _ => hq7
        obtain ⟨hz1, hz2, hz3⟩ := ca_leaf (dos := [(_, _), (_, _)]) (e5 := []) (o1 := W.listOf #[] 0) (o2 := W.listOf #[] 0) (oR := W.listOf #[] 0) (oT := W.listOf #[] 0) hq7 apart_nil
        exact WhileP.next (by k_asm) (News.sub N' (sub_cons memH3 (sub_cons memH4 (sub_cons memH5 (sub_cons memH6 (sub_cons memH0 (sub_cons memH1 fun p hp => memT7 hp))))))) (n' := tvs.length) (by (first | lia | omega)) (cwj_mk (e2 := [(_, _), (_, _)]) (tvs' := tvs) (by walk_at "tpos") ⟨rfl, rfl, rfl, rfl, trivial⟩ hz2 hap hz3 hca (clIn_fin memH0 memH1) hga (by rw [rev_snoc]; exact .fin) rfl (by (first | lia | omega)))
end
section
open PySem PySem.W PyProof.Rows PySem.Calls
theorem words_KTx : PySem.Challenge.rw_nb0300_01.row.prog = PySem.Challenge.rw_nb0300_01.row.prog → hd.heap_1 = hd.heap_1 → True := by
  k_with_none
  k_fill
  k_with "k_mem" => first | exact memH0 | exact memH1 | exact memH2 | exact memH3 | exact memH4 | exact memH5 | exact memH6 | exact memH7 | exact memH8 | exact memH9 | exact memH10 | exact memH11 | exact memH12 | exact memH13 | exact memH14 | exact memH15 | exact memH16 | (with_reducible assumption) | (refine memT1 ?_; with_reducible assumption) | (refine memT2 ?_; with_reducible assumption) | (refine memT3 ?_; with_reducible assumption) | (refine memT4 ?_; with_reducible assumption) | (refine memT5 ?_; with_reducible assumption) | (refine memT6 ?_; with_reducible assumption) | (refine memT7 ?_; with_reducible assumption) | (refine memT8 ?_; with_reducible assumption) | (refine memT9 ?_; with_reducible assumption) | (refine memT10 ?_; with_reducible assumption) | (refine memT11 ?_; with_reducible assumption) | (refine memT12 ?_; with_reducible assumption) | (refine memT13 ?_; with_reducible assumption) | (refine memT14 ?_; with_reducible assumption) | (refine memT15 ?_; with_reducible assumption) | (refine memT16 ?_; with_reducible assumption) | (refine memT17 ?_; with_reducible assumption)
  k_with "k_upd" => first | (refine' upd0 ?a ?b; (case a => with_reducible assumption); (case b => k_dflt exact rfl)) | (refine' upd1 ?a ?b; (case a => with_reducible assumption); (case b => k_dflt exact rfl)) | (refine' upd2 ?a ?b; (case a => with_reducible assumption); (case b => k_dflt exact rfl)) | (refine' upd3 ?a ?b; (case a => with_reducible assumption); (case b => k_dflt exact rfl)) | (refine' upd4 ?a ?b; (case a => with_reducible assumption); (case b => k_dflt exact rfl)) | (refine' upd5 ?a ?b; (case a => with_reducible assumption); (case b => k_dflt exact rfl)) | (refine' upd6 ?a ?b; (case a => with_reducible assumption); (case b => k_dflt exact rfl)) | (refine' upd7 ?a ?b; (case a => with_reducible assumption); (case b => k_dflt exact rfl)) | (refine' upd8 ?a ?b; (case a => with_reducible assumption); (case b => k_dflt exact rfl)) | (refine' upd9 ?a ?b; (case a => with_reducible assumption); (case b => k_dflt exact rfl)) | (refine' upd10 ?a ?b; (case a => with_reducible assumption); (case b => k_dflt exact rfl)) | (refine' upd11 ?a ?b; (case a => with_reducible assumption); (case b => k_dflt exact rfl)) | (refine' upd12 ?a ?b; (case a => with_reducible assumption); (case b => k_dflt exact rfl)) | (refine' upd13 ?a ?b; (case a => with_reducible assumption); (case b => k_dflt exact rfl))
  k_with "k_updF" => first | (refine' updF0 ?a ?b; (case a => with_reducible assumption); (case b => k_dflt exact rfl)) | (refine' updF1 ?a ?b; (case a => with_reducible assumption); (case b => k_dflt exact rfl)) | (refine' updF2 ?a ?b; (case a => with_reducible assumption); (case b => k_dflt exact rfl)) | (refine' updF3 ?a ?b; (case a => with_reducible assumption); (case b => k_dflt exact rfl)) | (refine' updF4 ?a ?b; (case a => with_reducible assumption); (case b => k_dflt exact rfl)) | (refine' updF5 ?a ?b; (case a => with_reducible assumption); (case b => k_dflt exact rfl)) | (refine' updF6 ?a ?b; (case a => with_reducible assumption); (case b => k_dflt exact rfl)) | (refine' updF7 ?a ?b; (case a => with_reducible assumption); (case b => k_dflt exact rfl)) | (refine' updF8 ?a ?b; (case a => with_reducible assumption); (case b => k_dflt exact rfl)) | (refine' updF9 ?a ?b; (case a => with_reducible assumption); (case b => k_dflt exact rfl)) | (refine' updF10 ?a ?b; (case a => with_reducible assumption); (case b => k_dflt exact rfl)) | (refine' updF11 ?a ?b; (case a => with_reducible assumption); (case b => k_dflt exact rfl)) | (refine' updF12 ?a ?b; (case a => with_reducible assumption); (case b => k_dflt exact rfl)) | (refine' updF13 ?a ?b; (case a => with_reducible assumption); (case b => k_dflt exact rfl))
  k_with "cx" => exact CxA.le (by with_reducible assumption) (by decide)
  k_with "go" => repeat' (first
    | (k_unfold; (try dsimp only))
    | ((fail_if_success (with_reducible show wpAny _ _ (PySem.exec (PySem.Stmt.For _ _ _ _ _) _) _ _ _)); (fail_if_success (with_reducible show wpAny _ _ (PySem.exec (PySem.Stmt.While _ _ _ _) _) _ _ _)); (fail_if_success (with_reducible show wpAny _ _ (pyIter _) _ _ _)); (fail_if_success (with_reducible show wpAny _ _ (subscriptTail _ (PySem.Expr.Slice _ _ _ _) (Value.ref _) _) _ _ _)); first | walk1 | (dsimp only; walk1))
    | fail "no step")
  k_with "goJ" => repeat' (first
    | (k_unfold; (try dsimp only))
    | ((fail_if_success (with_reducible show wpAny _ _ (PySem.execs (PySem.Stmt.If _ _ (_ :: _) _ :: _) _) _ _ _)); (fail_if_success (with_reducible show wpAny _ _ (PySem.execs (PySem.Stmt.If (PySem.Expr.Attribute _ (PySem.Str.ofString "_data") _) _ _ _ :: _) _) _ _ _)); first | walk1 | (dsimp only; walk1))
    | fail "no step")
  k_with "goL" => repeat' (first
    | (k_unfold; (try dsimp only))
    | ((fail_if_success (with_reducible show wpAny _ _ (PySem.eval (PySem.Expr.ListComp _ _ _ _) _) _ _ _)); first | walk1 | (dsimp only; walk1))
    | fail "no step")
  k_with "goG" => repeat' (first
    | (k_unfold; (try dsimp only))
    | ((fail_if_success (with_reducible show wpAny _ _ (PySem.call (Value.builtin _) _) _ _ _)); first | walk1 | (dsimp only; walk1))
    | fail "no step")
  k_with "execs cons" => (try dsimp only); first | (with_reducible refine execs_one ?_) | (with_reducible refine execsS ?_)
  k_with "execs nil" => with_reducible refine wpAny_execs_nil ?_
  k_with "tpos" => (try dsimp only); first | exact Nat.succ_pos _ | assumption | (first | lia | omega)
  k_with "QS" => (try dsimp only); first | ((with_reducible refine QS_next (by first | exact Nat.succ_pos _ | assumption | (first | lia | omega)) ?_); intro tk htk) | ((with_reducible refine QS_any ?_); intro tk) | (with_reducible refine QS_ret ?_) | (with_reducible refine QS_brk ?_) | (with_reducible refine QS_cont ?_)
  k_with "QF" => (first | (with_reducible refine QF_ret (by k_asm) (by k_asm) ?_) | (with_reducible refine QF_next (by k_asm) (by k_asm) ?_)); intro kF kN
  k_with "storeName" => k_here; k_dflt (refine' storeP ?F ?N ?_ ?a ?b; (case F => k_asm); (case N => k_asm); (case a => rfl); (case b => rfl); k_whole); intro h' F' N'; (try k_sweep)
  k_with "eval Attribute Name" => k_here; (with_reducible show wpAny _ _ (eval (PySem.Expr.Attribute (PySem.Expr.Name (PySem.Str.ofString "self") _) _ _) (envOf _ _ _ _ _)) _ _ _); k_dflt (refine' attrR ?F ?X ?N ?s ?h1 ?h2 (attr_ok _ _ ?ok) ?hl ?hv ?_ ?hk ?hx; (case F => k_asm); (case X => k_asm); (case N => k_asm); (case s => exact rfl); (case h1 => k_mem); (case h2 => k_mem); (case ok => exact rfl); (case hl => k_get); (case hv => k_handed); (case hk => exact rfl); (case hx => exact rfl); k_whole); (try dsimp only)
  k_with "call builtin:list.append" => k_here; (with_reducible show wpAny _ _ (call (Value.builtin _) [Value.ref _, _]) _ _ _); k_dflt (refine' append_L ?k1 ?k2 ?k3 ?z ?_; (case k1 => k_asm); (case k2 => k_asm); (case k3 => k_upd); (case z => first | exact n_le (by with_reducible assumption) rfl | (first | lia | omega) | (simp only [strValues, List.length_map, List.length_append, List.length_cons, List.length_nil]; (first | lia | omega))); k_whole); intro h' F' N'; (try k_sweep)
  k_with "call builtin:str.replace" => (with_reducible show wpAny _ _ (call (Value.builtin "str.replace") [Value.str _ _, Value.str _ _, Value.str _ _]) _ _ _); k_dflt (refine' replace_P ?a ?b ?c ?d ?e ?_; (case a => (refine ltN ?_; first | assumption | (first | lia | omega))); (case b => (refine ltN ?_; first | assumption | (first | lia | omega))); (case c => decide); (case d => (first | lia | omega)); (case e => decide)); intro t' k' hk'; (try dsimp only at hk')
  k_with "bound" => first | exact BndAt.ofK (by k_asm) (by k_asm) (by assumption) | exact (BndAt.of (by k_asm) (by k_mem))
  k_with "callWith" => (with_reducible show wpAny _ _ (callWith _ (Value.builtin _) (_ :: _) _ _) _ _ _); refine PyProof.Rows.callWith_method1 ?_
  k_with "callWith ref" => k_here; (with_reducible show wpAny _ _ (callWith _ (Value.ref _) _ (backTo _ (starEach (_ :: _) _)) []) _ _ _); k_dflt (refine' callWith_B ?kb ?_; (case kb => walk_at "bound"); k_whole)
  k_with "And" => (with_reducible show BndAt _ _ _ _ ∧ _); k_dflt (refine ⟨by walk_at "bound", ?_⟩); (try dsimp only [List.nil_append, List.cons_append])
  k_with "delItem ref ref" => k_here; (with_reducible show wpAny _ _ (delItem (Value.ref _) (Value.ref _)) _ _ _); k_dflt (refine' del_all ?F ?N ?U ?z ?_; (case F => k_asm); (case N => k_asm); (case U => k_updF); (case z => first | exact n_le (by with_reducible assumption) rfl | (first | lia | omega) | (simp only [strValues, List.length_map]; (first | lia | omega)))); intro h' n' F' N'; (try dsimp only at N')
  k_with "call ref" => k_here; (with_reducible show wpAny _ _ (call (Value.ref 98) [Value.ref _]) _ _ _); k_dflt (refine' join_B ?b ?l rfl ?j ?t ?_; (case b => walk_at "bound"); (case l => exact News.isList (by k_asm) (by k_mem)); (case j => assumption); (case t => ((try dsimp only); first | assumption | (first | lia | omega)))); intro t' k' hk'
  k_with "call ref" => k_here; (with_reducible show wpAny _ _ (call (Value.ref _) [Value.str _ _]) _ _ _); k_dflt (refine' append_B ?F ?N ?b ?U ?z ?_; (case F => k_asm); (case N => k_asm); (case b => k_mem); (case U => k_upd); (case z => first | exact n_le (by with_reducible assumption) rfl | (first | lia | omega) | (simp only [strValues, List.length_append, List.length_map, List.length_cons, List.length_nil]; (first | lia | omega)))); intro h' F' N'; (try dsimp only at N')
  k_with "truthy str" => (with_reducible show wpAny _ _ (PySem.truthy (Value.str _ _)) _ _ _); refine truthy_yes (by assumption) (by (first | lia | omega)) ?_
  k_with "binaryOp Add ref ref" => k_here; (with_reducible show wpAny _ _ (binaryOp _ (Value.ref _) (Value.ref _)) _ _ _); k_dflt (refine' add_L ?F ?N ?a ?b ?z ?_; (case F => k_asm); (case N => k_asm); (case a => exact News.isList (by k_asm) (by k_mem)); (case b => exact News.isList (by k_asm) (by k_mem)); (case z => (simp only [List.length_nil, List.length_cons]; (first | lia | omega)))); intro D' h' F' N' l1; (try k_lt l1); (try k_sweep)
  k_with "hh" => first | exact CxA.hh (by with_reducible assumption) | assumption
  k_with "assign Tuple" => k_here; (with_reducible show wpAny _ _ (assign (Expr.Tuple _ _ _) _ (Value.ref _)) _ _ _); k_dflt (refine' unpackN_ ?F ?N ?T ?k1 ?k2 ?k3 ?_; (case F => k_asm); (case N => k_asm); (case T => refine News.isTup (by k_asm) (by k_mem)); (case k1 => walk_at "hh"); (case k2 => exact rfl); (case k3 => exact rfl)); intro h' F' N'; (try k_sweep)
  k_with "truthy ref" => (with_reducible show wpAny _ _ (PySem.truthy (Value.ref _)) _ _ _); k_dflt (first | (refine truthy_L (b := false) (by k_asm) (by k_mem) rfl ?_ ?_) | (refine truthy_L (b := true) (by k_asm) (by k_mem) rfl ?_ ?_)); (case' refine_1 => first | exact n_le (by with_reducible assumption) rfl | (first | lia | omega) | (simp only [strValues, List.length_map, List.length_cons, List.length_nil] at *; (first | lia | omega))); skip
  k_with "call builtin:list.pop" => k_here; (with_reducible show wpAny _ _ (call (Value.builtin _) [Value.ref _]) _ _ _); k_dflt (refine' pop_L ?F ?N ?U ?z ?_; (case F => k_asm); (case N => k_asm); (case U => k_upd); (case z => first | exact n_le (by with_reducible assumption) rfl | (first | lia | omega) | (simp only [List.length_append, List.length_cons, List.length_nil]; (first | lia | omega)))); intro h' F' N'; (try dsimp only at N')
  k_with "call builtin:len" => k_here; (with_reducible show wpAny _ _ (call (Value.builtin "len") [Value.ref _]) _ _ _); k_dflt (refine' len_L ?N ?m ?z ?_; (case N => k_asm); (case m => k_mem); (case z => first | exact n_le (by with_reducible assumption) rfl | (first | lia | omega) | (simp only [strValues, List.length_map, List.length_append, List.length_cons, List.length_nil]; (first | lia | omega)))); intro t'
  k_with "sset" => first | assumption | exact sset_fresh _
  k_with "getMethod ref" => k_here; (with_reducible show wpAny _ _ (getMethod (Value.ref _) (PySem.Str.ofString "_iter_namespaces") _) _ _ _); k_dflt (refine' method_shadow ?k1 ?k2 ?k3 ?k4 ?k5 ?k6 ?k7 ?k8 ?k9 ?k10 ?k11 ?_; (case k1 => k_asm); (case k2 => k_asm); (case k3 => k_inst); (case k4 => k_is); (case k5 => k_is); (case k6 => k_is); (case k7 => k_is); (case k8 => k_is); (case k9 => k_is); (case k10 => k_get); (case k11 => k_handed); k_whole)
  k_with "getMethod ref" => (with_reducible show wpAny _ _ (getMethod (Value.ref _) (PySem.Str.ofString "_write") _) _ _ _); walk_at "last getMethod ref"
  k_with "getMethod ref" => k_here; (with_reducible show wpAny _ _ (getMethod (Value.ref _) (PySem.Str.ofString "add") _) _ _ _); k_dflt (refine' sset_method ?N ?m ?o ?b ?_; (case N => k_asm); (case m => k_mem); (case o => walk_at "sset"); (case b => decide))
  k_with "call builtin:set.add" => k_here; (with_reducible show wpAny _ _ (call (Value.builtin _) [Value.ref _, Value.str _ _]) _ _ _); k_dflt (refine' sset_add ?F ?N ?U ?o ?b ?_; (case F => k_asm); (case N => k_asm); (case U => k_updF); (case o => walk_at "sset"); (case b => decide)); intro h' so' F' N' hS'; (try dsimp only at N')
  k_with "compareOp NotIn str ref" => k_here; (with_reducible show wpAny _ _ (compareOp _ (Value.str _ _) (Value.ref _)) _ _ _); k_dflt (refine' sset_notin ?N ?m ?o ?b ?_; (case N => k_asm); (case m => k_mem); (case o => walk_at "sset"); (case b => first | decide | (split <;> decide)))
  k_with "compareOp In str ref" => k_here; (with_reducible show wpAny _ _ (compareOp _ (Value.str _ _) (Value.ref _)) _ _ _); k_dflt (refine' sset_in ?N ?m ?o ?b ?_; (case N => k_asm); (case m => k_mem); (case o => walk_at "sset"); (case b => first | decide | (split <;> decide)))
  intros
  trivial
theorem text_spec : ∀ {w : World} {p : Program} {loose : List Str} {mean : ExcName → Option Value} {mg mb : Str → Option Value} {A : Around} {env : Env} {outer : List Env} {base h₀ : Heap} {L : Addr} {m : Str → Option Value} {s : Shared} {Q : Value → Shared → Prop} {news : List (Addr × Obj)} {x : Str} {t : Tok}
    (_ : CxA 3 w p loose mean mg mb A env outer base h₀ L) (_ : Fr h₀ L s.heap m)
    (_ : News h₀ L s.heap news)
    (_ : 0 < s.toks)
    (_ : x.length ≤ 8)
    (_ : ∀ t' h' tk', 0 < tk' → Fr h₀ L h' m → News h₀ L h' news → Q (.str (escT x) t') { s with heap := h', toks := tk' }),
    wpAny (model PySem.Challenge.rw_nb0300_01.row.prog w) A (call (.ref 194) [.str x t]) Q Nay s := by
  intro w p loose mean mg mb A env outer base h₀ L m s Q news x t c F N ht hx hret
  have hx8 : x.length ≤ 8 := hx
  refine wpAny_with_toks (n := 1) ht (ok_any ?_)
  have X := c.X
  k_dflt (refine' enterAC (ps := [(Str.ofString "text", .str x t)]) ?c ?F ?N ?ho ?hcd ?hb ?hkd ?hnd ?hps ?_ ?c2 ?c3 ?c4; (case c => assumption); (case F => k_asm); (case N => k_asm); (case ho => k_is); (case hcd => k_is); (case hb => first | exact BindsTo.of_eq rfl | exact binds_K (by k_in) rfl (by k_is) rfl rfl rfl); (case hkd => exact rfl); (case hnd => decide +kernel); (case hps => (intro _; exact rfl)); (case c2 => exact rfl); (case c3 => exact rfl); (case c4 => exact rfl); k_whole)
  intro A1 g1 L1 h1' tk0 cells c1 X1 FG1 F1 N1 Y1 lN1
  have T1 := c1.T
  k_cells Y1
  (try simp only [List.cons_append, List.nil_append] at N1)
  have hn1 : Nd [L1 + 1] news := nd_new nd_nil rfl fun p hp => Nat.lt_succ_of_lt (lN1 p hp)
  walk_at "goL"
  k_dflt (refine' comp_str (x := x) (f := fun c => ⟨(escC c).toArray⟩) ?hh ?F ?N ?cl ?ce ?kd ?nm ?hx ?sz ?hi ?helt ?_ ?hs)
  case hh => exact c1.hh
  case F => k_asm
  case N => k_asm
  case cl => with_unfolding_all rfl
  case ce => decide
  case kd => exact rfl
  case nm => decide
  case hx => exact rfl
  case sz => exact Nat.le_trans hx8 (Nat.le_of_ble_eq_true rfl)
  case hs => (intro _; exact rfl)
  case hi =>
    intro Q' hQ'
    walk_at "go"
    exact hQ'
  case helt =>
    intro C c u s3 m3 hc F3 hm3 N3
    replace F3 := fr_pin F3 hm3
    walk_at "goG"
    all_goals try (
      (have hd9 := ‹Obj.IsDictOf _ _ _›)
      refine kdg_get2 N3 (.head _) hd9 (by assumption) (strKind_is _ _ _ _) _ rfl ?_
      refine ⟨text_get _ _ _ _ _ c, _, rfl⟩)
    all_goals first | exact Str.ofString "" | exact Value.none | exact [] | exact (0 : Nat)
  intro D l n h5 tk5 hl F5 N5
  walk_at "goG"
  refine join_L0 N5 (.head _) (by rw [hl]; exact esc_each escC_le hx8) ?_
  intro t' k'
  walk_at "go"
  rw [hl, join_map]
  show Q (.str (escT x) t' ) _
  exact hret _ _ _ (by assumption) kF (News.sub (l := _ :: news) (News.sub (l := _ :: _ :: _ :: news) kN fun p hp => .tail _ (.tail _ hp)) fun p hp => .tail _ hp)

theorem value_spec : ∀ {w : World} {p : Program} {loose : List Str} {mean : ExcName → Option Value} {mg mb : Str → Option Value} {A : Around} {env : Env} {outer : List Env} {base h₀ : Heap} {L : Addr} {m : Str → Option Value} {s : Shared} {Q : Value → Shared → Prop} {news : List (Addr × Obj)} {x : Str} {t : Tok}
    (_ : CxA 3 w p loose mean mg mb A env outer base h₀ L) (_ : Fr h₀ L s.heap m)
    (_ : News h₀ L s.heap news)
    (_ : 0 < s.toks)
    (_ : x ∈ values8)
    (_ : ∀ t' h' tk', 0 < tk' → Fr h₀ L h' m → News h₀ L h' news → Q (.str (escA x) t') { s with heap := h', toks := tk' }),
    wpAny (model PySem.Challenge.rw_nb0300_01.row.prog w) A (call (.ref 199) [.str x t]) Q Nay s := by
  intro w p loose mean mg mb A env outer base h₀ L m s Q news x t c F N ht hx hret
  have hx8 : x.length ≤ 8 := val_le8 hx
  refine wpAny_with_toks (n := 1) ht (ok_any ?_)
  have X := c.X
  k_dflt (refine' enterAC (ps := [(Str.ofString "text", .str x t)]) ?c ?F ?N ?ho ?hcd ?hb ?hkd ?hnd ?hps ?_ ?c2 ?c3 ?c4; (case c => assumption); (case F => k_asm); (case N => k_asm); (case ho => k_is); (case hcd => k_is); (case hb => first | exact BindsTo.of_eq rfl | exact binds_K (by k_in) rfl (by k_is) rfl rfl rfl); (case hkd => exact rfl); (case hnd => decide +kernel); (case hps => (intro _; exact rfl)); (case c2 => exact rfl); (case c3 => exact rfl); (case c4 => exact rfl); k_whole)
  intro A1 g1 L1 h1' tk0 cells c1 X1 FG1 F1 N1 Y1 lN1
  have T1 := c1.T
  k_cells Y1
  (try simp only [List.cons_append, List.nil_append] at N1)
  have hn1 : Nd [L1 + 1] news := nd_new nd_nil rfl fun p hp => Nat.lt_succ_of_lt (lN1 p hp)
  walk_at "goL"
  k_dflt (refine' comp_str (x := x) (f := fun c => ⟨(escV4 c).toArray⟩) ?hh ?F ?N ?cl ?ce ?kd ?nm ?hx ?sz ?hi ?helt ?_ ?hs)
  case hh => exact c1.hh
  case F => k_asm
  case N => k_asm
  case cl => with_unfolding_all rfl
  case ce => decide
  case kd => exact rfl
  case nm => decide
  case hx => exact rfl
  case sz => exact Nat.le_trans hx8 (Nat.le_of_ble_eq_true rfl)
  case hs => (intro _; exact rfl)
  case hi =>
    intro Q' hQ'
    walk_at "go"
    exact hQ'
  case helt =>
    intro C c u s3 m3 hc F3 hm3 N3
    replace F3 := fr_pin F3 hm3
    walk_at "goG"
    all_goals try (
      (have hd9 := ‹Obj.IsDictOf _ _ _›)
      refine kdg_get2 N3 (.head _) hd9 (by assumption) (strKind_is _ _ _ _) _ rfl ?_
      refine ⟨val_get _ _ _ _ _ c, _, rfl⟩)
    all_goals first | exact Str.ofString "" | exact Value.none | exact [] | exact (0 : Nat)
  intro D l n h5 tk5 hl F5 N5
  walk_at "goG"
  refine join_L0 N5 (.head _) (by rw [hl]; exact esc_each escV4_le hx8) ?_
  intro t' k'
  walk_at "go"
  rw [hl, join_map]
  rw [val_eq hx]
  exact hret _ _ _ (by assumption) kF (News.sub (l := _ :: news) (News.sub (l := _ :: _ :: _ :: news) kN fun p hp => .tail _ (.tail _ hp)) fun p hp => .tail _ hp)
end
section
open PySem PySem.W PyProof.Rows PySem.Calls
theorem sorted_pairs {w : World} {A : Around} {h₀ : Heap} {L : Addr} {m : Str → Option Value} {s : Shared} {Q : Value → Shared → Prop} {pl n2 : Nat} {pv : List Value} {ps : List (Str × Str)} {news : List (Addr × Obj)} (hh : A.handled = none) (hu : A.in1.in1.units < cLine)
    (F : Fr h₀ L s.heap m) (N : News h₀ L s.heap news) (hpl : (pl, W.listOf (List.toArray pv) n2) ∈ news) (hp : PairsAt news pv ps) (hok : PairsOk ps)
    (hret : ∀ (D : Nat) pv' n h' tk', PairsAt news pv' (inOrder ps) → Fr h₀ L h' m → News h₀ L h' ((D, W.listOf (List.toArray pv') n) :: news) → (∀ q ∈ news, @LT.lt Nat _ q.1 D) → Q (.ref D) { s with heap := h', toks := tk' }) :
    wpAny (model PySem.Challenge.rw_nb0300_01.row.prog w) A (call (.builtin "sorted") [.ref pl]) Q Nay s := by
  rcases hok with rfl | ⟨v1, hv1, rfl⟩ | ⟨v1, hv1, u1, hu1, rfl⟩
  · cases pv with
    | cons _ _ => exact hp.elim
    | nil =>
      refine sorted_N F N (News.isList N hpl) .nil (by decide) fun h' vs' ns' e F' N' hI hP _ => ?_
      have e0 : ns' = [] := List.Perm.eq_nil hP
      subst e0
      cases hI
      exact hret _ [] e h' _ trivial F' N' fun q hq => Nat.lt_succ_of_lt (Heap.lt_size (N q hq).1)
  · cases pv with
    | nil => exact hp.elim
    | cons p1 pv => cases pv with
      | cons _ _ => exact hp.2.elim
      | nil => exact sorted_one F N (News.isList N hpl) fun D n' h' F' N' hl => hret D [p1] n' h' _ hp F' N' hl
  · cases pv with
    | nil => exact hp.elim
    | cons p1 pv => cases pv with
      | nil => exact hp.2.elim
      | cons p2 pv => cases pv with
        | cons _ _ => exact hp.2.2.elim
        | nil =>
          have hp0 := hp
          obtain ⟨⟨a1, t1, t2, n5, rfl, hm1⟩, ⟨a2, t3, t4, n6, rfl, hm2⟩, _⟩ := hp
          have N1 := news_cons (N _ hpl) (news_cons (N _ hm1) (news_cons (N _ hm2) N))
          clear N
          dsimp only at N1
          refine kat_sorted F N1 (News.isList N1 (.head _)) (Nat.le_of_ble_eq_true rfl) (Nat.le_of_ble_eq_true rfl) ?_
          intro D' e' h' F' N' l1

          kat_kinds
          walk_at "go"
          k_dflt (refine kat_lt (News.get N' (.tail _ (.tail _ (.tail _ (.head _))))) rfl (News.get N' (.tail _ (.tail _ (.head _)))) rfl ?_)
          kat_pair
          refine kat_cons ?_
          refine wpAny_eqBool_str ?_
          rw [show decide (S "k" = S "m") = false by decide]
          refine kat_no ?_
          first | (kat_flag; refine oneLt_str ?_) | refine oneLt_str ?_ | skip
          walk_at "go"
          refine KasFin.intro F' N' (UpdF.head fun p hp => Nat.ne_of_lt (l1 p hp)) ?_
          intro h3 c3 F3 N3
          dsimp only at N3
          exact hret D' [.ref a2, .ref a1] c3 h3 _ ⟨hp0.2.1, hp0.1, trivial⟩ F3 (News.sub N3 fun p hp => (List.mem_cons.mp hp).elim (fun e => e ▸ .head _) fun hp => .tail _ (.tail _ (.tail _ (.tail _ hp)))) fun q hq => l1 q (.tail _ (.tail _ (.tail _ hq)))
end
section
open PySem PySem.W PyProof.Rows PySem.Calls
theorem due_small800 {b : Bool} {calls : List Cl} {i : Nat} {c : Cl} (hok : ∀ c ∈ calls, ClOk c) (hz : calls.length ≤ 20) (hci : calls[i]? = some c) : (due b (calls.take i)).whole.length ≤ 800 ∧ (due b (calls.take i)).left.length ≤ 800 ∧ (due b (calls.take i)).row.length ≤ 800 ∧ (due b (calls.take i)).ig ≤ 20 := by
  have hi9 : i < 20 := by
    have := (List.getElem?_eq_some_iff.mp hci).1
    (first | lia | omega)
  obtain ⟨a, b, c, d⟩ := due_take_small (cm := b) hok i
  exact ⟨by (first | lia | omega), by (first | lia | omega), by (first | lia | omega), by (first | lia | omega)⟩
theorem add_P {prog : Program} {w : World} {A : Around} {E : Value → Shared → Prop} {s : Shared} {x y : Str} {t u : Tok} {n k : Nat} {Q : Value → Shared → Prop} (h0 : 0 < s.toks) (hx : x.length ≤ n) (hy : y.length ≤ k) (hz : n + k ≤ 16777216)
    (h : ∀ t' tk, 0 < tk → (x ++ y).length ≤ n + k → Q (.str (x ++ y) t') { s with toks := tk }) : wpAny (model prog w) A (binaryOp .Add (.str x t) (.str y u)) Q E s :=
  wpAny_with_toks (n := 1) h0 (add_S hx hy hz fun t' tk hl h1 => h t' tk h1 hl)

theorem shown_q {t : Str} (h : t ∈ texts10) : shownOf t = if (Txt.item t 0 == Str.ofString "\"") = true then S "" else escT t := by
  rcases txt_cat h with ⟨a, _, _, b, _⟩ | ⟨a, _, b, _⟩ | ⟨a, _, _, b, _⟩ | ⟨a, _, _, b, _⟩ <;> simp [a, b]
theorem row_q {t : Str} : rowOf t = if (t == Str.ofString "(") = true then t else if (t == Str.ofString ")") = true then t else S "" := by
  unfold rowOf
  by_cases h1 : t = S "("
  · simp [h1]
  · by_cases h2 : t = S ")"
    · simp [h2]
    · simp [h1, h2]
theorem due_ign {d : Due} {b : Bool} {t : Str} {ps : List (Str × Str)} (h : t = S "x" ∨ 0 < d.ig) : d.step b (.start t ps) = { d with ig := d.ig + 1 } := by simp [Due.step, h]
theorem due_start {d : Due} {b : Bool} {t : Str} {ps : List (Str × Str)} (h1 : t ≠ S "x") (h2 : d.ig = 0) : d.step b (.start t ps) = { d with whole := d.whole ++ S "<" ++ t ++ cat ((inOrder ps).map attrW) ++ S ">", left := d.left ++ S "<" ++ t ++ cat ((inOrder ps).map attrL) ++ S ">" } := by simp [Due.step, h1, h2]
theorem due_fin1 {d : Due} {b : Bool} {t : Str} (h : 0 < d.ig) : d.step b (.fin t) = { d with ig := d.ig - 1 } := by simp [Due.step, h]
theorem due_fin0 {d : Due} {b : Bool} {t : Str} (h : d.ig = 0) : d.step b (.fin t) = { d with whole := d.whole ++ S "</" ++ t ++ S ">", left := d.left ++ S "</" ++ t ++ S ">" } := by simp [Due.step, h]
theorem due_com {d : Due} {b : Bool} {t : Str} (h : d.ig = 0) (hb : b = true) : d.step b (.comment t) = { d with whole := d.whole ++ S "<!--" ++ escT t ++ S "-->", left := d.left ++ S "<!--" ++ shownOf t ++ S "-->", row := d.row ++ rowOf t } := by simp [Due.step, h, hb]
theorem due_com_no {d : Due} {b : Bool} {t : Str} (h : d.ig ≠ 0 ∨ b = false) : d.step b (.comment t) = d := by
  simp only [Due.step]
  rw [if_neg (fun h2 => h.elim (fun h3 => h3 h2.1) fun h3 => by rw [h3] at h2; exact Bool.noConfusion h2.2)]
theorem due_dat {d : Due} {b : Bool} {t : Str} (h : d.ig = 0) : d.step b (.data t) = { d with whole := d.whole ++ escT t, left := d.left ++ shownOf t, row := d.row ++ rowOf t } := by simp [Due.step, h]
theorem due_dat_no {d : Due} {b : Bool} {t : Str} (h : d.ig ≠ 0) : d.step b (.data t) = d := by simp [Due.step, h]
theorem at_w {W0 : Str} {ps : List (Str × Str)} {j : Nat} {qk qv : Str} (h : (inOrder ps)[j]? = some (qk, qv)) : W0 ++ cat (((inOrder ps).take j).map attrW) ++ Str.ofString " " ++ qk ++ Str.ofString "=\"" ++ escA qv ++ Str.ofString "\"" = W0 ++ cat (((inOrder ps).take (j + 1)).map attrW) := by
  rw [take_map_snoc attrW h, cat_snoc]
  simp only [attrW, str_assoc]
theorem at_l {L0 : Str} {ps : List (Str × Str)} {j : Nat} {qk qv : Str} (h : (inOrder ps)[j]? = some (qk, qv)) : L0 ++ cat (((inOrder ps).take j).map attrL) ++ Str.ofString " " ++ qk ++ Str.ofString "=" = L0 ++ cat (((inOrder ps).take (j + 1)).map attrL) := by
  rw [take_map_snoc attrL h, cat_snoc]
  simp only [attrL, str_assoc]
theorem at_len {w l tg : Str} {ps : List (Str × Str)} {j : Nat} (h1 : tg.length ≤ 1) (h2 : w.length ≤ 800) (h3 : l.length ≤ 800) (h : PairsOk ps) (hj : j ≤ 2) : (w ++ S "<" ++ tg ++ cat (((inOrder ps).take j).map attrW)).length ≤ 900 ∧ (l ++ S "<" ++ tg ++ cat (((inOrder ps).take j).map attrL)).length ≤ 900 := by
  obtain ⟨al1, al2⟩ := attrs_len h j hj
  have a1 : (S "<").length = 1 := by decide
  simp only [str_len_app]
  (first | lia | omega)
theorem at_len2 {w l tg : Str} {ps : List (Str × Str)} (h1 : tg.length ≤ 1) (h2 : w.length ≤ 800) (h3 : l.length ≤ 800) (h : PairsOk ps) : (w ++ S "<" ++ tg ++ cat ((inOrder ps).map attrW)).length ≤ 900 ∧ (l ++ S "<" ++ tg ++ cat ((inOrder ps).map attrL)).length ≤ 900 := by
  obtain ⟨al1, al2⟩ := pairs_len h
  have a1 : (S "<").length = 1 := by decide
  simp only [str_len_app]
  (first | lia | omega)
noncomputable def DueN (b : Bool) (d : Due) (m : Str → Option Value) : Prop := ∃ t1 t2 t3 t4, Pins m [(Str.ofString "comments", .bool b), (Str.ofString "whole", .str d.whole t1), (Str.ofString "left", .str d.left t2), (Str.ofString "row", .str d.row t3), (Str.ofString "within", .int (d.ig : Int) t4)]
noncomputable def DueJ (b : Bool) (calls : List Cl) (news : List (Addr × Obj)) (i : Nat) (m : Str → Option Value) (news₁ : List (Addr × Obj)) (tk : Nat) : Prop := 0 < tk ∧ DueN b (due b (calls.take i)) m ∧ news₁ = news
noncomputable def AtJ (W0 L0 : Str) (ps : List (Str × Str)) (qs : List (Str × Value)) (nw : List (Addr × Obj)) (j : Nat) (m : Str → Option Value) (news₁ : List (Addr × Obj)) (tk : Nat) : Prop :=
  ∃ t1 t2, 0 < tk ∧ Pins m ((Str.ofString "whole", .str (W0 ++ cat (((inOrder ps).take j).map attrW)) t1) :: (Str.ofString "left", .str (L0 ++ cat (((inOrder ps).take j).map attrL)) t2) :: qs) ∧ news₁ = nw
theorem DueJ.elim {b : Bool} {calls : List Cl} {news : List (Addr × Obj)} {i : Nat} {m : Str → Option Value} {news₁ : List (Addr × Obj)} {tk : Nat} {P : Prop} (h : DueJ b calls news i m news₁ tk) (k : 0 < tk → ∀ d t1 t2 t3 t4, due b (calls.take i) = d → Pins m [(Str.ofString "comments", .bool b), (Str.ofString "whole", .str d.whole t1), (Str.ofString "left", .str d.left t2), (Str.ofString "row", .str d.row t3), (Str.ofString "within", .int (d.ig : Int) t4)] → news₁ = news → P) : P :=
  let ⟨h1, ⟨t1, t2, t3, t4, hp⟩, h2⟩ := h
  k h1 _ t1 t2 t3 t4 rfl hp h2
theorem due_call {news : List (Addr × Obj)} {vals : List Value} {calls : List Cl} {i : Nat} {v : Value} {P : Prop} (hc : CallsAt news vals calls) (hv : vals[i]? = some v)
    (k : ∀ c a9 pl pv tk9 tt n9 n8, calls[i]? = some c → v = .ref a9 → (a9, ({ cls := .type "tuple", data := .seq #[.str c.kind tk9, .str c.text tt, .ref pl] n9 } : Obj)) ∈ news → (pl, W.listOf (List.toArray pv) n8) ∈ news → PairsAt news pv c.pairs → P) : P := by
  obtain ⟨c, hci, a9, pl, pv, tk9, tt, n9, n8, h⟩ := hc.at_ i v hv
  exact k c a9 pl pv tk9 tt n9 n8 hci h.v_is h.tup h.pl_is h.prs
theorem DueJ.mk {b : Bool} {calls : List Cl} {news : List (Addr × Obj)} {i tk : Nat} {m : Str → Option Value} {c : Cl} {d d' : Due} (htk : 0 < tk) (hci : calls[i]? = some c) (hd : due b (calls.take i) = d) (hs : d.step b c = d') (h : DueN b d' m) : DueJ b calls news (i + 1) m news tk := ⟨htk, by rw [due_take hci, hd, hs]; exact h, rfl⟩
theorem AtJ.mk {W0 L0 W L9 : Str} {ps : List (Str × Str)} {qs : List (Str × Value)} {nw : List (Addr × Obj)} {j tk : Nat} {m : Str → Option Value} {qk qv : Str} {t1 t2 : Tok} (htk : 0 < tk) (hq : (inOrder ps)[j]? = some (qk, qv)) (hW : W0 ++ cat (((inOrder ps).take j).map attrW) = W) (hL : L0 ++ cat (((inOrder ps).take j).map attrL) = L9)
    (h : Pins m ((Str.ofString "whole", .str (W ++ Str.ofString " " ++ qk ++ Str.ofString "=\"" ++ escA qv ++ Str.ofString "\"") t1) :: (Str.ofString "left", .str (L9 ++ Str.ofString " " ++ qk ++ Str.ofString "=") t2) :: qs)) : AtJ W0 L0 ps qs nw (j + 1) m nw tk := by
  subst hW; subst hL
  refine ⟨t1, t2, htk, ?_, rfl⟩
  rw [← at_w hq, ← at_l hq]
  exact h
noncomputable def SetN (g : Heap) (L : Addr) (m : Str → Option Value) (ps : List (Str × Value)) (x v : Str) (nw : List (Addr × Obj)) (gs : Array GenState) (d : Drawn) (os : OsState) (s' : Shared) : Prop := ∃ t h' tk', s' = ⟨h', gs, d, tk', os⟩ ∧ 0 < tk' ∧ Fr g L h' (pinned m ((x, .str v t) :: ps)) ∧ News g L h' nw
theorem SetN.mk {g : Heap} {L : Addr} {m : Str → Option Value} {ps : List (Str × Value)} {x v : Str} {nw : List (Addr × Obj)} {gs : Array GenState} {d : Drawn} {os : OsState} {t : Tok} {h' : Heap} {tk' : Nat} (hk : 0 < tk') (F : Fr g L h' (pinned m ((x, .str v t) :: ps))) (N : News g L h' nw) : SetN g L m ps x v nw gs d os ⟨h', gs, d, tk', os⟩ := ⟨t, h', tk', rfl, hk, F, N⟩

theorem due_spec : ∀ {w : World} {p : Program} {loose : List Str} {mean : ExcName → Option Value} {mg mb : Str → Option Value} {A : Around} {env : Env} {outer : List Env} {base h₀ : Heap} {L : Addr} {m : Str → Option Value} {s : Shared} {Q : Value → Shared → Prop} {lc : Nat} {nc : Nat} {vals : List Value} {calls : List Cl} {b : Bool} {news : List (Addr × Obj)}
    (_ : CxA 5 w p loose mean mg mb A env outer base h₀ L) (_ : Fr h₀ L s.heap m)
    (_ : News h₀ L s.heap news)
    (_ : (lc, W.listOf (List.toArray vals) nc) ∈ news)
    (_ : CallsAt news vals calls)
    (_ : ∀ c ∈ calls, ClOk c)
    (_ : calls.length ≤ 20)
    (_ : ∀ (D : Nat) t1 t2 t3 n h' tk', 0 < tk' → Fr h₀ L h' m → News h₀ L h' ((D, ({ cls := .type "tuple", data := .seq #[.str (due b calls).whole t1, .str (due b calls).left t2, .str (due b calls).row t3] n } : Obj)) :: news) → (∀ q ∈ news, q.1 ≠ D) → Q (.ref D) { s with heap := h', toks := tk' }),
    wpAny (model PySem.Challenge.rw_nb0300_01.row.prog w) A (call (.ref 234) [.ref lc, .bool b]) Q Nay s := by
  intro w p loose mean mg mb A env outer base h₀ L m s Q lc nc vals calls b news c F N hl hc hok hz hret
  have X := c.X
  k_dflt (refine' enterA (ps := [(Str.ofString "comments", .bool b), (Str.ofString "calls", .ref lc)]) ?c ?F ?N ?ho ?hcd ?hb ?hps ?h0 ?hloc ?_ ?c2 ?c3 ?c4 ?c5; (case c => assumption); (case F => k_asm); (case N => k_asm); (case ho => k_is); (case hcd => k_is); (case hb => first | exact BindsTo.of_eq rfl | exact binds_K (by k_in) rfl (by k_is) rfl rfl rfl); (case hps => exact rfl); (case h0 => exact Nat.le_of_ble_eq_true rfl); (case hloc => exact locs rfl); (case c2 => exact rfl); (case c3 => exact rfl); (case c4 => exact rfl); (case c5 => decide); k_whole)
  intro A1 g1 L1 h1' tk0 htk0 c1 X1 FG1 F1 N1
  have T1 := c1.T
  have hn := @nd_nil news
  (k_with "call ref" => (with_reducible show wpAny _ _ (call (Value.ref 194) [Value.str _ _]) _ _ _); k_dflt (refine' text_spec ?c ?F ?N ?t ?x ?_; (case F => k_asm); (case N => k_asm); (case c => walk_at "cx"); (case t => walk_at "tpos"); (case x => assumption)); intro t' h' tk' htk' F' N')
  (k_with "call ref" => (with_reducible show wpAny _ _ (call (Value.ref 199) [Value.str _ _]) _ _ _); k_dflt (refine' value_spec ?c ?F ?N ?t ?x ?_; (case F => k_asm); (case N => k_asm); (case c => walk_at "cx"); (case t => walk_at "tpos"); (case x => assumption)); intro t' h' tk' htk' F' N')
  (k_with "binaryOp Add str str" => (with_reducible show wpAny _ _ (binaryOp Operator.Add (Value.str _ _) (Value.str _ _)) _ _ _); (refine' add_P ?kxt ?kxa ?kxb ?kxc ?_; (case kxt => walk_at "tpos"); (case kxa => first | (with_reducible assumption) | exact Nat.le_refl _); (case kxb => first | (with_reducible assumption) | exact Nat.le_refl _); (case kxc => exact Nat.le_of_ble_eq_true rfl)); intro t' tk' htk' hl')
  (k_with "goF" => repeat' (first
    | (k_unfold; (try dsimp only))
    | ((fail_if_success (with_reducible show wpAny _ _ (PySem.exec (PySem.Stmt.For _ _ _ _ _) _) _ _ _)); (fail_if_success (with_reducible show wpAny _ _ (PySem.execs (PySem.Stmt.If (PySem.Expr.Compare (PySem.Expr.Subscript _ _ _) _ _ _) _ _ _ :: _) _) _ _ _)); first | walk1 | (dsimp only; walk1))
    | fail "no step"))
  (k_with "goZ" => repeat' (first
    | (k_unfold; (try dsimp only))
    | ((fail_if_success (with_reducible show wpAny _ _ (PySem.exec (PySem.Stmt.For _ _ _ _ _) _) _ _ _)); (fail_if_success (with_reducible show wpAny _ _ (PySem.execs (PySem.Stmt.If (PySem.Expr.BoolOp _ _ _) _ _ _ :: _) _) _ _ _)); first | walk1 | (dsimp only; walk1))
    | fail "no step"))
  walk_at "go"
  refine For_go ?_
  walk_at "go"
  refine for_list (vs := vals) (DueJ b calls news) c1.hh (by k_asm) (by k_asm) ?_ ?_ ?_ ?_
  · exact ⟨by walk_at "tpos", ⟨_, _, _, _, rfl, rfl, rfl, rfl, rfl, trivial⟩, rfl⟩
  · rintro i m₁ news₁ tk h ⟨_, _, rfl⟩ _ N₁
    exact News.isList N₁ hl
  · rintro i v m₁ news₁ h tk It oI hv hJ hoc hlt hne F₁ N₁
    generalize hR9 : TurnP _ _ _ _ _ _ _ = R9
    refine DueJ.elim hJ ?_
    intro htk d t1 t2 t3 t4 hd9 hp hnw
    clear hJ
    subst hnw
    refine due_call hc hv ?_
    intro c a9 pl pv tk9 tt n9 n8 hci hva htup hpl hprs
    subst hva
    have hs8 := due_small800 (b := b) hok hz hci
    rw [hd9] at hs8
    have sw := hs8.1
    have sl := hs8.2.1
    have sr := hs8.2.2.1
    have sg := hs8.2.2.2
    clear hs8
    have hco := hok c (List.mem_of_getElem? hci)
    have hnI := nd_newN hn rfl hne
    replace F₁ := fr_pinsP F₁ hp
    cases c with
    | start tg ps =>
      replace htup : ((a9, ({ cls := .type "tuple", data := .seq #[.str (Str.ofString "start") tk9, .str tg tt, .ref pl] n9 } : Obj)) : Addr × Obj) ∈ news₁ := htup
      have htl : tg.length ≤ 1 := Nat.le_of_eq (tag_len hco.1)
      have hpo : PairsOk ps := hco.2
      replace hprs : PairsAt news₁ pv ps := hprs
      by_cases hx : tg = S "x"
      · have hst := due_ign (d := d) (b := b) (ps := ps) (.inl hx)
        subst hx
        walk_at "goF"
        (subst hR9; (try dsimp only); exact TurnP.next (by k_asm) (by k_asm) hne (DueJ.mk (by walk_at "tpos") hci hd9 hst ⟨_, _, _, _, rfl, rfl, rfl, rfl, rfl, trivial⟩))
      · have hxq : (tg == Str.ofString "x") = false := beq_eq_false_iff_ne.mpr hx
        by_cases hg : 0 < d.ig
        · have hst := due_ign (b := b) (t := tg) (ps := ps) (.inr hg)
          walk_at "goF"
          (subst hR9; (try dsimp only); exact TurnP.next (by k_asm) (by k_asm) hne (DueJ.mk (by walk_at "tpos") hci hd9 hst ⟨_, _, _, _, rfl, rfl, rfl, rfl, rfl, trivial⟩))
        · have hg0 : d.ig = 0 := Nat.eq_zero_of_not_pos hg
          have e0 : ((d.ig : Nat) : Int) = 0 := by rw [hg0]; rfl
          have hst := due_start (b := b) (ps := ps) hx hg0
          rw [e0] at F₁
          walk_at "goF"
          refine For_go ?_
          walk_at "go"
          k_dflt (refine' wpAny_with_toks (n := 1) ?ht (ok_any (sorted_pairs ?hh ?hu (by k_asm) (by k_asm) (memT1 hpl) (hprs.mono fun p hp => .tail _ hp) hpo ?_)); (case ht => walk_at "tpos"); (case hh => exact c1.hh); (case hu => exact c1.unit (Nat.le_of_ble_eq_true rfl)))
          intro D6 pv6 n6 h6 tk6 hp6 F6 N6 l6 htk6
          clear N' F'
          obtain ⟨hio, hil⟩ := inOrder_ok hpo
          have hpl6 := PairsAt.len hp6
          refine for_list (vs := pv6) (AtJ (d.whole ++ S "<" ++ tg) (d.left ++ S "<" ++ tg) ps [(Str.ofString "comments", .bool b), (Str.ofString "row", .str d.row t3), (Str.ofString "within", .int 0 t4)] ((D6, PySem.W.listOf (List.toArray pv6) n6) :: (It, oI) :: news₁)) c1.hh F6 N6 ?_ ?_ ?_ ?_
          · exact ⟨_, _, by walk_at "tpos", ⟨congrArg (fun z => some (Value.str z _)) (app_nil _).symm, congrArg (fun z => some (Value.str z _)) (app_nil _).symm, rfl, rfl, rfl, trivial⟩, rfl⟩
          · rintro j m₂ news₂ tk2 h2 ⟨_, _, _, _, rfl⟩ _ N₁
            exact News.isList N₁ (.head _)
          · rintro j v m₂ news₂ h2 tk2 It2 oI2 hv2 ⟨u1, u2, htk2, hp2, rfl⟩ hoc2 hlt2 hne2 F7 N7
            obtain ⟨⟨qk, qv⟩, hq, a7, u7, u8, n7, rfl, hm7⟩ := PairsAt.get hp6 hv2
            obtain ⟨hqk, hqv⟩ := hio _ (List.mem_of_getElem? hq)
            have hj2 : j ≤ 2 := by
              exact Nat.le_trans (Nat.le_of_lt (List.getElem?_eq_some_iff.mp hq).1) (inOrder_ok hpo).2
            obtain ⟨hWl, hLl⟩ := at_len htl sw sl hpo hj2
            have hev := escA8 hqv
            replace hqk : qk.length ≤ 1 := Nat.le_of_eq hqk
            dsimp only at hev hm7
            replace hqv : qv ∈ values8 := hqv
            clear hv2
            generalize hW9 : (d.whole ++ S "<" ++ tg) ++ cat (((inOrder ps).take j).map attrW) = W at *
            generalize hL9 : (d.left ++ S "<" ++ tg) ++ cat (((inOrder ps).take j).map attrL) = L9 at *
            replace F7 := fr_pinsP F7 hp2
            clear F6 N6
            walk_at "goF"
            (try dsimp only)
            exact TurnP.next (by k_asm) (by k_asm) hne2 (AtJ.mk (by walk_at "tpos") hq hW9 hL9 ⟨rfl, rfl, rfl, rfl, rfl, trivial⟩)
          · rintro m₂ news₂ h2 tk2 ⟨u1, u2, htk2, hp2, rfl⟩ F7 N7
            rw [hpl6, List.take_length] at hp2
            obtain ⟨hWl, hLl⟩ := at_len2 htl sw sl hpo
            generalize hW9 : (d.whole ++ S "<" ++ tg) ++ cat ((inOrder ps).map attrW) = W at *
            generalize hL9 : (d.left ++ S "<" ++ tg) ++ cat ((inOrder ps).map attrL) = L9 at *
            replace F7 := fr_pinsP F7 hp2
            clear F6 N6
            walk_at "goF"
            subst hR9
            (try dsimp only)
            exact TurnP.next (by k_asm) (News.sub (l := _ :: (It, oI) :: news₁) (by k_asm) fun p hp => .tail _ hp) hne (DueJ.mk (by walk_at "tpos") hci hd9 hst ⟨_, _, _, _, rfl, rfl, rfl, rfl, congrArg (fun z => some (Value.int z _)) e0.symm, trivial⟩)
    | fin tg =>
      replace htup : ((a9, ({ cls := .type "tuple", data := .seq #[.str (Str.ofString "end") tk9, .str tg tt, .ref pl] n9 } : Obj)) : Addr × Obj) ∈ news₁ := htup
      have htl : tg.length ≤ 1 := Nat.le_of_eq (tag_len hco)
      by_cases hg : 0 < d.ig
      · have hst := due_fin1 (b := b) (t := tg) hg
        have e5 : (d.ig : Int) - 1 = ((d.ig - 1 : Nat) : Int) := n_cast1 hg
        walk_at "goF"
        (subst hR9; (try dsimp only); exact TurnP.next (by k_asm) (by k_asm) hne (DueJ.mk (by walk_at "tpos") hci hd9 hst ⟨_, _, _, _, rfl, rfl, rfl, rfl, congrArg (fun z => some (Value.int z _)) e5, trivial⟩))
      · have hg0 : d.ig = 0 := Nat.eq_zero_of_not_pos hg
        have e0 : ((d.ig : Nat) : Int) = 0 := by rw [hg0]; rfl
        have hst := due_fin0 (b := b) (t := tg) hg0
        rw [e0] at F₁
        walk_at "goF"
        (subst hR9; (try dsimp only); exact TurnP.next (by k_asm) (by k_asm) hne (DueJ.mk (by walk_at "tpos") hci hd9 hst ⟨_, _, _, _, rfl, rfl, rfl, rfl, congrArg (fun z => some (Value.int z _)) e0.symm, trivial⟩))
    | comment tx =>
      replace htup : ((a9, ({ cls := .type "tuple", data := .seq #[.str (Str.ofString "comment") tk9, .str tx tt, .ref pl] n9 } : Obj)) : Addr × Obj) ∈ news₁ := htup
      obtain ⟨x1, x2, x3, x4, x5⟩ := escT10 hco
      have x6 : tx.length ≤ 8 := Nat.le_trans x4 (Nat.le_of_ble_eq_true rfl)
      by_cases hg : d.ig = 0
      · have e0 : ((d.ig : Nat) : Int) = 0 := by rw [hg]; rfl
        rw [e0] at F₁
        cases b with
        | false =>
          have hst := due_com_no (d := d) (b := false) (t := tx) (.inr rfl)
          walk_at "goF"
          (subst hR9; (try dsimp only); exact TurnP.next (by k_asm) (by k_asm) hne (DueJ.mk (by walk_at "tpos") hci hd9 hst ⟨_, _, _, _, rfl, rfl, rfl, rfl, congrArg (fun z => some (Value.int z _)) e0.symm, trivial⟩))
        | true =>
          have hst := due_com (b := true) (t := tx) hg rfl
          rw [row_q] at hst
          walk_at "goF"
          refine exec_join (SetN g1 L1 m₁ [(Str.ofString "pairs", .ref pl), (Str.ofString "text", .str tx tt), (Str.ofString "kind", .str (Str.ofString "comment") tk9), (Str.ofString "comments", .bool true), (Str.ofString "whole", .str d.whole t1), (Str.ofString "left", .str d.left t2), (Str.ofString "row", .str d.row t3), (Str.ofString "within", .int 0 t4)] (Str.ofString "shown") (shownOf tx) ((It, oI) :: news₁) s.gens s.drawn s.os) ?_ ?_
          · by_cases hq : (Txt.item tx 0 == Str.ofString "\"") = true
            · walk_at "go"
              refine NextP.mk ?_
              refine' SetN.mk ?k9 ?F9 ?N9
              case k9 => walk_at "tpos"
              case N9 => k_asm
              case F9 =>
                rw [shown_q hco, if_pos hq]
                exact fr_again (by k_asm)
            · replace hq : (Txt.item tx 0 == Str.ofString "\"") = false := by simpa using hq
              walk_at "go"
              refine NextP.mk ?_
              refine' SetN.mk ?k9 ?F9 ?N9
              case k9 => walk_at "tpos"
              case N9 => k_asm
              case F9 =>
                rw [shown_q hco, if_neg (by rw [hq]; exact Bool.false_ne_true)]
                k_asm
          · rintro _ ⟨t8, h8, tk8, rfl, htk8, F8, N8⟩
            clear F' N'
            walk_at "goZ"
            by_cases hr1 : (tx == Str.ofString "(") = true
            · rw [if_pos hr1] at hst
              walk_at "go"
              (subst hR9; (try dsimp only); exact TurnP.next (by k_asm) (by k_asm) hne (DueJ.mk (by walk_at "tpos") hci hd9 hst ⟨_, _, _, _, rfl, rfl, rfl, rfl, congrArg (fun z => some (Value.int z _)) e0.symm, trivial⟩))
            · rw [if_neg hr1] at hst
              replace hr1 : (tx == Str.ofString "(") = false := by simpa using hr1
              by_cases hr2 : (tx == Str.ofString ")") = true
              · rw [if_pos hr2] at hst
                walk_at "go"
                (subst hR9; (try dsimp only); exact TurnP.next (by k_asm) (by k_asm) hne (DueJ.mk (by walk_at "tpos") hci hd9 hst ⟨_, _, _, _, rfl, rfl, rfl, rfl, congrArg (fun z => some (Value.int z _)) e0.symm, trivial⟩))
              · rw [if_neg hr2, app_nil] at hst
                replace hr2 : (tx == Str.ofString ")") = false := by simpa using hr2
                walk_at "go"
                (subst hR9; (try dsimp only); exact TurnP.next (by k_asm) (by k_asm) hne (DueJ.mk (by walk_at "tpos") hci hd9 hst ⟨_, _, _, _, rfl, rfl, rfl, rfl, congrArg (fun z => some (Value.int z _)) e0.symm, trivial⟩))
      · have hst := due_com_no (b := b) (t := tx) (.inl hg)
        have e0 : ((d.ig : Nat) : Int) ≠ 0 := by (first | lia | omega)
        walk_at "goF"
        all_goals first | (exfalso; (first | lia | omega)) | (subst hR9; (try dsimp only); exact TurnP.next (by k_asm) (by k_asm) hne (DueJ.mk (by walk_at "tpos") hci hd9 hst ⟨_, _, _, _, rfl, rfl, rfl, rfl, rfl, trivial⟩))
    | data tx =>
      replace htup : ((a9, ({ cls := .type "tuple", data := .seq #[.str (Str.ofString "data") tk9, .str tx tt, .ref pl] n9 } : Obj)) : Addr × Obj) ∈ news₁ := htup
      obtain ⟨x1, x2, x3, x4, x5⟩ := escT10 hco
      have x6 : tx.length ≤ 8 := Nat.le_trans x4 (Nat.le_of_ble_eq_true rfl)
      by_cases hg : d.ig = 0
      · have e0 : ((d.ig : Nat) : Int) = 0 := by rw [hg]; rfl
        rw [e0] at F₁
        have hst := due_dat (b := b) (t := tx) hg
        rw [row_q] at hst
        · walk_at "goF"
          refine exec_join (SetN g1 L1 m₁ [(Str.ofString "pairs", .ref pl), (Str.ofString "text", .str tx tt), (Str.ofString "kind", .str (Str.ofString "data") tk9), (Str.ofString "comments", .bool b), (Str.ofString "whole", .str d.whole t1), (Str.ofString "left", .str d.left t2), (Str.ofString "row", .str d.row t3), (Str.ofString "within", .int 0 t4)] (Str.ofString "shown") (shownOf tx) ((It, oI) :: news₁) s.gens s.drawn s.os) ?_ ?_
          · by_cases hq : (Txt.item tx 0 == Str.ofString "\"") = true
            · walk_at "go"
              refine NextP.mk ?_
              refine' SetN.mk ?k9 ?F9 ?N9
              case k9 => walk_at "tpos"
              case N9 => k_asm
              case F9 =>
                rw [shown_q hco, if_pos hq]
                exact fr_again (by k_asm)
            · replace hq : (Txt.item tx 0 == Str.ofString "\"") = false := by simpa using hq
              walk_at "go"
              refine NextP.mk ?_
              refine' SetN.mk ?k9 ?F9 ?N9
              case k9 => walk_at "tpos"
              case N9 => k_asm
              case F9 =>
                rw [shown_q hco, if_neg (by rw [hq]; exact Bool.false_ne_true)]
                k_asm
          · rintro _ ⟨t8, h8, tk8, rfl, htk8, F8, N8⟩
            clear F' N'
            walk_at "goZ"
            by_cases hr1 : (tx == Str.ofString "(") = true
            · rw [if_pos hr1] at hst
              walk_at "go"
              (subst hR9; (try dsimp only); exact TurnP.next (by k_asm) (by k_asm) hne (DueJ.mk (by walk_at "tpos") hci hd9 hst ⟨_, _, _, _, rfl, rfl, rfl, rfl, congrArg (fun z => some (Value.int z _)) e0.symm, trivial⟩))
            · rw [if_neg hr1] at hst
              replace hr1 : (tx == Str.ofString "(") = false := by simpa using hr1
              by_cases hr2 : (tx == Str.ofString ")") = true
              · rw [if_pos hr2] at hst
                walk_at "go"
                (subst hR9; (try dsimp only); exact TurnP.next (by k_asm) (by k_asm) hne (DueJ.mk (by walk_at "tpos") hci hd9 hst ⟨_, _, _, _, rfl, rfl, rfl, rfl, congrArg (fun z => some (Value.int z _)) e0.symm, trivial⟩))
              · rw [if_neg hr2, app_nil] at hst
                replace hr2 : (tx == Str.ofString ")") = false := by simpa using hr2
                walk_at "go"
                (subst hR9; (try dsimp only); exact TurnP.next (by k_asm) (by k_asm) hne (DueJ.mk (by walk_at "tpos") hci hd9 hst ⟨_, _, _, _, rfl, rfl, rfl, rfl, congrArg (fun z => some (Value.int z _)) e0.symm, trivial⟩))

      · have hst := due_dat_no (b := b) (t := tx) hg
        have e0 : ((d.ig : Nat) : Int) ≠ 0 := by (first | lia | omega)
        walk_at "goF"
        all_goals first | (exfalso; (first | lia | omega)) | (subst hR9; (try dsimp only); exact TurnP.next (by k_asm) (by k_asm) hne (DueJ.mk (by walk_at "tpos") hci hd9 hst ⟨_, _, _, _, rfl, rfl, rfl, rfl, rfl, trivial⟩))
  · rintro m₁ news₁ h tk ⟨htk, ⟨t1, t2, t3, t4, hp⟩, rfl⟩ F₁ N₁
    replace F₁ := fr_pinsP F₁ hp
    rw [hc.len, List.take_length] at F₁
    walk_at "go"
    rename Nd _ _ => hq9
    exact hret _ _ _ _ _ _ _ (by walk_at "tpos") kF kN (nd_ne hq9 (.head _))
end
section
open PySem PySem.W PyProof.Rows PySem.Calls
section
variable {M : Model} {A : Around} {R : GenEnd} {Y : Protocol} {n : Nat} {s₀ : Shared} {c : Code} {fs : List Frame} {s : Shared} {env : Env}
  {K : Flow → Sem PySem.Fin} {H : Value → Sem PySem.Fin} {gd : Bool → Bool} {lv : List Value → List Value}
theorem seg_stmt {st : Stmt} (h : wpAny M (A.over c fs) (exec st env) (fun f s' => Seg M A R Y n s₀ c (K f) fs s') Nay s) :
    Seg M A R Y n s₀ c ((exec st env).wrap K H gd lv) fs s := seg_wrap (wpAny_mono h (fun _ _ x => x) fun _ _ x => x.elim)
theorem seg_If {test : PySem.Expr} {body orelse : List Stmt} {pos : Pos}
    (h : wpAny M (A.over c fs) (isTrue test env (eval test env)) (fun b s' => if b = true then Seg M A R Y n s₀ c ((execs body env).wrap K H gd lv) fs s' else Seg M A R Y n s₀ c ((execs orelse env).wrap K H gd lv) fs s') Nay s) :
    Seg M A R Y n s₀ c ((exec (.If test body orelse pos) env).wrap K H gd lv) fs s := by
  rw [exec_If]
  refine seg_at (p' := pos) (k := fun _ => ((isTrue test env (eval test env)) >>= fun b => if b then execs body env else execs orelse env).wrap K H gd lv) ?_
  rw [Sem.bind_eq_wrap', Sem.wrap_wrap]
  refine seg_wrap (wpAny_mono h (fun b s' hb => ?_) fun _ _ x => x.elim)
  cases b
  · rw [if_neg Bool.false_ne_true] at hb; exact hb
  · rw [if_pos rfl] at hb; exact hb
noncomputable def forRet (K : Flow → Sem PySem.Fin) (H : Value → Sem PySem.Fin) (gd : Bool → Bool) (lv : List Value → List Value) (env : Env) : Result → Sem PySem.Fin := fun r => ((match r with | .ok f => (.pure f : Sem Flow) | .error e => .raise e).onRaise fun (x : Value) => do
        if (← field x 1) == Value.none then unsupported "frame.own-activation:exception-without-traceback"
        setFlight x env.frame).wrap K H gd lv
theorem forRet_next : forRet K H gd lv env (.ok .next) = K .next := rfl
theorem seg_ind {M : Model} {A : Around} {R : GenEnd} {Y : Protocol} {c : Code} {fs : List Frame} (I : Nat → Nat → Shared → Shared → Prop)
    (step : ∀ k, (∀ k', k' < k → ∀ n s₀ s, I k' n s₀ s → Seg M A R Y n s₀ c (M.den c) fs s) → ∀ n s₀ s, I k n s₀ s → Seg M A R Y n s₀ c (M.den c) fs s) : ∀ {k n : Nat} {s₀ s : Shared}, I k n s₀ s → Seg M A R Y n s₀ c (M.den c) fs s := by
  intro k
  induction k using Nat.strongRecOn with
  | _ k ih => exact fun h => step k (fun k' hk n s₀ s hi => ih k' hk hi) _ _ _ h
theorem seg_For {target iter : PySem.Expr} {body orelse : List Stmt} {pos : Pos}
    (h : wpAny M (A.over c fs) (eval iter env) (fun x s₁ => wpAny M (A.over c fs) (pyIter x) (fun it s₂ => ∀ p, Seg M A R Y n s₀ (.forLoop target it body orelse env) (M.den (.forLoop target it body orelse env))
      (.ret (forRet K H gd lv env) none (gd false) (lv []) c p [] :: fs) s₂) Nay s₁) Nay s)
    (hs : ∀ x, foldedSetIterable iter env x = pure x := by intro _; rfl) :
    Seg M A R Y n s₀ c ((exec (.For target iter body orelse pos) env).wrap K H gd lv) fs s := by
  rw [exec_For]
  refine seg_at (p' := pos) (k := fun _ => ((eval iter env) >>= fun a => foldedSetIterable iter env a >>= fun x => standAt iter.pos >>= fun _ => holding [x] (pyIter x) >>= fun it => runOwn (.forLoop target it body orelse env) env).wrap K H gd lv) ?_
  rw [Sem.bind_eq_wrap', Sem.wrap_wrap]
  refine seg_wrap (wpAny_mono h (fun x s' hx => ?_) fun _ _ x => x.elim)
  rw [hs x]
  refine seg_at (p' := iter.pos) (k := fun _ => (holding [x] (pyIter x) >>= fun it => runOwn (.forLoop target it body orelse env) env).wrap K H gd lv) ?_
  rw [Sem.bind_eq_wrap', Sem.wrap_wrap]
  refine seg_wrap (wpAny_holding (wpAny_mono hx (fun it s₂ h₂ => ?_) fun _ _ x => x.elim))
  exact seg_call (M := M) h₂
end
section
variable {prog : Program} {w : World} {A : Around} {R : GenEnd} {Y : Protocol} {n : Nat} {s₀ : Shared} {fs : List Frame} {s : Shared} {env : Env}
noncomputable abbrev forK (target : PySem.Expr) (it : Value) (body orelse : List Stmt) (env : Env) : Flow → Sem PySem.Fin := fun f => match f with
  | .next | .cont => .pure (.again (.forLoop target it body orelse env))
  | .brk => .pure (.done .next)
  | .ret v => .pure (.done (.ret v))
noncomputable abbrev forH (env : Env) : Value → Sem PySem.Fin := fun e => (do noteFrame e env; theTreesLotGoes e : Sem Unit).wrap (fun _ => .raise e) .raise id id
theorem seg_forLoop {target : PySem.Expr} {it : Value} {body orelse : List Stmt}
    (h : wpAny (model prog w) (A.over (.forLoop target it body orelse env) fs) (pyNext it) (fun r s₁ => match r with
      | none => Seg (model prog w) A R Y n s₀ (.block orelse env) ((model prog w).den (.block orelse env)) fs s₁
      | some v => wpAny (model prog w) (A.over (.forLoop target it body orelse env) fs) (letOwnedTupleGo target it v) (fun _ s₁' =>
          wpAny (model prog w) (A.over (.forLoop target it body orelse env) fs) (assign target env v) (fun _ s₂ =>
            Seg (model prog w) A R Y n s₀ (.forLoop target it body orelse env) ((execs body env).wrap (forK target it body orelse env) (forH env) id id) fs s₂) Nay s₁') Nay s₁) Nay s) :
    Seg (model prog w) A R Y n s₀ (.forLoop target it body orelse env) ((model prog w).den (.forLoop target it body orelse env)) fs s := by
  show Seg _ A R Y n s₀ _ ((forTurn target it body orelse env).onRaise (fun x => do noteFrame x env; theTreesLotGoes x)) fs s
  unfold forTurn
  rw [Sem.onRaise_eq_wrap]
  refine seg_at (p' := target.pos) (k := fun _ => (((pyNext it).onRaise (fun _ => standAt { target.pos with line := 0 }) >>= fun r => match r with
    | none => again (.block orelse env)
    | some v => letOwnedTupleGo target it v >>= fun _ => assign target env v >>= fun _ => execs body env >>= fun f => match f with
      | .next | .cont => again (.forLoop target it body orelse env)
      | .brk => pure (.done .next)
      | .ret v => pure (.done (.ret v))) : Sem PySem.Fin).wrap .pure (fun e => (do noteFrame e env; theTreesLotGoes e : Sem Unit).bind fun _ => .raise e) id id) ?_
  rw [Sem.bind_eq_wrap', Sem.wrap_wrap]
  refine seg_wrap (wpAny_onRaise (wpAny_mono h (fun r s' hr => ?_) fun _ _ x => x.elim))
  cases r with
  | none =>
    refine seg_again ?_ hr
    rfl
  | some v =>
    show Seg _ A R Y n s₀ _ (Sem.wrap _ _ _ _ (letOwnedTupleGo target it v >>= _)) fs s'
    rw [Sem.bind_eq_wrap', Sem.wrap_wrap]
    refine seg_wrap (wpAny_mono hr (fun _ s₁ h₁ => ?_) fun _ _ x => x.elim)
    rw [Sem.bind_eq_wrap', Sem.wrap_wrap]
    refine seg_wrap (wpAny_mono h₁ (fun _ s₂ h₂ => ?_) fun _ _ x => x.elim)
    rw [Sem.bind_eq_wrap', Sem.wrap_wrap]
    rw [Sem.wrap_congr (execs body env) _ _ (K' := forK target it body orelse env) (H' := forH env)
        (fun f => by cases f <;> rfl)
        (fun e => by first | exact Sem.bind_eq_wrap _ _ | (show (do noteFrame e env; theTreesLotGoes e : Sem Unit).bind (fun _ => .raise e) = _; rw [Sem.bind_eq_wrap]))]
    exact h₂
theorem seg_block {k h g l c₁ p₁ kp} (hk : Seg (model prog w) A R Y n s₀ c₁ (k (.ok .next)) fs s) :
    Seg (model prog w) A R Y n s₀ (.block [] env) ((model prog w).den (.block [] env)) (.ret k h g l c₁ p₁ kp :: fs) s := seg_leaf (.ok .next) hk
end
end
section
open PySem PySem.W PyProof.Rows PySem.Calls
noncomputable abbrev pairT (p : Nat) (cs : List Nat) (tp ts : Tok) (nT : Nat) : Obj := { cls := .type "tuple", data := .seq #[.int (p : Int) tp, .str ⟨cs.toArray⟩ ts] nT }
noncomputable def Kpt (Lg G : Nat) (s₀ s : Shared) : Prop := (∃ h tk, s = { s₀ with heap := h, toks := tk }) ∧ ∀ (b : Nat) o, (b < Lg ∨ b = G) → s₀.heap.get? b = some o → s.heap.get? b = some o
noncomputable def GP (Lg G n : Nat) (s₀ s : Shared) : Prop := n = 0 ∧ Kpt Lg G s₀ s
noncomputable abbrev GR (Lg G : Nat) : GenEnd := fun n s₀ r s₁ => r = .ok (.ret .none) ∧ GP Lg G n s₀ s₁
noncomputable def GY (h₀ : Heap) (Lg G : Nat) (its : List (Nat × List Nat)) : Protocol := fun n s₀ v s' kap =>
  ∃ (p : Nat) (cs : List Nat) (T : Nat) (hid : List (Addr × Obj)) (tp ts : Tok) (nT : Nat), its[its.length - (n + 1)]? = some (p, cs) ∧ n + 1 ≤ its.length ∧ v = .ref T ∧ Kpt Lg G s₀ s' ∧ s'.heap.get? T = some (pairT p cs tp ts nT) ∧ Lg < T ∧ T ≠ G ∧
    (∀ q ∈ hid, s'.heap.get? q.1 = some q.2 ∧ @LE.le Nat _ Lg q.1 ∧ @Ne Nat q.1 G ∧ @Ne Nat q.1 T) ∧
    ∀ s'', (∀ b o, h₀.get? b = some o → s''.heap.get? b = some o) → (∃ o, s''.heap.get? G = some o) → (∀ q ∈ hid, s''.heap.get? q.1 = some q.2) → kap (.send .none) s''
noncomputable def GSt (prog : Program) (w : World) (A : Around) (h₀ : Heap) (Lg G : Nat) (its : List (Nat × List Nat)) (hid : List (Addr × Obj)) (k : Nat) (gs : GenState) : Prop :=
  ∀ s'', (∀ b o, h₀.get? b = some o → s''.heap.get? b = some o) → (∃ o, s''.heap.get? G = some o) → (∀ q ∈ hid, s''.heap.get? q.1 = some q.2) → gs.Goes (model prog w) A.in1 (GR Lg G) (GY h₀ Lg G its) (its.length - k) (.send .none) s''
section
variable {prog : Program} {w : World} {A : Around} {s : Shared} {env : Env} {h₀ : Heap}
noncomputable def TurnG (h₀ : Heap) (L : Addr) (s : Shared) (tl : List (Addr × Obj)) (J : (Str → Option Value) → List (Addr × Obj) → Prop) (Q : Flow → Shared → Prop) (f : Flow) (s₃ : Shared) : Prop := match f with
  | .ret v => Q (.ret v) s₃
  | .brk => Q .next s₃
  | _ => ∃ m' news' h' tk', s₃ = { s with heap := h', toks := tk' } ∧ Fr h₀ L h' m' ∧ News h₀ L h' (news' ++ tl) ∧ J m' news'
theorem owned_gen {M : Model} {A : Around} {E : Value → Shared → Prop} {target : PySem.Expr} {G g : Nat} {v : Value} {Q : Unit → Shared → Prop} (ho : s.heap.IsGen G g) (h : Q () s) :
    wpAny M A (letOwnedTupleGo target (.ref G) v) Q E s := by
  obtain ⟨o, nm, qn, ho, hc, hd, hs⟩ := ho
  have key : wpAny M A (do
      let (.ref r, .ref a) := (Value.ref G, v) | return
      let o ← load r
      match o.cls, o.data with
      | .type n, .fields vs =>
        if ["enumerate", "zip", "dict_itemiterator", "dict_reverseitemiterator", "odict_iterator", "itertools.zip_longest", "itertools.pairwise"].contains n && vs[0]? == some (rawInt a) then
          rule "for.unpacks-the-owned-tuple"
          updateField r 0 .none
      | _, _ => pure ()) Q E s := by
    cases v <;> first | exact wpAny_pure h | skip
    refine wpAny_bind (wpAny_load ho ?_)
    rw [hc, hd]
    dsimp only
    rw [if_neg (by simp)]
    exact wpAny_pure h
  unfold letOwnedTupleGo
  split
  · exact key
  · exact key
  · exact wpAny_pure h
theorem bare_set {gens : Array GenState} {g : Nat} {y : GenState} (h : AllBare gens) (hy : y.bare = true) : AllBare (gens.setIfInBounds g y) := fun z hz => by
  obtain ⟨i, hi, rfl⟩ := Array.mem_iff_getElem.mp hz
  have hi' : i < gens.size := by simpa using hi
  rw [Array.getElem_setIfInBounds hi']
  split
  · exact hy
  · exact h _ (Array.getElem_mem hi')
theorem next_bare {E : Value → Shared → Prop} {a : Addr} {g n : Nat} {gs : GenState} {P : Nat → Shared → Shared → Prop} {Y : Protocol} {Q : Option Value → Shared → Prop} (hh : A.handled = none) (hl : s.heap.NoLimit) (hroom : A.depth < recursionLimit) (hg : s.heap.IsGen a g) (hgs : s.gens[g]? = some gs)
    (hgo : gs.Goes (model prog w) A.in1 (fun n s₀ r s₁ => r = .ok (.ret .none) ∧ P n s₀ s₁) Y n (.send .none) (s.setGen g .running))
    (hY : ∀ v s₁ gs', gs'.bare = true → Y (n - 1) (s.setGen g .running) v s₁ (fun r' s'' => match n with
        | 0 => False
        | m + 1 => gs'.Goes (model prog w) A.in1 (fun n s₀ r s₁ => r = .ok (.ret .none) ∧ P n s₀ s₁) Y m r' s'') → Q (some v) (s₁.setGen g gs'))
    (hP : ∀ s₁, P n (s.setGen g .running) s₁ → ∀ h', (∀ b o, s₁.heap.get? b = some o → h'.get? b = some o) → Q none { s₁.setGen g .finished with heap := h' }) : wpAny (model prog w) A (pyNext (.ref a)) Q E s := by
  have hne : gs ≠ .running ∧ gs ≠ .finished := by
    constructor <;> (rintro rfl; exact hgo.elim)
  unfold pyNext
  refine wpAny_bind (wpAny_attempt (wpAny_callSpecial?_slot (name := Str.ofString "__next__") hg.typeIs slot_gen_next (wpAny_call_entry slot_gen_next hg.typeIs entry_gen_next ?_ (args_gen_next _))))
  show wpAny _ _ (Builtin.Generator.genWake (.ref a) (.send .none)) _ _ s
  unfold Builtin.Generator.genWake
  refine wpAny_bind (wpAny_holding (wpAny_genNumber hg (wpAny_bind (wpAny_genState hgs ?_))))
  rcases gs with cf | ⟨k0, l0, c0, p0, f0, b0⟩ | _ | _
  rotate_left 2
  · exact absurd rfl hne.1
  · exact absurd rfl hne.2
  all_goals
    refine wpAny_bind (wpAny_roomToWake hl hroom ?_)
    show wpAny _ _ (.resume g (.send .none) [] _) _ _ s
    refine wpAny_resumeQ hgs hgo (fun x s₁ hx => ?_) (fun v s₁ gs' hb hv => wpAny_pure ⟨v, rfl, wpAny_pure (hY v s₁ gs' hb hv)⟩)
    obtain ⟨rfl, hp⟩ := hx
    show wpAny _ _ (newExc (.type "StopIteration") [] >>= _) _ _ _
    refine wpAny_bind ?_
    simp only [newExc, newTuple]
    refine wpAny_bind (wpAny_newObj_type ?_ (by size_fits))
    refine wpAny_bind (m := firstArgMember _ _) (wpAny_of_eq (a := Value.none) (by first | rfl | (simp only [firstArgMember]; rfl)) ?_)
    refine wpAny_newObj_type ?_ (by size_fits)
    simp only [raiseNew]
    refine wpAny_bind (wpAny_bind (wpAny_handled ?_))
    rw [show A.in1.handled = none from hh]
    refine wpAny_throw ?_
    refine wpAny_bind (wpAny_isInstance (T := "StopIteration") (b := true) ⟨_, Heap.get?_push_size _ rfl, rfl⟩ isSubtype_stop ?_)
    exact wpAny_pure (hP s₁ hp _ fun b o hb => Heap.get?_push_of_some _ (Heap.get?_push_of_some _ hb))
noncomputable def GenInv (prog : Program) (w : World) (A : Around) (h₀ : Heap) (L : Addr) (s : Shared) (Lg G g : Nat) (oG : Obj) (its : List (Nat × List Nat)) (J : Nat → (Str → Option Value) → List (Addr × Obj) → Prop) (k : Nat) (s' : Shared) : Prop := ∃ i m₁ news₁ h tk gens hid gs, s' = { s with heap := h, toks := tk, gens := gens } ∧ k = its.length - i ∧ i ≤ its.length ∧ J i m₁ news₁ ∧ 0 < tk ∧ AllBare gens ∧ gens[g]? = some gs ∧ GSt prog w A h₀ Lg G its hid i gs ∧ (∀ q ∈ hid, @LE.le Nat _ Lg q.1 ∧ @Ne Nat q.1 G) ∧ Fr h₀ L h m₁ ∧ News h₀ L h (news₁ ++ (G, oG) :: hid)
theorem for_gen {target : PySem.Expr} {body : List Stmt} {Lg G g : Nat} {oG oL : Obj} {gs : GenState} {its : List (Nat × List Nat)} {m : Str → Option Value} {news : List (Addr × Obj)} {Q : Flow → Shared → Prop} (J : Nat → (Str → Option Value) → List (Addr × Obj) → Prop)
    (hh : A.handled = none) (hroom : A.depth < recursionLimit) (hlim : h₀.NoLimit) (F : Fr h₀ env.locals s.heap m) (N : News h₀ env.locals s.heap ((G, oG) :: (Lg, oL) :: news)) (hj : J 0 m news)
    (hlt : ∀ i m₁ news₁, J i m₁ news₁ → ∀ q ∈ news₁, @LT.lt Nat _ q.1 Lg) (hLL : @LT.lt Nat _ env.locals Lg) (hGL : Lg < G) (hG : s.heap.IsGen G g) (hgs : s.gens[g]? = some gs) (hst : GSt prog w A h₀ Lg G its [(Lg, oL)] 0 gs)
    (ht : 0 < s.toks) (hab : AllBare s.gens)
    (turn : ∀ i p cs m₁ news₁ h tk gens (T : Nat) tp ts nT tl, its[i]? = some (p, cs) → J i m₁ news₁ → 0 < tk → AllBare gens → (∀ q ∈ tl, @LE.le Nat _ Lg q.1) → (∀ q ∈ tl, @Ne Nat q.1 T) → Lg < T → Fr h₀ env.locals h m₁ → News h₀ env.locals h ((T, pairT p cs tp ts nT) :: (news₁ ++ tl)) →
      wpAny (model prog w) A (assign target env (.ref T)) (fun _ s₂ => wpAny (model prog w) A (execs body env) (TurnG h₀ env.locals { s with heap := h, toks := tk, gens := gens } tl (J (i + 1)) Q) Nay s₂) Nay { s with heap := h, toks := tk, gens := gens })
    (done : ∀ m₁ news₁ h tk gens, J its.length m₁ news₁ → 0 < tk → AllBare gens → Fr h₀ env.locals h m₁ → News h₀ env.locals h news₁ → Q .next { s with heap := h, toks := tk, gens := gens }) :
    wpAny (model prog w) A (pyIter (.ref G)) (fun it s₂ => codeAny (model prog w) A (.forLoop target it body [] env) (fun r s' => match r with | .ok f => Q f s' | .error _ => False) s₂) Nay s := by
  refine wpAny_pyIter_gen hG ?_
  obtain ⟨oG', nm, qn, hG1, hGc, hGd, hGs⟩ := hG
  have eG : oG' = oG := by have := (N _ (.head _)).1; rw [hG1] at this; exact Option.some.inj this
  subst eG
  refine codeAny_forLoop_any (GenInv prog w A h₀ env.locals s Lg G g oG' its J) ?_ its.length ?_
  · rintro k s' ⟨i, m₁, news₁, h, tk, gens, hid, gs, rfl, rfl, hle, hJ, htk, hbg, hgs, hst, hhid, F₁, N₁⟩
    have NG := N₁ (G, oG') (List.mem_append_right _ (.head _))
    have hnl : ∀ q ∈ news₁, @LT.lt Nat _ q.1 Lg := hlt i m₁ news₁ hJ
    have hL0 : h₀.objs.size ≤ Lg := Nat.le_trans F₁.above (Nat.le_of_lt hLL)
    refine wpAny_with_toks (n := 1) htk ?_
    refine next_bare (g := g) (n := its.length - i) (gs := gs) (P := GP Lg G) (Y := GY h₀ Lg G its) hh (hlim.keeps F₁.keep) hroom ⟨oG', nm, qn, NG.1, hGc, hGd, hGs⟩ hgs (hst _ (fun b o e => F₁.keep b o e) ⟨_, NG.1⟩ fun q hq => (N₁ q (List.mem_append_right _ (.tail _ hq))).1) ?_ ?_
    · rintro v s₁ gs' hbs ⟨p, cs, T, hid', tp, ts, nT, hit, hn1, rfl, ⟨⟨h₁, tk₁, rfl⟩, hk⟩, hT, hLT, hTG, hhid', hres⟩ htk1
      have hi : i < its.length := by
        rcases Nat.lt_or_ge i its.length with hx | hx
        · exact hx
        · exfalso
          have e0 : its.length - i = 0 := Nat.sub_eq_zero_of_le hx
          have := hres { { s with heap := h, toks := tk, gens := gens }.setGen g .running with heap := h₁, toks := tk₁ } (fun b o e => by
            have hlt' := Heap.lt_size e
            exact hk b o (.inl (Nat.lt_of_lt_of_le hlt' hL0)) (F₁.keep b o e)) ⟨_, hk _ _ (.inr rfl) NG.1⟩ (fun q hq => (hhid' q hq).1)
          rw [e0] at this
          exact this
      have e1 : its.length - (its.length - i - 1 + 1) = i := n_back hi
      rw [e1] at hit
      have kpF : Fr h₀ env.locals h₁ m₁ := by
        obtain ⟨oLL, es, ep, hLo, r⟩ := F₁.ns
        exact ⟨⟨oLL, es, ep, hk _ _ (.inl hLL) hLo, r⟩, fun b o e => hk b o (.inl (Nat.lt_of_lt_of_le (Heap.lt_size e) hL0)) (F₁.keep b o e), F₁.above⟩
      have big : ∀ b : Nat, Lg ≤ b → @Ne Nat b env.locals ∧ h₀.get? b = none := fun b hb => ⟨Nat.ne_of_gt (Nat.lt_of_lt_of_le hLL hb), Heap.get?_none_of_le (Nat.le_trans hL0 hb)⟩
      have kpN : News h₀ env.locals h₁ ((T, pairT p cs tp ts nT) :: (news₁ ++ (G, oG') :: hid')) := by
        intro q hq
        rcases List.mem_cons.mp hq with rfl | hq
        · exact ⟨hT, big T (Nat.le_of_lt hLT)⟩
        · rcases List.mem_append.mp hq with hq | hq
          · have := N₁ q (List.mem_append_left _ hq)
            exact ⟨hk _ _ (.inl (hnl q hq)) this.1, this.2⟩
          · rcases List.mem_cons.mp hq with rfl | hq
            · exact ⟨hk _ _ (.inr rfl) NG.1, NG.2⟩
            · exact ⟨(hhid' q hq).1, big _ (hhid' q hq).2.1⟩
      refine owned_gen (G := G) (g := g) ⟨oG', nm, qn, (kpN (G, oG') (.tail _ (List.mem_append_right _ (.head _)))).1, hGc, hGd, hGs⟩ ?_
      refine wpAny_with_toks (n := 1) htk1 (ok_mono (turn i p cs m₁ news₁ h₁ tk₁ _ T tp ts nT ((G, oG') :: hid') hit hJ htk1 (bare_set (bare_set hbg rfl) hbs) ?_ ?_ hLT kpF kpN) fun _ s₂ h₂ hs₂ => wpAny_with_toks (n := 1) hs₂ (ok_mono h₂ fun f s₃ h₃ hs₃ => ?_))
      · intro q hq
        rcases List.mem_cons.mp hq with rfl | hq
        · exact Nat.le_of_lt hGL
        · exact (hhid' q hq).2.1
      · intro q hq
        rcases List.mem_cons.mp hq with rfl | hq
        · exact fun e => hTG e.symm
        · exact (hhid' q hq).2.2.2
      · have fin : (∃ m' news' h' tk', s₃ = { s with heap := h', toks := tk', gens := (gens.setIfInBounds g .running).setIfInBounds g gs' } ∧ Fr h₀ env.locals h' m' ∧ News h₀ env.locals h' (news' ++ (G, oG') :: hid') ∧ J (i + 1) m' news') →
            ∃ m, m < its.length - i ∧ GenInv prog w A h₀ env.locals s Lg G g oG' its J m s₃ := by
          rintro ⟨m', news', h'', tk', rfl, F', N', hJ'⟩
          refine ⟨its.length - (i + 1), n_sub hi, i + 1, m', news', h'', tk', _, hid', gs', rfl, rfl, hi, hJ', hs₃, bare_set (bare_set hbg rfl) hbs, ?_, ?_, fun q hq => ⟨(hhid' q hq).2.1, (hhid' q hq).2.2.1⟩, F', N'⟩
          · have hgl : g < gens.size := by
              rcases Nat.lt_or_ge g gens.size with hx | hx
              · exact hx
              · rw [Array.getElem?_eq_none hx] at hgs; cases hgs
            simp [hgl]
          · intro s'' hk'' hg'' hq''
            have := hres s'' hk'' hg'' hq''
            rw [n_succ hi] at this
            exact this
        cases f with
        | next => exact fin h₃
        | cont => exact fin h₃
        | brk => exact h₃
        | ret v => exact h₃
    · rintro s₁ ⟨hn0, ⟨h₁, tk₁, rfl⟩, hk⟩ h' hk' htk1
      have ei : i = its.length := n_all (by assumption) hn0
      subst ei
      have hk2 : ∀ (b : Nat) o, b < Lg → h.get? b = some o → h'.get? b = some o := fun b o hb e => hk' b o (hk b o (.inl hb) e)
      refine wpAny_execs_nil (done m₁ news₁ h' tk₁ _ hJ htk1 (bare_set (bare_set hbg rfl) rfl) ?_ ?_)
      · obtain ⟨oLL, es, ep, hLo, r⟩ := F₁.ns
        exact ⟨⟨oLL, es, ep, hk2 _ _ hLL hLo, r⟩, fun b o e => hk2 b o (Nat.lt_of_lt_of_le (Heap.lt_size e) hL0) (F₁.keep b o e), F₁.above⟩
      · intro q hq
        have := N₁ q (List.mem_append_left _ hq)
        exact ⟨hk2 _ _ (hnl q hq) this.1, this.2⟩
  · refine ⟨0, m, news, _, s.toks, s.gens, [(Lg, oL)], gs, rfl, rfl, Nat.zero_le _, hj, ht, hab, hgs, hst, ?_, F, ?_⟩
    · intro q hq
      rcases List.mem_cons.mp hq with rfl | hq
      · exact ⟨Nat.le_refl _, Nat.ne_of_lt hGL⟩
      · exact nomatch hq
    · intro q hq
      refine N q ?_
      rcases List.mem_append.mp hq with hq | hq
      · exact .tail _ (.tail _ hq)
      · rcases List.mem_cons.mp hq with rfl | hq
        · exact .head _
        · rcases List.mem_cons.mp hq with rfl | hq
          · exact .tail _ (.head _)
          · exact nomatch hq
theorem gen_mk {K : Frag} {L : Addr} {m : Str → Option Value} {news : List (Addr × Obj)} {name qual : Str} {params : Arguments} {body : List Stmt} {scope : Scope} {dV kV doc pm cdv ct oc : Value} {an od : Option Addr} {osl : Array (Option Value)} {f : Addr} {args : List Value} {binds : List (Str × Value)} {Q : Value → Shared → Prop} {E : Value → Shared → Prop} (its : List (Nat × List Nat))
    (F : Fr h₀ L s.heap m) (X₀ : K.In h₀) (N : News h₀ L s.heap news) (hlim : h₀.NoLimit) (ho : K.lookup f = some ⟨oc, od, .func (fnOf name qual params body scope dV kV doc pm an cdv ct), osl⟩) (hcd : codeIn K cdv qual = true) (hroom : A.depth < recursionLimit)
    (hbind : BindsTo s (fnOf name qual params body scope dV kV doc pm an cdv ct) ⟨args, []⟩ binds) (hloc : ∀ y ∈ binds, scope.names.lookup y.1 = some .local) (hgen : scope.isGenerator = true) (hco : scope.isCoroutine = false) (hk : scope.kind = .function) (hcell : ∀ x ∈ scope.names, x.2 ≠ .cell)
    (seg : ∀ (Lg G : Nat) s'', @LT.lt Nat _ L Lg → Lg < G → (∃ o, s''.heap.get? G = some o) → Fr h₀ Lg s''.heap (fun y => binds.reverse.lookup y) → Seg (model prog w) A.in1 (GR Lg G) (GY h₀ Lg G its) its.length s'' (.func body (envX qual scope Lg f cdv []))
      ((execs body (envX qual scope Lg f cdv [])).wrap (fun f => .pure (.done (.ret (match f with | .ret v => v | _ => .none)))) (fun e => (leaving (envX qual scope Lg f cdv []) e).wrap (fun _ => .raise e) .raise id id) id id) [] s'')
    (h : ∀ (Lg G : Nat) gs oL oG h' tk', Fr h₀ L h' m → News h₀ L h' ((G, oG) :: (Lg, oL) :: news) → (∀ q ∈ news, @LT.lt Nat _ q.1 Lg) → Lg < G → @LT.lt Nat _ L Lg → h'.IsGen G s.gens.size → gs.bare = true → GSt prog w A h₀ Lg G its [(Lg, oL)] 0 gs → Q (.ref G) { s with heap := h', toks := tk', gens := s.gens.push gs }) :
    wpAny (model prog w) A (call (.ref f) args) Q E s := by
  have hLs : @LT.lt Nat _ L s.heap.objs.size := by
    obtain ⟨oL, es, ep, hL, r⟩ := F.ns
    exact Heap.lt_size hL
  have X := X₀.keeps F.keep
  refine wpAny_call ?_
  refine codeAny_call_generator hroom (X _ _ ho) rfl hco hgen rfl (codeRec_of X hcd) ?_
  refine hbind _ _ _ _ ?_
  refine wpAny_newFunctionEnv hcell hloc (fun h1 hns hsb => ?_) hk
  have up : ∀ b o, s.heap.get? b = some o → h1.get? b = some o := fun b o e => hsb.extBut b o (Nat.ne_of_lt (Heap.lt_size e)) (Heap.get?_push_of_some _ e)
  have hsz : h1.objs.size = s.heap.objs.size + 1 := by rw [hsb.1, Heap.size_push]
  obtain ⟨oG, hoG⟩ : ∃ o, h1.get? s.heap.objs.size = some o := let ⟨o, _, _, e, _⟩ := hns; ⟨o, e⟩
  refine ⟨(hlim.keeps F.keep).keeps up, ?_⟩
  show Q (Value.ref h1.objs.size) _
  have hG : h₀.objs.size ≤ h1.objs.size := by
    have h1 : h₀.objs.size ≤ L := F.above
    have h2 := hLs
    rw [hsz]
    exact Nat.le_trans h1 (Nat.le_of_lt (Nat.lt_succ_of_lt h2))
  refine h s.heap.objs.size h1.objs.size _ oG _ _ _ ((F.keeps up).push _) (news_cons ⟨Heap.get?_push_size _ rfl, Nat.ne_of_gt (by rw [hsz]; exact Nat.lt_succ_of_lt hLs), Heap.get?_none_of_le hG⟩ (news_cons ⟨Heap.get?_push_of_some _ hoG, Nat.ne_of_gt hLs, Heap.get?_none_of_le (Nat.le_trans F.above (Nat.le_of_lt hLs))⟩ fun p hp => ⟨Heap.get?_push_of_some _ (up _ _ (N p hp).1), (N p hp).2⟩))
    (fun q hq => Heap.lt_size (N q hq).1) (by rw [hsz]; exact Nat.lt_succ_self _) hLs ⟨_, _, _, Heap.get?_push_size _ rfl, rfl, rfl, rfl⟩ rfl ?_
  intro s'' hk2 hg2 hh2
  have hLg := hh2 _ (.head _)
  refine ⟨rfl, seg_func (seg _ _ s'' hLs (by rw [hsz]; exact Nat.lt_succ_self _) hg2 ⟨?_, hk2, Nat.le_trans F.above (Nat.le_of_lt hLs)⟩)⟩
  obtain ⟨o, es, ep, e, r⟩ := hns
  rw [hoG] at e
  exact ⟨o, es, ep, (Option.some.inj e) ▸ hLg, r⟩
theorem TurnG.mk1 {L : Addr} {s : Shared} {tl : List (Addr × Obj)} {J : (Str → Option Value) → List (Addr × Obj) → Prop} {Q : Flow → Shared → Prop} {m' : Str → Option Value} {h' : Heap} {tk' : Nat} {p q : Addr × Obj} {news : List (Addr × Obj)}
    (F : Fr h₀ L h' m') (N : News h₀ L h' (p :: q :: (news ++ tl))) (hj : J m' (q :: news)) : TurnG h₀ L s tl J Q .next { s with heap := h', toks := tk' } :=
  ⟨m', q :: news, h', tk', rfl, F, fun x hx => N x (.tail _ hx), hj⟩
theorem TurnG.mk2 {L : Addr} {s : Shared} {tl : List (Addr × Obj)} {J : (Str → Option Value) → List (Addr × Obj) → Prop} {Q : Flow → Shared → Prop} {m' : Str → Option Value} {h' : Heap} {tk' : Nat} {p : Addr × Obj} {D n : Nat} {l : List (Str × Tok)} {y : Str} {t : Tok} {news : List (Addr × Obj)}
    (F : Fr h₀ L h' m') (N : News h₀ L h' (p :: (D, W.listOf (List.toArray (strValues l ++ [.str y t])) n) :: (news ++ tl))) (hj : J m' ((D, W.listOf (List.toArray (strValues (l ++ [(y, t)]))) n) :: news)) : TurnG h₀ L s tl J Q .next { s with heap := h', toks := tk' } :=
  TurnG.mk1 F (by rw [show strValues (l ++ [(y, t)]) = strValues l ++ [.str y t] by simp [strValues]]; exact N) hj
theorem join_L {y : Str} {u : Tok} {l : List (Str × Tok)} {D n : Nat} {L : Addr} {news : List (Addr × Obj)} {E : Value → Shared → Prop} {Q : Value → Shared → Prop} (N : News h₀ L s.heap news) (hm : (D, W.listOf (List.toArray (strValues l)) n) ∈ news) (hok : JoinOk y (l.map (·.1)) = true) (h0 : 0 < s.toks)
    (hq : ∀ t' k, 0 < k → Q (.str (Txt.join y (l.map (·.1))) t') { s with toks := k }) : wpAny (model prog w) A (call (.builtin "str.join") [.str y u, .ref D]) Q E s := by
  refine wpAny_with_toks (n := 1) h0 ?_
  unfold JoinOk at hok
  rw [Bool.not_eq_true'] at hok
  exact call_meets F.slot_str_join (typeIs_str _ _ _) F.entry_str_join (F.args_str_join_2 _ _) (meets_str_join_list y u D l hok) ⟨News.isList N hm, post_join l ⟨joinFit_length hok, fun t' k h1 => hq t' k h1⟩⟩
theorem join_L1 {y z : Str} {u t : Tok} {l : List (Str × Tok)} {D n : Nat} {L : Addr} {news : List (Addr × Obj)} {E : Value → Shared → Prop} {Q : Value → Shared → Prop} (N : News h₀ L s.heap news) (hm : (D, W.listOf (List.toArray (strValues l ++ [.str z t])) n) ∈ news) (hok : JoinOk y (l.map (·.1) ++ [z]) = true) (h0 : 0 < s.toks)
    (hq : ∀ t' k, 0 < k → Q (.str (Txt.join y (l.map (·.1) ++ [z])) t') { s with toks := k }) : wpAny (model prog w) A (call (.builtin "str.join") [.str y u, .ref D]) Q E s := by
  have e : l.map (·.1) ++ [z] = (l ++ [(z, t)]).map (·.1) := by simp
  rw [e] at hok hq
  exact join_L (l := l ++ [(z, t)]) N (by rw [show strValues (l ++ [(z, t)]) = strValues l ++ [.str z t] by simp [strValues]]; exact hm) hok h0 hq
theorem TurnG.mk0 {L : Addr} {s : Shared} {tl : List (Addr × Obj)} {J : (Str → Option Value) → List (Addr × Obj) → Prop} {Q : Flow → Shared → Prop} {m' : Str → Option Value} {h' : Heap} {tk' : Nat} {p : Addr × Obj} {news : List (Addr × Obj)}
    (F : Fr h₀ L h' m') (N : News h₀ L h' (p :: (news ++ tl))) (hj : J m' news) : TurnG h₀ L s tl J Q .next { s with heap := h', toks := tk' } :=
  ⟨m', news, h', tk', rfl, F, fun x hx => N x (.tail _ hx), hj⟩
end
end
section
open PySem PySem.W PyProof.Rows PySem.Calls
theorem words_KWr : PySem.Challenge.rw_nb0300_01.row.prog = PySem.Challenge.rw_nb0300_01.row.prog → hd.heap_1 = hd.heap_1 → True := by
  k_with_none
  k_fill
  k_with "k_mem" => first | exact memH0 | exact memH1 | exact memH2 | exact memH3 | exact memH4 | exact memH5 | exact memH6 | exact memH7 | exact memH8 | exact memH9 | exact memH10 | exact memH11 | exact memH12 | exact memH13 | exact memH14 | exact memH15 | exact memH16 | (with_reducible assumption) | (refine memT1 ?_; with_reducible assumption) | (refine memT2 ?_; with_reducible assumption) | (refine memT3 ?_; with_reducible assumption) | (refine memT4 ?_; with_reducible assumption) | (refine memT5 ?_; with_reducible assumption) | (refine memT6 ?_; with_reducible assumption) | (refine memT7 ?_; with_reducible assumption) | (refine memT8 ?_; with_reducible assumption) | (refine memT9 ?_; with_reducible assumption) | (refine memT10 ?_; with_reducible assumption) | (refine memT11 ?_; with_reducible assumption) | (refine memT12 ?_; with_reducible assumption) | (refine memT13 ?_; with_reducible assumption) | (refine memT14 ?_; with_reducible assumption) | (refine memT15 ?_; with_reducible assumption) | (refine memT16 ?_; with_reducible assumption) | (refine memT17 ?_; with_reducible assumption)
  k_with "k_upd" => first | (refine' upd0 ?a ?b; (case a => with_reducible assumption); (case b => k_dflt exact rfl)) | (refine' upd1 ?a ?b; (case a => with_reducible assumption); (case b => k_dflt exact rfl)) | (refine' upd2 ?a ?b; (case a => with_reducible assumption); (case b => k_dflt exact rfl)) | (refine' upd3 ?a ?b; (case a => with_reducible assumption); (case b => k_dflt exact rfl)) | (refine' upd4 ?a ?b; (case a => with_reducible assumption); (case b => k_dflt exact rfl)) | (refine' upd5 ?a ?b; (case a => with_reducible assumption); (case b => k_dflt exact rfl)) | (refine' upd6 ?a ?b; (case a => with_reducible assumption); (case b => k_dflt exact rfl)) | (refine' upd7 ?a ?b; (case a => with_reducible assumption); (case b => k_dflt exact rfl)) | (refine' upd8 ?a ?b; (case a => with_reducible assumption); (case b => k_dflt exact rfl)) | (refine' upd9 ?a ?b; (case a => with_reducible assumption); (case b => k_dflt exact rfl)) | (refine' upd10 ?a ?b; (case a => with_reducible assumption); (case b => k_dflt exact rfl)) | (refine' upd11 ?a ?b; (case a => with_reducible assumption); (case b => k_dflt exact rfl)) | (refine' upd12 ?a ?b; (case a => with_reducible assumption); (case b => k_dflt exact rfl)) | (refine' upd13 ?a ?b; (case a => with_reducible assumption); (case b => k_dflt exact rfl))
  k_with "k_updF" => first | (refine' updF0 ?a ?b; (case a => with_reducible assumption); (case b => k_dflt exact rfl)) | (refine' updF1 ?a ?b; (case a => with_reducible assumption); (case b => k_dflt exact rfl)) | (refine' updF2 ?a ?b; (case a => with_reducible assumption); (case b => k_dflt exact rfl)) | (refine' updF3 ?a ?b; (case a => with_reducible assumption); (case b => k_dflt exact rfl)) | (refine' updF4 ?a ?b; (case a => with_reducible assumption); (case b => k_dflt exact rfl)) | (refine' updF5 ?a ?b; (case a => with_reducible assumption); (case b => k_dflt exact rfl)) | (refine' updF6 ?a ?b; (case a => with_reducible assumption); (case b => k_dflt exact rfl)) | (refine' updF7 ?a ?b; (case a => with_reducible assumption); (case b => k_dflt exact rfl)) | (refine' updF8 ?a ?b; (case a => with_reducible assumption); (case b => k_dflt exact rfl)) | (refine' updF9 ?a ?b; (case a => with_reducible assumption); (case b => k_dflt exact rfl)) | (refine' updF10 ?a ?b; (case a => with_reducible assumption); (case b => k_dflt exact rfl)) | (refine' updF11 ?a ?b; (case a => with_reducible assumption); (case b => k_dflt exact rfl)) | (refine' updF12 ?a ?b; (case a => with_reducible assumption); (case b => k_dflt exact rfl)) | (refine' updF13 ?a ?b; (case a => with_reducible assumption); (case b => k_dflt exact rfl))
  k_with "cx" => exact CxA.le (by with_reducible assumption) (by decide)
  k_with "go" => repeat' (first
    | (k_unfold; (try dsimp only))
    | ((fail_if_success (with_reducible show wpAny _ _ (PySem.exec (PySem.Stmt.For _ _ _ _ _) _) _ _ _)); (fail_if_success (with_reducible show wpAny _ _ (PySem.exec (PySem.Stmt.While _ _ _ _) _) _ _ _)); (fail_if_success (with_reducible show wpAny _ _ (pyIter _) _ _ _)); (fail_if_success (with_reducible show wpAny _ _ (subscriptTail _ (PySem.Expr.Slice _ _ _ _) (Value.ref _) _) _ _ _)); first | walk1 | (dsimp only; walk1))
    | fail "no step")
  k_with "goJ" => repeat' (first
    | (k_unfold; (try dsimp only))
    | ((fail_if_success (with_reducible show wpAny _ _ (PySem.execs (PySem.Stmt.If _ _ (_ :: _) _ :: _) _) _ _ _)); (fail_if_success (with_reducible show wpAny _ _ (PySem.execs (PySem.Stmt.If (PySem.Expr.Attribute _ (PySem.Str.ofString "_data") _) _ _ _ :: _) _) _ _ _)); first | walk1 | (dsimp only; walk1))
    | fail "no step")
  k_with "goL" => repeat' (first
    | (k_unfold; (try dsimp only))
    | ((fail_if_success (with_reducible show wpAny _ _ (PySem.eval (PySem.Expr.ListComp _ _ _ _) _) _ _ _)); first | walk1 | (dsimp only; walk1))
    | fail "no step")
  k_with "goG" => repeat' (first
    | (k_unfold; (try dsimp only))
    | ((fail_if_success (with_reducible show wpAny _ _ (PySem.call (Value.builtin _) _) _ _ _)); first | walk1 | (dsimp only; walk1))
    | fail "no step")
  k_with "execs cons" => (try dsimp only); first | (with_reducible refine execs_one ?_) | (with_reducible refine execsS ?_)
  k_with "execs nil" => with_reducible refine wpAny_execs_nil ?_
  k_with "tpos" => (try dsimp only); first | exact Nat.succ_pos _ | assumption | (first | lia | omega)
  k_with "QS" => (try dsimp only); first | ((with_reducible refine QS_next (by first | exact Nat.succ_pos _ | assumption | (first | lia | omega)) ?_); intro tk htk) | ((with_reducible refine QS_any ?_); intro tk) | (with_reducible refine QS_ret ?_) | (with_reducible refine QS_brk ?_) | (with_reducible refine QS_cont ?_)
  k_with "QF" => (first | (with_reducible refine QF_ret (by k_asm) (by k_asm) ?_) | (with_reducible refine QF_next (by k_asm) (by k_asm) ?_)); intro kF kN
  k_with "storeName" => k_here; k_dflt (refine' storeP ?F ?N ?_ ?a ?b; (case F => k_asm); (case N => k_asm); (case a => rfl); (case b => rfl); k_whole); intro h' F' N'; (try k_sweep)
  k_with "eval Attribute Name" => k_here; (with_reducible show wpAny _ _ (eval (PySem.Expr.Attribute (PySem.Expr.Name (PySem.Str.ofString "self") _) _ _) (envOf _ _ _ _ _)) _ _ _); k_dflt (refine' attrR ?F ?X ?N ?s ?h1 ?h2 (attr_ok _ _ ?ok) ?hl ?hv ?_ ?hk ?hx; (case F => k_asm); (case X => k_asm); (case N => k_asm); (case s => exact rfl); (case h1 => k_mem); (case h2 => k_mem); (case ok => exact rfl); (case hl => k_get); (case hv => k_handed); (case hk => exact rfl); (case hx => exact rfl); k_whole); (try dsimp only)
  k_with "call builtin:list.append" => k_here; (with_reducible show wpAny _ _ (call (Value.builtin _) [Value.ref _, _]) _ _ _); k_dflt (refine' append_L ?k1 ?k2 ?k3 ?z ?_; (case k1 => k_asm); (case k2 => k_asm); (case k3 => k_upd); (case z => first | exact n_le (by with_reducible assumption) rfl | (first | lia | omega) | (simp only [strValues, List.length_map, List.length_append, List.length_cons, List.length_nil]; (first | lia | omega))); k_whole); intro h' F' N'; (try k_sweep)
  k_with "call builtin:str.replace" => (with_reducible show wpAny _ _ (call (Value.builtin "str.replace") [Value.str _ _, Value.str _ _, Value.str _ _]) _ _ _); k_dflt (refine' replace_P ?a ?b ?c ?d ?e ?_; (case a => (refine ltN ?_; first | assumption | (first | lia | omega))); (case b => (refine ltN ?_; first | assumption | (first | lia | omega))); (case c => decide); (case d => (first | lia | omega)); (case e => decide)); intro t' k' hk'; (try dsimp only at hk')
  k_with "bound" => first | exact BndAt.ofK (by k_asm) (by k_asm) (by assumption) | exact (BndAt.of (by k_asm) (by k_mem))
  k_with "callWith" => (with_reducible show wpAny _ _ (callWith _ (Value.builtin _) (_ :: _) _ _) _ _ _); refine PyProof.Rows.callWith_method1 ?_
  k_with "callWith ref" => k_here; (with_reducible show wpAny _ _ (callWith _ (Value.ref _) _ (backTo _ (starEach (_ :: _) _)) []) _ _ _); k_dflt (refine' callWith_B ?kb ?_; (case kb => walk_at "bound"); k_whole)
  k_with "And" => (with_reducible show BndAt _ _ _ _ ∧ _); k_dflt (refine ⟨by walk_at "bound", ?_⟩); (try dsimp only [List.nil_append, List.cons_append])
  k_with "delItem ref ref" => k_here; (with_reducible show wpAny _ _ (delItem (Value.ref _) (Value.ref _)) _ _ _); k_dflt (refine' del_all ?F ?N ?U ?z ?_; (case F => k_asm); (case N => k_asm); (case U => k_updF); (case z => first | exact n_le (by with_reducible assumption) rfl | (first | lia | omega) | (simp only [strValues, List.length_map]; (first | lia | omega)))); intro h' n' F' N'; (try dsimp only at N')
  k_with "call ref" => k_here; (with_reducible show wpAny _ _ (call (Value.ref 98) [Value.ref _]) _ _ _); k_dflt (refine' join_B ?b ?l rfl ?j ?t ?_; (case b => walk_at "bound"); (case l => exact News.isList (by k_asm) (by k_mem)); (case j => assumption); (case t => ((try dsimp only); first | assumption | (first | lia | omega)))); intro t' k' hk'
  k_with "call ref" => k_here; (with_reducible show wpAny _ _ (call (Value.ref _) [Value.str _ _]) _ _ _); k_dflt (refine' append_B ?F ?N ?b ?U ?z ?_; (case F => k_asm); (case N => k_asm); (case b => k_mem); (case U => k_upd); (case z => first | exact n_le (by with_reducible assumption) rfl | (first | lia | omega) | (simp only [strValues, List.length_append, List.length_map, List.length_cons, List.length_nil]; (first | lia | omega)))); intro h' F' N'; (try dsimp only at N')
  k_with "truthy str" => (with_reducible show wpAny _ _ (PySem.truthy (Value.str _ _)) _ _ _); refine truthy_yes (by assumption) (by (first | lia | omega)) ?_
  k_with "binaryOp Add ref ref" => k_here; (with_reducible show wpAny _ _ (binaryOp _ (Value.ref _) (Value.ref _)) _ _ _); k_dflt (refine' add_L ?F ?N ?a ?b ?z ?_; (case F => k_asm); (case N => k_asm); (case a => exact News.isList (by k_asm) (by k_mem)); (case b => exact News.isList (by k_asm) (by k_mem)); (case z => (simp only [List.length_nil, List.length_cons]; (first | lia | omega)))); intro D' h' F' N' l1; (try k_lt l1); (try k_sweep)
  k_with "hh" => first | exact CxA.hh (by with_reducible assumption) | assumption
  k_with "assign Tuple" => k_here; (with_reducible show wpAny _ _ (assign (Expr.Tuple _ _ _) _ (Value.ref _)) _ _ _); k_dflt (refine' unpackN_ ?F ?N ?T ?k1 ?k2 ?k3 ?_; (case F => k_asm); (case N => k_asm); (case T => refine News.isTup (by k_asm) (by k_mem)); (case k1 => walk_at "hh"); (case k2 => exact rfl); (case k3 => exact rfl)); intro h' F' N'; (try k_sweep)
  k_with "truthy ref" => (with_reducible show wpAny _ _ (PySem.truthy (Value.ref _)) _ _ _); k_dflt (first | (refine truthy_L (b := false) (by k_asm) (by k_mem) rfl ?_ ?_) | (refine truthy_L (b := true) (by k_asm) (by k_mem) rfl ?_ ?_)); (case' refine_1 => first | exact n_le (by with_reducible assumption) rfl | (first | lia | omega) | (simp only [strValues, List.length_map, List.length_cons, List.length_nil] at *; (first | lia | omega))); skip
  k_with "call builtin:list.pop" => k_here; (with_reducible show wpAny _ _ (call (Value.builtin _) [Value.ref _]) _ _ _); k_dflt (refine' pop_L ?F ?N ?U ?z ?_; (case F => k_asm); (case N => k_asm); (case U => k_upd); (case z => first | exact n_le (by with_reducible assumption) rfl | (first | lia | omega) | (simp only [List.length_append, List.length_cons, List.length_nil]; (first | lia | omega)))); intro h' F' N'; (try dsimp only at N')
  k_with "call builtin:len" => k_here; (with_reducible show wpAny _ _ (call (Value.builtin "len") [Value.ref _]) _ _ _); k_dflt (refine' len_L ?N ?m ?z ?_; (case N => k_asm); (case m => k_mem); (case z => first | exact n_le (by with_reducible assumption) rfl | (first | lia | omega) | (simp only [strValues, List.length_map, List.length_append, List.length_cons, List.length_nil]; (first | lia | omega)))); intro t'
  k_with "sset" => first | assumption | exact sset_fresh _
  k_with "getMethod ref" => k_here; (with_reducible show wpAny _ _ (getMethod (Value.ref _) (PySem.Str.ofString "_iter_namespaces") _) _ _ _); k_dflt (refine' method_shadow ?k1 ?k2 ?k3 ?k4 ?k5 ?k6 ?k7 ?k8 ?k9 ?k10 ?k11 ?_; (case k1 => k_asm); (case k2 => k_asm); (case k3 => k_inst); (case k4 => k_is); (case k5 => k_is); (case k6 => k_is); (case k7 => k_is); (case k8 => k_is); (case k9 => k_is); (case k10 => k_get); (case k11 => k_handed); k_whole)
  k_with "getMethod ref" => (with_reducible show wpAny _ _ (getMethod (Value.ref _) (PySem.Str.ofString "_write") _) _ _ _); walk_at "last getMethod ref"
  k_with "getMethod ref" => k_here; (with_reducible show wpAny _ _ (getMethod (Value.ref _) (PySem.Str.ofString "add") _) _ _ _); k_dflt (refine' sset_method ?N ?m ?o ?b ?_; (case N => k_asm); (case m => k_mem); (case o => walk_at "sset"); (case b => decide))
  k_with "call builtin:set.add" => k_here; (with_reducible show wpAny _ _ (call (Value.builtin _) [Value.ref _, Value.str _ _]) _ _ _); k_dflt (refine' sset_add ?F ?N ?U ?o ?b ?_; (case F => k_asm); (case N => k_asm); (case U => k_updF); (case o => walk_at "sset"); (case b => decide)); intro h' so' F' N' hS'; (try dsimp only at N')
  k_with "compareOp NotIn str ref" => k_here; (with_reducible show wpAny _ _ (compareOp _ (Value.str _ _) (Value.ref _)) _ _ _); k_dflt (refine' sset_notin ?N ?m ?o ?b ?_; (case N => k_asm); (case m => k_mem); (case o => walk_at "sset"); (case b => first | decide | (split <;> decide)))
  k_with "compareOp In str ref" => k_here; (with_reducible show wpAny _ _ (compareOp _ (Value.str _ _) (Value.ref _)) _ _ _); k_dflt (refine' sset_in ?N ?m ?o ?b ?_; (case N => k_asm); (case m => k_mem); (case o => walk_at "sset"); (case b => first | decide | (split <;> decide)))
  intros
  trivial
theorem written_spec : ∀ {w : World} {p : Program} {loose : List Str} {mean : ExcName → Option Value} {mg mb : Str → Option Value} {A : Around} {env : Env} {outer : List Env} {base h₀ : Heap} {L : Addr} {m : Str → Option Value} {s : Shared} {Q : Value → Shared → Prop} {lc : Nat} {nc : Nat} {vals : List Value} {calls : List Cl} {b : Bool} {news : List (Addr × Obj)} {pt : Array Value}
    (_ : CxA 14 w p loose mean mg mb A env outer base h₀ L) (_ : Fr h₀ L s.heap m)
    (_ : News h₀ L s.heap ((123, tabObj pt) :: news))
    (_ : Nd [123] news)
    (_ : CodeHd h₀ 125 123)
    (_ : TabOk pt news)
    (_ : (lc, W.listOf (List.toArray vals) nc) ∈ news)
    (_ : CallsAt news vals calls)
    (_ : Lawful calls)
    (_ : calls.length ≤ 20)
    (_ : ∀ t pt' h' d' tk', 0 < tk' → Fr h₀ L h' m → News h₀ L h' ((123, tabObj pt') :: news) → Q (.str (due b calls).whole t) { s with heap := h', drawn := d', toks := tk' }),
    wpAny (model PySem.Challenge.rw_nb0300_01.row.prog w) A (call (.ref 227) [.ref lc, .bool b]) Q Nay s := by
  intro w p loose mean mg mb A env outer base h₀ L m s Q lc nc vals calls b news pt c F N hn C hpt hl hc hok hz hret
  have X := c.X
  k_dflt (refine' enterA (ps := [(Str.ofString "comments", .bool b), (Str.ofString "calls", .ref lc)]) ?c ?F ?N ?ho ?hcd ?hb ?hps ?h0 ?hloc ?_ ?c2 ?c3 ?c4 ?c5; (case c => assumption); (case F => k_asm); (case N => k_asm); (case ho => k_is); (case hcd => k_is); (case hb => first | exact BindsTo.of_eq rfl | exact binds_K (by k_in) rfl (by k_is) rfl rfl rfl); (case hps => exact rfl); (case h0 => exact Nat.le_of_ble_eq_true rfl); (case hloc => exact locs rfl); (case c2 => exact rfl); (case c3 => exact rfl); (case c4 => exact rfl); (case c5 => decide); k_whole)
  intro A1 g1 L1 h1' tk0 htk0 c1 X1 FG1 F1 N1
  have T1 := c1.T
  (k_with "getAttr ref" => (with_reducible show wpAny _ _ (getAttr (Value.ref _) (PySem.Str.ofString "append") _) _ _ _); k_dflt (refine' append_bound ?F ?N ?m ?_; (case F => k_asm); (case N => k_asm); (case m => k_mem)); intro B' h' F' N' l1; (try k_lt l1))
  walk_at "go"
  k_dflt (refine' call_cls ?k1 ?k2 ?k3 ?k4 ?k5 ?k6 ?_; (case k1 => k_asm); (case k2 => exact c1.X); (case k3 => k_asm); (case k4 => k_is); (case k5 => k_is); (case k6 => k_is); k_whole)
  intro x dx h9 F9 N9 l9 l10
  refine init_in ?_
  have hnX : Nd [x, dx] _ := nd_new (as := [dx]) (led := (dx, dictOf [] 0) :: _) (nd_new nd_nil rfl l9) rfl (fa_cons l10 fun p hp => Nat.lt_trans (l9 p hp) l10)
  k_dflt (refine' init_spec (CxA.under (c1.le (j := 6) (by decide))) F9 N9 hnX memH0 ?_)
  intro ps pm a2 vw ns a1 nn ds l0 tpl et dA ntp od ov so tu tx tig t0 t1 t2 t3 t4 t5 t6 t7 t8 t9 t10 t11 t12 t13 t14 t15 t16 h8 tk8 htk8 hS hn8 F8 N8
  refine ⟨rfl, ?_⟩
  dsimp only
  clear F9 N9
  walk_at "go"
  rename Nd [_, _, _, 123] news => hn4
  rename_i tp _ _ _ _ _ _ xl _ _ _ h7 F7 N7
  have hnA := nd_pick (nd_join hn8 hn4 rfl) [14, 11, 9, 5, 4, 0, 15, 10, 6, 7, 8, 13] rfl (by decide)
  have N8 : News g1 L1 h7 ((tp, W.listOf (List.toArray (strValues [])) 0) :: (dx, dictOf (tgtEs w B' dA et ds ns pm ps b false false ((igOf [] : Nat) : Int) tig fun k => [t0, t1, t2, t3, t4, t5, t6, t7, t8, t9, t10, t11, t12, t13, t14, t15, t16, _].getD k 0) 18) :: (dA, W.listOf (List.toArray (strValues [])) 0) :: (ds, W.listOf (List.toArray (.ref l0 :: [])) 0) :: (ns, W.listOf (List.toArray [.ref a1, .ref a2]) nn) :: (ps, W.listOf (List.toArray (List.replicate (dOf []) (.bool false) ++ [.bool false])) 0) :: (123, tabObj pt) :: (x, instObj 150 dx) :: (l0, W.listOf (List.toArray [.ref tpl]) 0) :: (tpl, nsTup tu tx ntp) :: (et, so) :: (B', bndObj "list.append" (.ref tp)) :: news) := News.sub N7 (sub_cons memH14 (sub_cons memH11 (sub_cons memH9 (sub_cons memH5 (sub_cons memH4 (sub_cons memH0 (sub_cons memH15 (sub_cons memH10 (sub_cons memH6 (sub_cons memH7 (sub_cons memH8 (sub_cons memH13 (l' := news) fun p hp => memT16 hp))))))))))))
  clear N7 hn8 hn4 hnX
  (k_with "goE" => repeat' (first
    | (k_unfold; (try dsimp only))
    | ((fail_if_success (with_reducible show wpAny _ _ (call (Value.ref 120) _) _ _ _)); (fail_if_success (with_reducible show wpAny _ _ (call (Value.ref 133) _) _ _ _)); (fail_if_success (with_reducible show wpAny _ _ (call (Value.ref 140) _) _ _ _)); (fail_if_success (with_reducible show wpAny _ _ (call (Value.ref 97) _) _ _ _)); first | walk1 | (dsimp only; walk1))
    | fail "no step"))
  refine For_go ?_
  walk_at "go"
  refine for_listD (vs := vals) (WJ w b calls news x dx tp dA et ds ns pm ps B' l0 tpl so) c1.hh F7 N8 ?_ ?_ ?_ ?_
  · exact ⟨[], false, false, [], [], _, _, _, _, _, _, _, [], [.ref a1, .ref a2], pt, _, by walk_at "tpos", ⟨rfl, rfl, trivial⟩, wok_zero hok, rfl, nd_part _ hnA rfl, tabOk_mono hpt fun p hp => memT5 hp, ⟨memH0, memH4, ⟨_, memH1⟩, ⟨_, _, _, memH2⟩, memH3, fun p hp => memT5 hp⟩, fun v hv => absurd hv List.not_mem_nil, rfl, rfl, by decide⟩
  · rintro i m₁ news₁ d tk h ⟨ts, rs, rd, pp, dat, np, nd, n0, n2, n3, tig, T, rest, nst, pt, tl, H⟩ _ N₁
    have hm : (lc, W.listOf (List.toArray vals) nc) ∈ news₁ := by rw [H.led]; exact memT7 (H.fx.sub _ hl)
    exact News.isList N₁ hm
  · rintro i v m₁ news₁ h d tk It oI hv hJ hoc hod hlt hne F₁ N₁
    refine call_elim hc hv ?_
    intro c a9 pl pv tk9 tt n9 n8 hci hva htup hpl hprs
    refine WJ.elim hJ ?_
    intro ts rs rd pp dat np nd n0 n2 n3 tig T rest nst pt tl n1 tu tx ntp htk hpins hW hled hnd htab hx hwm hl0 htp het hsub hrst hlr hln hlt5
    clear hJ
    subst hva hled
    have hi20 : i < 20 := Nat.lt_of_lt_of_le (List.getElem?_eq_some_iff.mp hci).1 hz
    replace htup := hsub _ htup
    replace F₁ := fr_pinsP F₁ hpins
    have hD := wok_dat hW (by (first | lia | omega))
    have hig := igOf_le ts
    have hdo := dOf_le ts
    have hppl := hW.pl
    have hndI := nd_it hnd rfl hne (oI := oI)
    cases c with
    | start tg prs =>
      replace htup : ((a9, ({ cls := .type "tuple", data := .seq #[.str (Str.ofString "start") tk9, .str tg tt, .ref pl] n9 } : Obj)) : Addr × Obj) ∈ tl := htup
      replace hprs : PairsAt news pv prs := hprs
      have hco := lawful_ok hok _ (List.mem_of_getElem? hci)
      have hpo : PairsOk prs := hco.2
      have hln4 := goes_len hW hci
      obtain rfl := hW.rd_no hci
      walk_at "go"
      k_dflt (refine' dict_pairs ?hh ?F ?N ?m (hprs.mono fun p hp => memT8 (hsub p hp)) (pairs_nodup hpo) ?z ?_; (case hh => exact c1.hh); (case F => k_asm); (case N => k_asm); (case m => exact memT8 (hsub _ hpl)); (case z => exact pairs_z hpo))
      intro D5 nD5 ll5 h5 tk5 hent F5 N5 l5
      have h123 : @LT.lt Nat _ 123 D5 := l5 (123, _) memH7
      have hsm5 : (D5 == sysModules) = false := beq_eq_false_iff_ne.mpr fun e => by rw [e] at h123; revert h123; decide
      have hndS := nd_pick (nd_new hndI rfl fun q hq => l5 q ((sub_cons memH1 (sub_cons memH2 (sub_cons memH3 (sub_cons memH4 (sub_cons memH5 (sub_cons memH6 (sub_cons memH7 (sub_cons (l' := tl) memH0 fun p hp => memT8 hp)))))))) q hq)) [1, 2, 3, 4, 5, 6, 0, 7] rfl (by decide)
      walk_at "goE"
      k_dflt (refine' start1_spec (tl := (It, oI) :: tl) (l := ll5) (prs := prs) (dat := dat) (pst := List.replicate (dOf ts) (.bool false)) (c1.le (by decide)) F5 (News.sub N5 (sub_cons memH2 (sub_cons memH3 (sub_cons memH4 (sub_cons memH5 (sub_cons memH6 (sub_cons memH7 (sub_cons memH0 (sub_cons memH8 (sub_cons memH1 fun p hp => memT9 hp)))))))))) hndS (CodeHd.keeps C FG1.keep) (tabOk_mono htab fun p hp => memT1 hp) (memT1 hx) (memT1 hwm) (memT1 hl0) (memT1 htp) ?rst (memT1 het) hS hsm5 hD hW.rs_of (Int.natCast_nonneg _) (by (first | lia | omega)) (by simp only [strValues, List.length_map]; (first | lia | omega)) (by (first | lia | omega)) (by (first | lia | omega)) (by rw [List.length_replicate]; (first | lia | omega)) hco.1 hent hpo ?r1 ?r2)
      case rst => exact fun v hv => (hrst v hv).imp fun a h => h.imp fun n h => ⟨h.1, memT1 h.2⟩
      case r1 =>
        intro hor t9 h9 tk9 htk9 F9 N9
        have hor' : 0 < igOf ts ∨ tg = S "x" := hor.imp (fun h => by (first | lia | omega)) id
        have e1 : igOf (tg :: ts) = igOf ts + 1 := by simp only [igOf]; rw [if_pos hor'.symm]
        have e2 : dOf (tg :: ts) = dOf ts := by simp only [dOf]; rw [if_pos hor'.symm]
        exact TurnD.next F9 (News.sub N9 (sub_cons memH7 (sub_cons memH0 (sub_cons memH1 (sub_cons memH2 (sub_cons memH3 (sub_cons memH4 (sub_cons memH5 (sub_cons (l' := tl) memH6 fun p hp => memT8 hp))))))))) (ne_it hndI memH0 rfl fun p hp => hne p (memT7 hp)) (wj_mk htk9 ⟨rfl, rfl, trivial⟩ (hW.start_x hci hor') (by rw [e1]; rfl) (by rw [e2]) rfl rfl hnd htab ⟨hx, hwm, ⟨_, hl0⟩, ⟨_, _, _, htp⟩, het, hsub⟩ hrst (by rw [e2]; exact hlr) (by rw [e2]; exact hln) (by simp only [List.length_cons]; (first | lia | omega)))
      case r2 =>
        intro hig0 htgx nv nns fl pp2 np' nd' n0' n2' n3' nn' pt' ext h9 d9 tk9 hfl hj hl3 htab' hnns hapx hnd' htk9 F9 N9
        obtain ⟨u, rfl⟩ := fl_of hfl
        have hi0 : igOf ts = 0 := by (first | lia | omega)
        have hno : ¬ (tg = S "x" ∨ 0 < igOf ts) := fun h => h.elim htgx (by (first | lia | omega))
        have e1 : igOf (tg :: ts) = 0 := by simp only [igOf]; rw [if_neg hno]
        have e2 : dOf (tg :: ts) = dOf ts + 1 := by simp only [dOf]; rw [if_neg hno]
        have hsE : ∀ p ∈ ext ++ tl, p ∈ ext ++ (It, oI) :: tl := fun p hp => (List.mem_append.mp hp).elim (fun h => List.mem_append_left _ h) (fun h => List.mem_append_right _ (memT1 h))
        have hneE : ∀ p ∈ ext ++ tl, @Ne Nat p.1 It := fun p hp => (List.mem_append.mp hp).elim (fun h => Ne.symm (hapx p h (It, oI) memH0)) (fun h => hne p (memT7 h))
        exact TurnD.next F9 (News.sub N9 (sub_cons (memT7 (List.mem_append_right _ memH0)) (sub_cons memH0 (sub_cons memH1 (sub_cons memH2 (sub_cons memH3 (sub_cons memH4 (sub_cons memH5 (sub_cons (l' := ext ++ tl) memH6 fun p hp => memT7 (hsE p hp)))))))))) (ne_it hnd' (List.mem_append_right _ memH0) rfl hneE) (wj_mk (rest := rest ++ [.ref nns]) htk9 ⟨rfl, rfl, trivial⟩ (hW.start_w hci hi0 htgx hj hl3) (by rw [e1]; rfl) (by rw [e2, List.replicate_succ']) (by rw [sv_app, sv_app]) rfl (nd_mono hnd' hsE) (tabOk_it htab' hod) ⟨List.mem_append_right _ hx, List.mem_append_right _ hwm, ⟨_, List.mem_append_right _ hl0⟩, ⟨_, _, _, List.mem_append_right _ htp⟩, List.mem_append_right _ het, fun p hp => List.mem_append_right _ (hsub p hp)⟩ (fun v hv => (List.mem_append.mp hv).elim (fun h => (hrst v h).imp fun a h => h.imp fun n h => ⟨h.1, List.mem_append_right _ h.2⟩) (fun h => ⟨_, _, List.mem_singleton.mp h, List.mem_append_left _ hnns⟩)) (by rw [e2, List.length_append, hlr]; rfl) (by rw [e2, List.length_append, hln]; rfl) (by simp only [List.length_cons]; (first | lia | omega)))
    | fin tg =>
      replace htup : ((a9, ({ cls := .type "tuple", data := .seq #[.str (Str.ofString "end") tk9, .str tg tt, .ref pl] n9 } : Obj)) : Addr × Obj) ∈ tl := htup
      obtain rfl := wok_rs hW hci (fun _ _ h => by cases h)
      obtain rfl := hW.rd_no hci
      walk_at "goE"
      rename_i h8 F8 N8
      by_cases h0 : igOf ts = 0
      · obtain ⟨hW2, e3, e4, htx, htag⟩ := hW.fin_w (u := 0) (v := 0) hci h0
        obtain ⟨rest', ev, rfl, hlr'⟩ := snoc_of (hlr.trans e4)
        obtain ⟨nst', nv, rfl, hln'⟩ := snoc_of (n := dOf ts.tail + 2) (by rw [hln, e4])
        have hI0 : ((igOf ts : Nat) : Int) = 0 := by rw [h0]; rfl
        rw [hI0] at N8
        k_dflt (refine' end_spec (tl := (123, tabObj pt) :: (It, oI) :: tl) (dat := dat) (rest := rest') (nst := nst') (pst := List.replicate (dOf ts) (.bool false)) (c1.le (by decide)) F8 (News.sub N8 (sub_cons memH1 (sub_cons memH2 (sub_cons memH3 (sub_cons memH4 (sub_cons memH5 (sub_cons memH6 (sub_cons memH7 (sub_cons memH0 fun p hp => memT8 hp))))))))) (nd_part _ hndI rfl) (memT2 hx) (memT2 hwm) (memT2 hl0) (memT2 htp) ?rst hD (by simp only [strValues, List.length_map]; (first | lia | omega)) (by (first | lia | omega)) (by (first | lia | omega)) (by rw [List.length_replicate]; (first | lia | omega)) (htag.imp id fun h => h.imp id fun h => h.resolve_right htx) ?_)
        case rst => exact fun v hv => (hrst v hv).imp fun a h => h.imp fun n h => ⟨h.1, memT2 h.2⟩
        intro fl t9 np' nd' n0' n2' n3' h9 tk9 hfl htk9 F9 N9
        obtain ⟨u, rfl⟩ := fl_of hfl
        obtain ⟨hW2, _⟩ := hW.fin_w (u := u) (v := t9) hci h0
        have erd : ((((List.replicate (dOf ts) (Value.bool false)).length : Nat) : Int) == 1) = decide (dOf ts.tail = 0) := by
          rw [List.length_replicate, e4]
          by_cases h : dOf ts.tail = 0
          · rw [h]; rfl
          · rw [decide_eq_false h]; exact beq_eq_false_iff_ne.mpr (by (first | lia | omega))
        rw [erd] at N9
        exact TurnD.next F9 (News.sub N9 (sub_cons memH7 (sub_cons memH0 (sub_cons memH1 (sub_cons memH2 (sub_cons memH3 (sub_cons memH4 (sub_cons memH5 (sub_cons (l' := tl) memH6 fun p hp => memT8 hp))))))))) (ne_it hndI memH0 rfl fun p hp => hne p (memT7 hp)) (wj_mk htk9 ⟨rfl, rfl, trivial⟩ hW2 (by rw [e3]; rfl) (by rw [e4, List.replicate_succ']) (by rw [← sv_app, ← sv_app]; rfl) rfl hnd htab ⟨hx, hwm, ⟨_, hl0⟩, ⟨_, _, _, htp⟩, het, hsub⟩ (fun v hv => hrst v (List.mem_append_left _ hv)) hlr' hln' (by rw [List.length_tail]; (first | lia | omega)))
      · obtain ⟨hW2, e3, e4⟩ := hW.fin_x hci (Nat.pos_of_ne_zero h0)
        k_dflt (refine' endx_spec (tl := (tp, W.listOf (List.toArray (strValues pp)) np) :: (dA, W.listOf (List.toArray (strValues dat)) nd) :: (ds, W.listOf (List.toArray (.ref l0 :: rest)) n0) :: (ns, W.listOf (List.toArray nst) n2) :: (ps, W.listOf (List.toArray (List.replicate (dOf ts) (.bool false) ++ [.bool false])) n3) :: (123, tabObj pt) :: (It, oI) :: tl) (c1.le (by decide)) F8 (News.sub N8 (sub_cons memH2 (sub_cons memH1 (sub_cons memH3 (sub_cons memH4 (sub_cons memH5 (sub_cons memH6 (sub_cons memH7 (sub_cons memH0 fun p hp => memT8 hp))))))))) (memT7 hx) (nd_part [dx] (nd_pick hndI [1, 0, 2, 3, 4, 5, 6] rfl (by decide)) rfl) (by (first | lia | omega)) (by (first | lia | omega)) ?_)
        intro t9 h9 tk9 htk9 F9 N9
        exact TurnD.next F9 (News.sub N9 (sub_cons memH7 (sub_cons memH1 (sub_cons memH0 (sub_cons memH2 (sub_cons memH3 (sub_cons memH4 (sub_cons memH5 (sub_cons (l' := tl) memH6 fun p hp => memT8 hp))))))))) (ne_it hndI memH0 rfl fun p hp => hne p (memT7 hp)) (wj_mk htk9 ⟨rfl, rfl, trivial⟩ hW2 (by rw [e3]; (first | lia | omega)) (by rw [e4]) rfl rfl hnd htab ⟨hx, hwm, ⟨_, hl0⟩, ⟨_, _, _, htp⟩, het, hsub⟩ hrst (by rw [e4]; exact hlr) (by rw [e4]; exact hln) (by rw [List.length_tail]; (first | lia | omega)))
    | comment tg =>
      replace htup : ((a9, ({ cls := .type "tuple", data := .seq #[.str (Str.ofString "comment") tk9, .str tg tt, .ref pl] n9 } : Obj)) : Addr × Obj) ∈ tl := htup
      obtain rfl := wok_rs hW hci (fun _ _ h => by cases h)
      obtain rfl := hW.rd_no hci
      have hx10 := escT10 (lawful_ok hok _ (List.mem_of_getElem? hci))
      walk_at "goE"
      rename_i h8 F8 N8
      k_dflt (refine' comment_spec (tl := (ds, W.listOf (List.toArray (.ref l0 :: rest)) n0) :: (ns, W.listOf (List.toArray nst) n2) :: (ps, W.listOf (List.toArray (List.replicate (dOf ts) (.bool false) ++ [.bool false])) n3) :: (123, tabObj pt) :: (It, oI) :: tl) (dat := dat) (c1.le (by decide)) F8 (News.sub N8 (sub_cons memH1 (sub_cons memH2 (sub_cons memH3 (sub_cons memH4 (sub_cons memH5 (sub_cons memH6 (sub_cons memH7 (sub_cons memH0 fun p hp => memT8 hp))))))))) (nd_part [tp, dx, dA] hndI rfl) (memT5 hx) (memT5 hwm) hD (by simp only [strValues, List.length_map]; (first | lia | omega)) (by (first | lia | omega)) ?r1 ?r2)
      case r1 =>
        intro hno h9 tk9 htk9 F9 N9
        exact TurnD.next F9 (News.sub N9 (sub_cons memH7 (sub_cons memH0 (sub_cons memH1 (sub_cons memH2 (sub_cons memH3 (sub_cons memH4 (sub_cons memH5 (sub_cons (l' := tl) memH6 fun p hp => memT8 hp))))))))) (ne_it hndI memH0 rfl fun p hp => hne p (memT7 hp)) (wj_mk htk9 ⟨rfl, rfl, trivial⟩ (hW.com_no hci (hno.imp id fun h => by (first | lia | omega))) rfl rfl rfl rfl hnd htab ⟨hx, hwm, ⟨_, hl0⟩, ⟨_, _, _, htp⟩, het, hsub⟩ hrst hlr hln hlt5)
      case r2 =>
        intro hb hi0 fl t9 n91 n92 h9 tk9 hfl htk9 F9 N9
        obtain ⟨u, rfl⟩ := fl_of hfl
        exact TurnD.next F9 (News.sub N9 (sub_cons memH7 (sub_cons memH0 (sub_cons memH1 (sub_cons memH2 (sub_cons memH3 (sub_cons memH4 (sub_cons memH5 (sub_cons (l' := tl) memH6 fun p hp => memT8 hp))))))))) (ne_it hndI memH0 rfl fun p hp => hne p (memT7 hp)) (wj_mk htk9 ⟨rfl, rfl, trivial⟩ (hW.com_w (u := u) (v := t9) hci hb (by (first | lia | omega))) rfl rfl (by rw [← sv_app, ← sv_app]; rfl) rfl hnd htab ⟨hx, hwm, ⟨_, hl0⟩, ⟨_, _, _, htp⟩, het, hsub⟩ hrst hlr hln hlt5)
    | data tg =>
      replace htup : ((a9, ({ cls := .type "tuple", data := .seq #[.str (Str.ofString "data") tk9, .str tg tt, .ref pl] n9 } : Obj)) : Addr × Obj) ∈ tl := htup
      have hdl := hW.dl
      walk_at "goE"
      rename_i h8 F8 N8
      k_dflt (refine' data_spec (tl := (tp, W.listOf (List.toArray (strValues pp)) np) :: (dx, dictOf (tgtEs w B' dA et ds ns pm ps b rs rd ((igOf ts : Nat) : Int) tig T) 18) :: (ds, W.listOf (List.toArray (.ref l0 :: rest)) n0) :: (ns, W.listOf (List.toArray nst) n2) :: (ps, W.listOf (List.toArray (List.replicate (dOf ts) (.bool false) ++ [.bool false])) n3) :: (123, tabObj pt) :: (It, oI) :: tl) (dat := dat) (c1.le (by decide)) F8 (News.sub N8 (sub_cons memH3 (sub_cons memH1 (sub_cons memH2 (sub_cons memH4 (sub_cons memH5 (sub_cons memH6 (sub_cons memH7 (sub_cons memH0 fun p hp => memT8 hp))))))))) (nd_part [dA] (nd_pick hndI [2, 0, 1, 3, 4, 5, 6] rfl (by decide)) rfl) (memT7 hx) memH1 (by (first | lia | omega)) (by (first | lia | omega)) ?_)
      intro n9' h9 tk9 htk9 F9 N9
      exact TurnD.next F9 (News.sub N9 (sub_cons memH7 (sub_cons memH1 (sub_cons memH2 (sub_cons memH0 (sub_cons memH3 (sub_cons memH4 (sub_cons memH5 (sub_cons (l' := tl) memH6 fun p hp => memT8 hp))))))))) (ne_it hndI memH0 rfl fun p hp => hne p (memT7 hp)) (wj_mk htk9 ⟨rfl, rfl, trivial⟩ (hW.data_ok (v := tt) hci) rfl rfl rfl rfl hnd htab ⟨hx, hwm, ⟨_, hl0⟩, ⟨_, _, _, htp⟩, het, hsub⟩ hrst hlr hln hlt5)
  · rintro m₁ news₁ h d tk ⟨ts, rs, rd, pp, dat, np, nd, n0, n2, n3, tig, T, rest, nst, pt, tl, H⟩ F₁ N₁
    obtain ⟨htk, hpins, hW, rfl, hnd, htab, hfx, hrst, hlr, hln, hlt5⟩ := H
    replace F₁ := fr_pinsP F₁ hpins
    have hlen := hc.len
    rw [hlen] at hW
    obtain ⟨hjk, hje⟩ := wok_end hW hok hz
    refine QS_next (by walk_at "tpos") ?_
    intro tkR htkR
    walk_at "go"
    refine join_L N₁ (.head _) hjk (by walk_at "tpos") ?_
    intro t' k' hk'
    walk_at "go"
    rw [hje]
    exact hret _ pt _ _ _ (by walk_at "tpos") kF (News.sub kN (sub_cons memH6 fun p hp => memT7 (hfx.sub p hp)))
end
section
open PySem PySem.W PyProof.Rows PySem.Calls
noncomputable def ESo (oE oI : Obj) (It : Addr) (x : Str) (t : Tok) (i : Nat) : Prop :=
  (∃ old, oE = { cls := .type "enumerate", data := .fields #[.none, .bool false, .ref It, rawInt (i : Int), .none, old] }) ∧ oI.cls = .type (strIterType x) ∧ oI.data = .fields #[.str x t, .int (i : Int) 0]
theorem str_draws {prog : Program} {w : World} {A : Around} (hh : A.handled = none) (it : Addr) (x : Str) (t : Tok) :
    Draws prog w A it [it] x.cps.size (fun i v => ∃ c u, x.cps[i]? = some c ∧ v = .str ⟨#[c]⟩ u) (fun i h => h.IsStrIter it (strIterType x) x t i) := by
  unfold strIterType
  split
  · exact Draws.strAscii hh it x t
  · exact Draws.strWide hh it x t
theorem others_of {h₀ h : Heap} {Lg G : Nat} (hk : ∀ b o, h₀.get? b = some o → h.get? b = some o) (hG : Lg ≠ G) :
    ∃ others, News h₀ Lg h others ∧ (∀ q ∈ others, q.1 < Lg ∨ q.1 = G) ∧ ∀ (b : Nat) o, (b < Lg ∨ b = G) → h.get? b = some o → h₀.get? b = some o ∨ (b, o) ∈ others := by
  let f : Nat → Option (Addr × Obj) := fun b => match h₀.get? b with | some _ => none | none => (h.get? b).map fun o => (b, o)
  have key : ∀ b q, f b = some q → q.1 = b ∧ h.get? b = some q.2 ∧ h₀.get? b = none := by
    intro b q e
    simp only [f] at e
    split at e
    · cases e
    · rename_i e0
      cases e1 : h.get? b with
      | none => rw [e1] at e; cases e
      | some o => rw [e1] at e; cases e; exact ⟨rfl, rfl, e0⟩
  refine ⟨(G :: List.range Lg).filterMap f, ?_, ?_, ?_⟩
  · intro q hq
    obtain ⟨b, hb, e⟩ := List.mem_filterMap.mp hq
    obtain ⟨rfl, e1, e2⟩ := key b q e
    refine ⟨e1, ?_, e2⟩
    rcases List.mem_cons.mp hb with hb | hb
    · exact fun e => hG (e.symm.trans hb)
    · exact Nat.ne_of_lt (List.mem_range.mp hb)
  · intro q hq
    obtain ⟨b, hb, e⟩ := List.mem_filterMap.mp hq
    obtain ⟨rfl, e1, e2⟩ := key b q e
    rcases List.mem_cons.mp hb with hb | hb
    · exact .inr hb
    · exact .inl (List.mem_range.mp hb)
  · intro b o hb e
    cases e0 : h₀.get? b with
    | some o' => exact .inl ((hk b o' e0).symm.trans e ▸ rfl)
    | none =>
      refine .inr (List.mem_filterMap.mpr ⟨b, ?_, ?_⟩)
      · rcases hb with hb | hb
        · exact List.mem_cons_of_mem _ (List.mem_range.mpr hb)
        · rw [hb]; exact List.mem_cons_self ..
      · simp only [f, e0, e]; rfl
section
variable {prog : Program} {w : World} {A : Around} {R : GenEnd} {Y : Protocol} {n : Nat} {s₀ : Shared} {s : Shared} {env : Env} {h₀ : Heap}
theorem seg_enum {elts : List PySem.Expr} {kk : Nat} {pt : Pos} {body : List Stmt} {E It : Nat} {oE oI : Obj} {x : Str} {t : Tok} {i : Nat} {m : Str → Option Value} {others : List (Addr × Obj)} {k h g l c₁ p₁ kp} {fs : List Frame}
    (hh : (A.over (.forLoop (.Tuple elts kk pt) (.ref E) body [] env) (.ret k h g l c₁ p₁ kp :: fs)).handled = none) (F : Fr h₀ env.locals s.heap m) (N : News h₀ env.locals s.heap ((E, oE) :: (It, oI) :: others)) (hE : ESo oE oI It x t i) (hne : E ≠ It) (hoff : ∀ q ∈ others, @Ne Nat q.1 E ∧ @Ne Nat q.1 It) (hi : i ≤ x.cps.size)
    (item : ∀ c (T : Nat) h' tk tp ts oE' oI', x.cps[i]? = some c → ESo oE' oI' It x t (i + 1) → (∀ b o, s.heap.get? b = some o → @LT.lt Nat _ b T) → Fr h₀ env.locals h' m → News h₀ env.locals h' ((T, pairT i [c] tp ts 0) :: (E, oE') :: (It, oI') :: others) →
      wpAny (model prog w) (A.over (.forLoop (.Tuple elts kk pt) (.ref E) body [] env) (.ret k h g l c₁ p₁ kp :: fs)) (assign (.Tuple elts kk pt) env (.ref T)) (fun _ s₂ => Seg (model prog w) A R Y n s₀ (.forLoop (.Tuple elts kk pt) (.ref E) body [] env) ((execs body env).wrap (forK (.Tuple elts kk pt) (.ref E) body [] env) (forH env) id id) (.ret k h g l c₁ p₁ kp :: fs) s₂) Nay { s with heap := h', toks := tk })
    (done : ∀ h', i = x.cps.size → Fr h₀ env.locals h' m → News h₀ env.locals h' others → Seg (model prog w) A R Y n s₀ c₁ (k (.ok .next)) fs { s with heap := h' }) :
    Seg (model prog w) A R Y n s₀ (.forLoop (.Tuple elts kk pt) (.ref E) body [] env) ((model prog w).den (.forLoop (.Tuple elts kk pt) (.ref E) body [] env)) (.ret k h g l c₁ p₁ kp :: fs) s := by
  obtain ⟨⟨old, rfl⟩, hI1, hI2⟩ := hE
  have NE := N _ (.head _)
  have NI := N _ (.tail _ (.head _))
  have No : News h₀ env.locals s.heap others := fun q hq => N q (.tail _ (.tail _ hq))
  have hD := str_draws (prog := prog) (w := w) (A := (A.over (.forLoop (.Tuple elts kk pt) (.ref E) body [] env) (.ret k h g l c₁ p₁ kp :: fs)).in1) hh It x t
  have he : IsEnum s.heap E It (i : Int) old := NE.1
  have hst : s.heap.IsStrIter It (strIterType x) x t i := ⟨oI, NI.1, hI1, hI2⟩
  refine seg_forLoop ?_
  rcases Nat.lt_or_ge i x.cps.size with hlt | hge
  · refine wpAny_pyNext_enum_itemD hD he hst hlt hne (by simpa using hne) fun v h' tk hP ho hs' hT hsz hk => ?_
    obtain ⟨c, u, hc, rfl⟩ := hP
    have hlE : E < s.heap.objs.size := Heap.lt_size NE.1
    have hlI : It < s.heap.objs.size := Heap.lt_size NI.1
    refine wpAny_letOwnedTupleGo_enum ho fun h₂ he₂ hs₂ => ?_
    have k2 : ∀ b o, b ≠ E → b ≠ It → s.heap.get? b = some o → h₂.get? b = some o := fun b o hb1 hb2 e => hs₂.extBut b o hb1 (hk b o hb1 hb2 e)
    obtain ⟨oI', hI0, hI1', hI2'⟩ := hs'
    have hbE : ∀ b o, h₀.get? b = some o → b ≠ E ∧ b ≠ It := fun b o e => ⟨fun q => (by rw [q, NE.2.2] at e; cases e), fun q => (by rw [q, NI.2.2] at e; cases e)⟩
    have F₂ : Fr h₀ env.locals h₂ m := by
      obtain ⟨oL, es, ep, hL, r⟩ := F.ns
      exact ⟨⟨oL, es, ep, k2 _ _ NE.2.1.symm NI.2.1.symm hL, r⟩, fun b o e => k2 b o (hbE b o e).1 (hbE b o e).2 (F.keep b o e), F.above⟩
    have hLs : env.locals < s.heap.objs.size := by obtain ⟨oL, es, ep, hL, r⟩ := F.ns; exact Heap.lt_size hL
    refine item c s.heap.objs.size h₂ (tk + 1) tk u { cls := .type "enumerate", data := .fields #[.none, .bool false, .ref It, rawInt ((i + 1 : Nat) : Int), .none, .str ⟨#[c]⟩ u] } oI' hc ⟨⟨_, rfl⟩, hI1', hI2'⟩ (fun b o e => Heap.lt_size e) F₂ ?_
    intro q hq
    rcases List.mem_cons.mp hq with rfl | hq
    · exact ⟨hs₂.extBut _ _ (Nat.ne_of_gt hlE) hT, Nat.ne_of_gt hLs, Heap.get?_none_of_le (Nat.le_trans F.above (Nat.le_of_lt hLs))⟩
    · rcases List.mem_cons.mp hq with rfl | hq
      · exact ⟨he₂, NE.2⟩
      · rcases List.mem_cons.mp hq with rfl | hq
        · exact ⟨hs₂.extBut _ _ (Ne.symm hne) hI0, NI.2⟩
        · exact ⟨k2 _ _ (hoff q hq).1 (hoff q hq).2 (No q hq).1, (No q hq).2⟩
  · have e0 : i = x.cps.size := Nat.le_antisymm hi hge
    subst e0
    refine wpAny_pyNext_enum_endD hD he hst fun h' hx => ?_
    have kk : ∀ b o, b ≠ It → s.heap.get? b = some o → h'.get? b = some o := hx
    refine seg_block (done h' rfl ?_ fun q hq => ⟨kk _ _ (hoff q hq).2 (No q hq).1, (No q hq).2⟩)
    obtain ⟨oL, es, ep, hL, r⟩ := F.ns
    exact ⟨⟨oL, es, ep, kk _ _ NI.2.1.symm hL, r⟩, fun b o e => kk b o (fun q => by rw [q, NI.2.2] at e; cases e) (F.keep b o e), F.above⟩
end
end
section
open PySem PySem.W PyProof.Rows PySem.Calls
theorem fr_at {h₀ h : Heap} {L : Addr} {m : Str → Option Value} (F : Fr h₀ L h m) : ∃ oL, h.get? L = some oL ∧ ∀ h'' : Heap, h''.get? L = some oL → (∀ b o, h₀.get? b = some o → h''.get? b = some o) → Fr h₀ L h'' m := by
  obtain ⟨oL, es, ep, hL, r⟩ := F.ns
  exact ⟨oL, hL, fun h'' e k => ⟨⟨oL, es, ep, e, r⟩, k, F.above⟩⟩
theorem bs_app (c : Nat) : Str.ofString "\\" ++ (⟨#[c]⟩ : Str) = ⟨([92, c] : List Nat).toArray⟩ := by
  have e : Str.ofString "\\" = ⟨#[92]⟩ := by decide
  rw [e]; rfl
structure GI (h₀ : Heap) (Lg G E It : Nat) (x : Str) (t : Tok) (its : List (Nat × List Nat)) (n : Nat) (s₀ s : Shared) (i p : Nat) (e : Bool) (tp : Tok) (m : Str → Option Value) (oE oI : Obj) (others : List (Addr × Obj)) : Prop where
  n_is : n = (items i e (x.cps.toList.drop i)).length
  its_is : ∃ pre, its = pre ++ items i e (x.cps.toList.drop i)
  le : i ≤ x.cps.size
  pos : e = true → p + 1 = i
  fr : Fr h₀ Lg s.heap m
  news : News h₀ Lg s.heap ((E, oE) :: (It, oI) :: others)
  en : ESo oE oI It x t i
  off : ∀ q ∈ others, q.1 < Lg ∨ q.1 = G
  hasG : ∃ o, (G, o) ∈ others
  eE : Lg < E ∧ E ≠ G
  eI : Lg < It ∧ It ≠ G
  cov : ∀ (b : Nat) o, (b < Lg ∨ b = G) → s₀.heap.get? b = some o → h₀.get? b = some o ∨ (b, o) ∈ others
  st : ∃ h tk, s = { s₀ with heap := h, toks := tk }
  pins : Pins m [(Str.ofString "addr", .str x t), (Str.ofString "escape", .bool e), (Str.ofString "pos", .int (p : Int) tp)]
theorem kpt_of {h₀ : Heap} {Lg G : Nat} {s₀ s' : Shared} {others l : List (Addr × Obj)} {m : Str → Option Value} (cov : ∀ (b : Nat) o, (b < Lg ∨ b = G) → s₀.heap.get? b = some o → h₀.get? b = some o ∨ (b, o) ∈ others)
    (st : ∃ h tk, s' = { s₀ with heap := h, toks := tk }) (F : Fr h₀ Lg s'.heap m) (N : News h₀ Lg s'.heap l) (hs : ∀ q ∈ others, q ∈ l) : Kpt Lg G s₀ s' :=
  ⟨st, fun b o hb e => by
    rcases cov b o hb e with h | h
    · exact F.keep b o h
    · exact (N _ (hs _ h)).1⟩
theorem items_at {pre r its : List (Nat × List Nat)} {q : Nat × List Nat} (e : its = pre ++ q :: r) : its[its.length - (r.length + 1)]? = some q ∧ r.length + 1 ≤ its.length := by
  subst e
  have h : (pre ++ q :: r).length - (r.length + 1) = pre.length := by simp
  rw [h]
  exact ⟨by simp, by simp⟩
theorem drop_at {x : Str} {i c : Nat} (h : x.cps[i]? = some c) : x.cps.toList.drop i = c :: x.cps.toList.drop (i + 1) ∧ i + 1 ≤ x.cps.size := by
  obtain ⟨hi, rfl⟩ := Array.getElem?_eq_some_iff.mp h
  refine ⟨?_, hi⟩
  rw [List.drop_eq_getElem_cons (by simpa using hi)]
  simp
theorem gy_tell {h₀ : Heap} {Lg G E It T : Nat} {its r pre : List (Nat × List Nat)} {s₀ s' : Shared} {p : Nat} {cs : List Nat} {tp ts : Tok} {nT : Nat} {oE oI : Obj} {others l : List (Addr × Obj)} {m : Str → Option Value} {kap : Resume → Shared → Prop}
    (he : its = pre ++ (p, cs) :: r) (cov : ∀ (b : Nat) o, (b < Lg ∨ b = G) → s₀.heap.get? b = some o → h₀.get? b = some o ∨ (b, o) ∈ others) (st : ∃ h tk, s' = { s₀ with heap := h, toks := tk }) (F : Fr h₀ Lg s'.heap m)
    (N : News h₀ Lg s'.heap ((T, pairT p cs tp ts nT) :: l)) (hl : ∀ q ∈ others, q ∈ l) (h1 : (E, oE) ∈ l) (h2 : (It, oI) ∈ l) (hG : Lg ≠ G) (hT : ∀ q ∈ l, @LT.lt Nat _ q.1 T) (hLT : Lg < T) (hGT : G ≠ T) (hE : Lg < E ∧ E ≠ G) (hI : Lg < It ∧ It ≠ G)
    (hg0 : h₀.get? G = none) (k : ∀ s'' others', (∀ q ∈ others', q.1 < Lg ∨ q.1 = G) → (∃ o, (G, o) ∈ others') → (∀ (b : Nat) o, (b < Lg ∨ b = G) → s''.heap.get? b = some o → h₀.get? b = some o ∨ (b, o) ∈ others') → Fr h₀ Lg s''.heap m → News h₀ Lg s''.heap ((E, oE) :: (It, oI) :: others') → kap (.send .none) s'') :
    GY h₀ Lg G its r.length s₀ (.ref T) s' kap := by
  obtain ⟨oL, hoL, hF⟩ := fr_at F
  obtain ⟨hi1, hi2⟩ := items_at he
  refine ⟨p, cs, T, [(Lg, oL), (E, oE), (It, oI)], tp, ts, nT, hi1, hi2, rfl, kpt_of cov st F N (fun q hq => .tail _ (hl q hq)), (N _ (.head _)).1, hLT, fun e => hGT e.symm, ?_, fun s'' hk hg hh => ?_⟩
  · intro q hq
    rcases List.mem_cons.mp hq with rfl | hq
    · exact ⟨hoL, Nat.le_refl _, hG, Nat.ne_of_lt hLT⟩
    · rcases List.mem_cons.mp hq with rfl | hq
      · exact ⟨(N _ (.tail _ h1)).1, Nat.le_of_lt hE.1, hE.2, Nat.ne_of_lt (hT _ h1)⟩
      · rcases List.mem_cons.mp hq with rfl | hq
        · exact ⟨(N _ (.tail _ h2)).1, Nat.le_of_lt hI.1, hI.2, Nat.ne_of_lt (hT _ h2)⟩
        · exact nomatch hq
  · obtain ⟨others', No, ho, hc⟩ := others_of (h₀ := h₀) (h := s''.heap) (G := G) hk hG
    obtain ⟨og, hog⟩ := hg
    refine k s'' others' ho ⟨og, (hc G og (.inr rfl) hog).resolve_left (by rw [hg0]; exact nofun)⟩ hc (hF _ (hh _ (.head _)) hk) ?_
    refine news_cons ⟨hh _ (.tail _ (.head _)), (N _ (.tail _ h1)).2⟩ (news_cons ⟨hh _ (.tail _ (.tail _ (.head _))), (N _ (.tail _ h2)).2⟩ No)
noncomputable def GIx (h₀ : Heap) (Lg G E It : Nat) (x : Str) (t : Tok) (its : List (Nat × List Nat)) (k n : Nat) (s₀ s : Shared) : Prop := ∃ i p e tp m oE oI others, k = x.cps.size - i ∧ GI h₀ Lg G E It x t its n s₀ s i p e tp m oE oI others
theorem gi_mk {h₀ : Heap} {Lg G E It : Nat} {x : Str} {t : Tok} {its pre : List (Nat × List Nat)} {n : Nat} {s₀ s : Shared} {m : Str → Option Value} {oE oI : Obj} {others : List (Addr × Obj)} (i p : Nat) (e : Bool) (tp : Tok) (F : Fr h₀ Lg s.heap m) (N : News h₀ Lg s.heap ((E, oE) :: (It, oI) :: others))
    (pins : Pins m [(Str.ofString "addr", .str x t), (Str.ofString "escape", .bool e), (Str.ofString "pos", .int (p : Int) tp)]) (en : ESo oE oI It x t i) (hn : n = (items i e (x.cps.toList.drop i)).length) (hpre : its = pre ++ items i e (x.cps.toList.drop i)) (le : i ≤ x.cps.size) (hp : e = true → p + 1 = i)
    (off : ∀ q ∈ others, q.1 < Lg ∨ q.1 = G) (hasG : ∃ o, (G, o) ∈ others) (eE : Lg < E ∧ E ≠ G) (eI : Lg < It ∧ It ≠ G) (cov : ∀ (b : Nat) o, (b < Lg ∨ b = G) → s₀.heap.get? b = some o → h₀.get? b = some o ∨ (b, o) ∈ others) (st : ∃ h tk, s = { s₀ with heap := h, toks := tk }) :
    GIx h₀ Lg G E It x t its (x.cps.size - i) n s₀ s := ⟨i, p, e, tp, m, oE, oI, others, rfl, ⟨hn, ⟨pre, hpre⟩, le, hp, F, N, en, off, hasG, eE, eI, cov, st, pins⟩⟩
theorem gy_tell0 {h₀ : Heap} {Lg G T : Nat} {its pre : List (Nat × List Nat)} {s₀ s' : Shared} {p : Nat} {cs : List Nat} {tp ts : Tok} {nT : Nat} {others : List (Addr × Obj)} {m : Str → Option Value} {kap : Resume → Shared → Prop}
    (he : its = pre ++ [(p, cs)]) (cov : ∀ (b : Nat) o, (b < Lg ∨ b = G) → s₀.heap.get? b = some o → h₀.get? b = some o ∨ (b, o) ∈ others) (st : ∃ h tk, s' = { s₀ with heap := h, toks := tk }) (F : Fr h₀ Lg s'.heap m)
    (N : News h₀ Lg s'.heap ((T, pairT p cs tp ts nT) :: others)) (hG : Lg ≠ G) (hLT : Lg < T) (hGT : G ≠ T)
    (k : ∀ s'' others', (∀ (b : Nat) o, (b < Lg ∨ b = G) → s''.heap.get? b = some o → h₀.get? b = some o ∨ (b, o) ∈ others') → Fr h₀ Lg s''.heap m → News h₀ Lg s''.heap others' → kap (.send .none) s'') :
    GY h₀ Lg G its 0 s₀ (.ref T) s' kap := by
  obtain ⟨oL, hoL, hF⟩ := fr_at F
  obtain ⟨hi1, hi2⟩ := items_at (r := []) he
  refine ⟨p, cs, T, [(Lg, oL)], tp, ts, nT, hi1, hi2, rfl, kpt_of cov st F N (fun q hq => .tail _ hq), (N _ (.head _)).1, hLT, fun e => hGT e.symm, ?_, fun s'' hk hg hh => ?_⟩
  · intro q hq
    rcases List.mem_cons.mp hq with rfl | hq
    · exact ⟨hoL, Nat.le_refl _, hG, Nat.ne_of_lt hLT⟩
    · exact nomatch hq
  · obtain ⟨others', No, ho, hc⟩ := others_of (h₀ := h₀) (h := s''.heap) (G := G) hk hG
    exact k s'' others' hc (hF _ (hh _ (.head _)) hk) No
end
section
open PySem PySem.W PyProof.Rows PySem.Calls
theorem words_KGe : PySem.Challenge.rw_nb0300_01.row.prog = PySem.Challenge.rw_nb0300_01.row.prog → hd.heap_1 = hd.heap_1 → True := by
  k_with_none
  k_fill
  k_with "k_mem" => first | exact memH0 | exact memH1 | exact memH2 | exact memH3 | exact memH4 | exact memH5 | exact memH6 | exact memH7 | exact memH8 | exact memH9 | exact memH10 | exact memH11 | exact memH12 | exact memH13 | exact memH14 | exact memH15 | exact memH16 | (with_reducible assumption) | (refine memT1 ?_; with_reducible assumption) | (refine memT2 ?_; with_reducible assumption) | (refine memT3 ?_; with_reducible assumption) | (refine memT4 ?_; with_reducible assumption) | (refine memT5 ?_; with_reducible assumption) | (refine memT6 ?_; with_reducible assumption) | (refine memT7 ?_; with_reducible assumption) | (refine memT8 ?_; with_reducible assumption) | (refine memT9 ?_; with_reducible assumption) | (refine memT10 ?_; with_reducible assumption) | (refine memT11 ?_; with_reducible assumption) | (refine memT12 ?_; with_reducible assumption) | (refine memT13 ?_; with_reducible assumption) | (refine memT14 ?_; with_reducible assumption) | (refine memT15 ?_; with_reducible assumption) | (refine memT16 ?_; with_reducible assumption) | (refine memT17 ?_; with_reducible assumption)
  k_with "k_upd" => first | (refine' upd0 ?a ?b; (case a => with_reducible assumption); (case b => k_dflt exact rfl)) | (refine' upd1 ?a ?b; (case a => with_reducible assumption); (case b => k_dflt exact rfl)) | (refine' upd2 ?a ?b; (case a => with_reducible assumption); (case b => k_dflt exact rfl)) | (refine' upd3 ?a ?b; (case a => with_reducible assumption); (case b => k_dflt exact rfl)) | (refine' upd4 ?a ?b; (case a => with_reducible assumption); (case b => k_dflt exact rfl)) | (refine' upd5 ?a ?b; (case a => with_reducible assumption); (case b => k_dflt exact rfl)) | (refine' upd6 ?a ?b; (case a => with_reducible assumption); (case b => k_dflt exact rfl)) | (refine' upd7 ?a ?b; (case a => with_reducible assumption); (case b => k_dflt exact rfl)) | (refine' upd8 ?a ?b; (case a => with_reducible assumption); (case b => k_dflt exact rfl)) | (refine' upd9 ?a ?b; (case a => with_reducible assumption); (case b => k_dflt exact rfl)) | (refine' upd10 ?a ?b; (case a => with_reducible assumption); (case b => k_dflt exact rfl)) | (refine' upd11 ?a ?b; (case a => with_reducible assumption); (case b => k_dflt exact rfl)) | (refine' upd12 ?a ?b; (case a => with_reducible assumption); (case b => k_dflt exact rfl)) | (refine' upd13 ?a ?b; (case a => with_reducible assumption); (case b => k_dflt exact rfl))
  k_with "k_updF" => first | (refine' updF0 ?a ?b; (case a => with_reducible assumption); (case b => k_dflt exact rfl)) | (refine' updF1 ?a ?b; (case a => with_reducible assumption); (case b => k_dflt exact rfl)) | (refine' updF2 ?a ?b; (case a => with_reducible assumption); (case b => k_dflt exact rfl)) | (refine' updF3 ?a ?b; (case a => with_reducible assumption); (case b => k_dflt exact rfl)) | (refine' updF4 ?a ?b; (case a => with_reducible assumption); (case b => k_dflt exact rfl)) | (refine' updF5 ?a ?b; (case a => with_reducible assumption); (case b => k_dflt exact rfl)) | (refine' updF6 ?a ?b; (case a => with_reducible assumption); (case b => k_dflt exact rfl)) | (refine' updF7 ?a ?b; (case a => with_reducible assumption); (case b => k_dflt exact rfl)) | (refine' updF8 ?a ?b; (case a => with_reducible assumption); (case b => k_dflt exact rfl)) | (refine' updF9 ?a ?b; (case a => with_reducible assumption); (case b => k_dflt exact rfl)) | (refine' updF10 ?a ?b; (case a => with_reducible assumption); (case b => k_dflt exact rfl)) | (refine' updF11 ?a ?b; (case a => with_reducible assumption); (case b => k_dflt exact rfl)) | (refine' updF12 ?a ?b; (case a => with_reducible assumption); (case b => k_dflt exact rfl)) | (refine' updF13 ?a ?b; (case a => with_reducible assumption); (case b => k_dflt exact rfl))
  k_with "cx" => exact CxA.le (by with_reducible assumption) (by decide)
  k_with "go" => repeat' (first
    | (k_unfold; (try dsimp only))
    | ((fail_if_success (with_reducible show wpAny _ _ (PySem.exec (PySem.Stmt.For _ _ _ _ _) _) _ _ _)); (fail_if_success (with_reducible show wpAny _ _ (PySem.exec (PySem.Stmt.While _ _ _ _) _) _ _ _)); (fail_if_success (with_reducible show wpAny _ _ (pyIter _) _ _ _)); (fail_if_success (with_reducible show wpAny _ _ (subscriptTail _ (PySem.Expr.Slice _ _ _ _) (Value.ref _) _) _ _ _)); first | walk1 | (dsimp only; walk1))
    | fail "no step")
  k_with "goJ" => repeat' (first
    | (k_unfold; (try dsimp only))
    | ((fail_if_success (with_reducible show wpAny _ _ (PySem.execs (PySem.Stmt.If _ _ (_ :: _) _ :: _) _) _ _ _)); (fail_if_success (with_reducible show wpAny _ _ (PySem.execs (PySem.Stmt.If (PySem.Expr.Attribute _ (PySem.Str.ofString "_data") _) _ _ _ :: _) _) _ _ _)); first | walk1 | (dsimp only; walk1))
    | fail "no step")
  k_with "goL" => repeat' (first
    | (k_unfold; (try dsimp only))
    | ((fail_if_success (with_reducible show wpAny _ _ (PySem.eval (PySem.Expr.ListComp _ _ _ _) _) _ _ _)); first | walk1 | (dsimp only; walk1))
    | fail "no step")
  k_with "goG" => repeat' (first
    | (k_unfold; (try dsimp only))
    | ((fail_if_success (with_reducible show wpAny _ _ (PySem.call (Value.builtin _) _) _ _ _)); first | walk1 | (dsimp only; walk1))
    | fail "no step")
  k_with "execs cons" => (try dsimp only); first | (with_reducible refine execs_one ?_) | (with_reducible refine execsS ?_)
  k_with "execs nil" => with_reducible refine wpAny_execs_nil ?_
  k_with "tpos" => (try dsimp only); first | exact Nat.succ_pos _ | assumption | (first | lia | omega)
  k_with "QS" => (try dsimp only); first | ((with_reducible refine QS_next (by first | exact Nat.succ_pos _ | assumption | (first | lia | omega)) ?_); intro tk htk) | ((with_reducible refine QS_any ?_); intro tk) | (with_reducible refine QS_ret ?_) | (with_reducible refine QS_brk ?_) | (with_reducible refine QS_cont ?_)
  k_with "QF" => (first | (with_reducible refine QF_ret (by k_asm) (by k_asm) ?_) | (with_reducible refine QF_next (by k_asm) (by k_asm) ?_)); intro kF kN
  k_with "storeName" => k_here; k_dflt (refine' storeP ?F ?N ?_ ?a ?b; (case F => k_asm); (case N => k_asm); (case a => rfl); (case b => rfl); k_whole); intro h' F' N'; (try k_sweep)
  k_with "eval Attribute Name" => k_here; (with_reducible show wpAny _ _ (eval (PySem.Expr.Attribute (PySem.Expr.Name (PySem.Str.ofString "self") _) _ _) (envOf _ _ _ _ _)) _ _ _); k_dflt (refine' attrR ?F ?X ?N ?s ?h1 ?h2 (attr_ok _ _ ?ok) ?hl ?hv ?_ ?hk ?hx; (case F => k_asm); (case X => k_asm); (case N => k_asm); (case s => exact rfl); (case h1 => k_mem); (case h2 => k_mem); (case ok => exact rfl); (case hl => k_get); (case hv => k_handed); (case hk => exact rfl); (case hx => exact rfl); k_whole); (try dsimp only)
  k_with "call builtin:list.append" => k_here; (with_reducible show wpAny _ _ (call (Value.builtin _) [Value.ref _, _]) _ _ _); k_dflt (refine' append_L ?k1 ?k2 ?k3 ?z ?_; (case k1 => k_asm); (case k2 => k_asm); (case k3 => k_upd); (case z => first | exact n_le (by with_reducible assumption) rfl | (first | lia | omega) | (simp only [strValues, List.length_map, List.length_append, List.length_cons, List.length_nil]; (first | lia | omega))); k_whole); intro h' F' N'; (try k_sweep)
  k_with "call builtin:str.replace" => (with_reducible show wpAny _ _ (call (Value.builtin "str.replace") [Value.str _ _, Value.str _ _, Value.str _ _]) _ _ _); k_dflt (refine' replace_P ?a ?b ?c ?d ?e ?_; (case a => (refine ltN ?_; first | assumption | (first | lia | omega))); (case b => (refine ltN ?_; first | assumption | (first | lia | omega))); (case c => decide); (case d => (first | lia | omega)); (case e => decide)); intro t' k' hk'; (try dsimp only at hk')
  k_with "bound" => first | exact BndAt.ofK (by k_asm) (by k_asm) (by assumption) | exact (BndAt.of (by k_asm) (by k_mem))
  k_with "callWith" => (with_reducible show wpAny _ _ (callWith _ (Value.builtin _) (_ :: _) _ _) _ _ _); refine PyProof.Rows.callWith_method1 ?_
  k_with "callWith ref" => k_here; (with_reducible show wpAny _ _ (callWith _ (Value.ref _) _ (backTo _ (starEach (_ :: _) _)) []) _ _ _); k_dflt (refine' callWith_B ?kb ?_; (case kb => walk_at "bound"); k_whole)
  k_with "And" => (with_reducible show BndAt _ _ _ _ ∧ _); k_dflt (refine ⟨by walk_at "bound", ?_⟩); (try dsimp only [List.nil_append, List.cons_append])
  k_with "delItem ref ref" => k_here; (with_reducible show wpAny _ _ (delItem (Value.ref _) (Value.ref _)) _ _ _); k_dflt (refine' del_all ?F ?N ?U ?z ?_; (case F => k_asm); (case N => k_asm); (case U => k_updF); (case z => first | exact n_le (by with_reducible assumption) rfl | (first | lia | omega) | (simp only [strValues, List.length_map]; (first | lia | omega)))); intro h' n' F' N'; (try dsimp only at N')
  k_with "call ref" => k_here; (with_reducible show wpAny _ _ (call (Value.ref 98) [Value.ref _]) _ _ _); k_dflt (refine' join_B ?b ?l rfl ?j ?t ?_; (case b => walk_at "bound"); (case l => exact News.isList (by k_asm) (by k_mem)); (case j => assumption); (case t => ((try dsimp only); first | assumption | (first | lia | omega)))); intro t' k' hk'
  k_with "call ref" => k_here; (with_reducible show wpAny _ _ (call (Value.ref _) [Value.str _ _]) _ _ _); k_dflt (refine' append_B ?F ?N ?b ?U ?z ?_; (case F => k_asm); (case N => k_asm); (case b => k_mem); (case U => k_upd); (case z => first | exact n_le (by with_reducible assumption) rfl | (first | lia | omega) | (simp only [strValues, List.length_append, List.length_map, List.length_cons, List.length_nil]; (first | lia | omega)))); intro h' F' N'; (try dsimp only at N')
  k_with "truthy str" => (with_reducible show wpAny _ _ (PySem.truthy (Value.str _ _)) _ _ _); refine truthy_yes (by assumption) (by (first | lia | omega)) ?_
  k_with "binaryOp Add ref ref" => k_here; (with_reducible show wpAny _ _ (binaryOp _ (Value.ref _) (Value.ref _)) _ _ _); k_dflt (refine' add_L ?F ?N ?a ?b ?z ?_; (case F => k_asm); (case N => k_asm); (case a => exact News.isList (by k_asm) (by k_mem)); (case b => exact News.isList (by k_asm) (by k_mem)); (case z => (simp only [List.length_nil, List.length_cons]; (first | lia | omega)))); intro D' h' F' N' l1; (try k_lt l1); (try k_sweep)
  k_with "hh" => first | exact CxA.hh (by with_reducible assumption) | assumption
  k_with "assign Tuple" => k_here; (with_reducible show wpAny _ _ (assign (Expr.Tuple _ _ _) _ (Value.ref _)) _ _ _); k_dflt (refine' unpackN_ ?F ?N ?T ?k1 ?k2 ?k3 ?_; (case F => k_asm); (case N => k_asm); (case T => refine News.isTup (by k_asm) (by k_mem)); (case k1 => walk_at "hh"); (case k2 => exact rfl); (case k3 => exact rfl)); intro h' F' N'; (try k_sweep)
  k_with "truthy ref" => (with_reducible show wpAny _ _ (PySem.truthy (Value.ref _)) _ _ _); k_dflt (first | (refine truthy_L (b := false) (by k_asm) (by k_mem) rfl ?_ ?_) | (refine truthy_L (b := true) (by k_asm) (by k_mem) rfl ?_ ?_)); (case' refine_1 => first | exact n_le (by with_reducible assumption) rfl | (first | lia | omega) | (simp only [strValues, List.length_map, List.length_cons, List.length_nil] at *; (first | lia | omega))); skip
  k_with "call builtin:list.pop" => k_here; (with_reducible show wpAny _ _ (call (Value.builtin _) [Value.ref _]) _ _ _); k_dflt (refine' pop_L ?F ?N ?U ?z ?_; (case F => k_asm); (case N => k_asm); (case U => k_upd); (case z => first | exact n_le (by with_reducible assumption) rfl | (first | lia | omega) | (simp only [List.length_append, List.length_cons, List.length_nil]; (first | lia | omega)))); intro h' F' N'; (try dsimp only at N')
  k_with "call builtin:len" => k_here; (with_reducible show wpAny _ _ (call (Value.builtin "len") [Value.ref _]) _ _ _); k_dflt (refine' len_L ?N ?m ?z ?_; (case N => k_asm); (case m => k_mem); (case z => first | exact n_le (by with_reducible assumption) rfl | (first | lia | omega) | (simp only [strValues, List.length_map, List.length_append, List.length_cons, List.length_nil]; (first | lia | omega)))); intro t'
  k_with "sset" => first | assumption | exact sset_fresh _
  k_with "getMethod ref" => k_here; (with_reducible show wpAny _ _ (getMethod (Value.ref _) (PySem.Str.ofString "_iter_namespaces") _) _ _ _); k_dflt (refine' method_shadow ?k1 ?k2 ?k3 ?k4 ?k5 ?k6 ?k7 ?k8 ?k9 ?k10 ?k11 ?_; (case k1 => k_asm); (case k2 => k_asm); (case k3 => k_inst); (case k4 => k_is); (case k5 => k_is); (case k6 => k_is); (case k7 => k_is); (case k8 => k_is); (case k9 => k_is); (case k10 => k_get); (case k11 => k_handed); k_whole)
  k_with "getMethod ref" => (with_reducible show wpAny _ _ (getMethod (Value.ref _) (PySem.Str.ofString "_write") _) _ _ _); walk_at "last getMethod ref"
  k_with "getMethod ref" => k_here; (with_reducible show wpAny _ _ (getMethod (Value.ref _) (PySem.Str.ofString "add") _) _ _ _); k_dflt (refine' sset_method ?N ?m ?o ?b ?_; (case N => k_asm); (case m => k_mem); (case o => walk_at "sset"); (case b => decide))
  k_with "call builtin:set.add" => k_here; (with_reducible show wpAny _ _ (call (Value.builtin _) [Value.ref _, Value.str _ _]) _ _ _); k_dflt (refine' sset_add ?F ?N ?U ?o ?b ?_; (case F => k_asm); (case N => k_asm); (case U => k_updF); (case o => walk_at "sset"); (case b => decide)); intro h' so' F' N' hS'; (try dsimp only at N')
  k_with "compareOp NotIn str ref" => k_here; (with_reducible show wpAny _ _ (compareOp _ (Value.str _ _) (Value.ref _)) _ _ _); k_dflt (refine' sset_notin ?N ?m ?o ?b ?_; (case N => k_asm); (case m => k_mem); (case o => walk_at "sset"); (case b => first | decide | (split <;> decide)))
  k_with "compareOp In str ref" => k_here; (with_reducible show wpAny _ _ (compareOp _ (Value.str _ _) (Value.ref _)) _ _ _); k_dflt (refine' sset_in ?N ?m ?o ?b ?_; (case N => k_asm); (case m => k_mem); (case o => walk_at "sset"); (case b => first | decide | (split <;> decide)))
  intros
  trivial
theorem gen_spec : ∀ {w : World} {p : Program} {loose : List Str} {mean : ExcName → Option Value} {mg mb : Str → Option Value} {A : Around} {env : Env} {outer : List Env} {base h₀ : Heap} {L : Addr} {m : Str → Option Value} {s : Shared} {Q : Value → Shared → Prop} {news : List (Addr × Obj)} {x : Str} {t : Tok}
    (_ : CxA 2 w p loose mean mg mb A env outer base h₀ L) (_ : Fr h₀ L s.heap m)
    (_ : News h₀ L s.heap news)
    (_ : x.length ≤ 100000)
    (_ : ∀ (Lg G : Nat) gs oL oG h' tk', Fr h₀ L h' m → News h₀ L h' ((G, oG) :: (Lg, oL) :: news) → (∀ q ∈ news, @LT.lt Nat _ q.1 Lg) → Lg < G → @LT.lt Nat _ L Lg → h'.IsGen G s.gens.size → gs.bare = true → GSt PySem.Challenge.rw_nb0300_01.row.prog w A h₀ Lg G (items 0 false x.cps.toList) [(Lg, oL)] 0 gs → Q (.ref G) { s with heap := h', toks := tk', gens := s.gens.push gs }),
    wpAny (model PySem.Challenge.rw_nb0300_01.row.prog w) A (call (.ref 175) [.str x t]) Q Nay s := by
  intro w p loose mean mg mb A env outer base h₀ L m s Q news x t c F N hx hret
  have X := c.X
  have T := c.T
  have hhA := c.hh
  (k_with "goE" => repeat' (first
    | (k_unfold; (try dsimp only))
    | ((fail_if_success (with_reducible show wpAny _ _ (PySem.call (Value.type _) _) _ _ _)); first | walk1 | (dsimp only; walk1))
    | fail "no step"))
  refine gen_mk (binds := [(Str.ofString "addr", Value.str x t)]) (items 0 false x.cps.toList) F c.X N c.T.nolimit (by exact rfl) (by k_is) (by have := c.hd; (first | lia | omega)) (BindsTo.of_eq rfl) (by exact locs rfl) rfl rfl rfl (by decide) ?_ hret
  clear hret N F s
  intro Lg G s hLLg hLG hgG F
  have hg0 : h₀.get? G = none := Heap.get?_none_of_le (Nat.le_trans F.above (Nat.le_of_lt hLG))
  replace F : Fr h₀ Lg s.heap (pinned nom [(Str.ofString "addr", .str x t)]) := lk_fr F
  obtain ⟨others, N0, hob, hcov⟩ := others_of (h₀ := h₀) (h := s.heap) (G := G) F.keep (Nat.ne_of_lt hLG)
  refine seg_execs_cons (seg_stmt ?_)
  walk_at "go"
  refine seg_execs_cons (seg_stmt ?_)
  walk_at "go"
  refine seg_execs_cons (seg_For ?_)
  walk_at "goE"
  refine call_enumerate_str fun h1 he hI hsz hkp => ?_
  refine wpAny_pyIter_enum he ?_
  intro pp
  generalize hE : s.heap.objs.size = sz at *
  obtain ⟨oI, hI0, hI1, hI2⟩ := hI
  have hasG : ∃ o, (G, o) ∈ others := by
    obtain ⟨o, ho⟩ := hgG
    exact ⟨o, (hcov G o (.inr rfl) ho).resolve_left (by rw [hg0]; exact nofun)⟩
  have hGlt : @LT.lt Nat _ G h'.objs.size := by
    obtain ⟨o, ho⟩ := hasG
    exact Heap.lt_size (N' _ ho).1
  have hL0 : h₀.objs.size ≤ Lg := F'.above
  refine seg_ind (I := GIx h₀ Lg G (h'.objs.size + 1) h'.objs.size x t (items 0 false x.cps.toList)) ?step (k := x.cps.size - 0) ?init
  case init =>
    exact gi_mk (pre := []) (oE := { cls := .type "enumerate", data := .fields #[.none, .bool false, .ref h'.objs.size, rawInt ((0 : Nat) : Int), .none, .none] }) 0 0 false s.toks (F'.keeps hkp) (news_cons ⟨he, Nat.ne_of_gt (Nat.lt_succ_of_lt (Nat.lt_trans hLG hGlt)), Heap.get?_none_of_le (Nat.le_trans hL0 (Nat.le_of_lt (Nat.lt_succ_of_lt (Nat.lt_trans hLG hGlt))))⟩ (news_cons ⟨hI0, Nat.ne_of_gt (Nat.lt_trans hLG hGlt), Heap.get?_none_of_le (Nat.le_trans hL0 (Nat.le_of_lt (Nat.lt_trans hLG hGlt)))⟩ fun q hq => ⟨hkp _ _ (N' q hq).1, (N' q hq).2⟩))
      ⟨rfl, rfl, rfl, trivial⟩ ⟨⟨_, rfl⟩, hI1, hI2⟩ rfl rfl (Nat.zero_le _) nofun hob hasG ⟨Nat.lt_succ_of_lt (Nat.lt_trans hLG hGlt), Nat.ne_of_gt (Nat.lt_succ_of_lt hGlt)⟩ ⟨Nat.lt_trans hLG hGlt, Nat.ne_of_gt hGlt⟩ hcov ⟨_, _, rfl⟩
  case step =>
    generalize h'.objs.size = sz
    clear hgG hasG hcov hob he hsz hkp hI0 hI1 hI2 N' F' hGlt
    rintro k ih n s₀ s ⟨i, p, e, tp, m, oE, oI, others, rfl, gi⟩
    obtain ⟨rfl, ⟨pre, hpre⟩, hle, hpos, F, N, hen, hoff, hasG, hE, hI, hcov, ⟨hh, tkk, rfl⟩, hpins⟩ := gi
    refine seg_enum hhA F N hen (Nat.succ_ne_self _) (fun q hq => ?off) hle ?item ?done
    case off => exact (hoff q hq).elim (fun h => ⟨Nat.ne_of_lt (Nat.lt_trans h hE.1), Nat.ne_of_lt (Nat.lt_trans h hI.1)⟩) fun h => ⟨h ▸ hE.2.symm, h ▸ hI.2.symm⟩
    case item =>
      intro c T h' tk tp2 ts oE' oI' hc hen' hTb F' N'
      have hgT : ∀ q ∈ ((sz + 1, oE') :: (sz, oI') :: others), @LT.lt Nat _ q.1 T := fun q hq => by
        rcases List.mem_cons.mp hq with rfl | hq
        · exact hTb _ _ (N _ (.head _)).1
        · rcases List.mem_cons.mp hq with rfl | hq
          · exact hTb _ _ (N _ (.tail _ (.head _))).1
          · exact hTb _ _ (N _ (.tail _ (.tail _ hq))).1
      have hGT : @LT.lt Nat _ G T := by
        obtain ⟨o, ho⟩ := hasG
        exact hgT _ (.tail _ (.tail _ ho))
      replace F' := fr_pinsP F' hpins
      obtain ⟨hdr, hi1⟩ := drop_at hc
      rw [hdr] at hpre ⊢
      walk_at "go"
      refine seg_execs_cons (seg_If ?_)
      cases e
      · walk_at "go"
        refine seg_execs_cons (seg_If ?_)
        by_cases h92 : c = 92
        · subst h92
          walk_at "go"
          refine seg_execs_cons (seg_stmt ?_)
          walk_at "go"
          refine seg_execs_nil ?_
          refine seg_execs_nil ?_
          refine seg_again rfl ?_
          have e1 : items i false (92 :: List.drop (i + 1) x.cps.toList) = items (i + 1) true (List.drop (i + 1) x.cps.toList) := rfl
          rw [e1] at hpre ⊢
          exact ih _ (n_sub hi1) _ _ _ (gi_mk (i + 1) i true tp2 F' (News.sub N' fun q hq => .tail _ hq) ⟨rfl, rfl, rfl, trivial⟩ hen' rfl hpre hi1 (fun _ => rfl) hoff hasG hE hI hcov ⟨_, _, rfl⟩)
        · have hq92 : ((⟨#[c]⟩ : Str) == Str.ofString "\\") = false := beq_eq_false_iff_ne.mpr fun e => h92 (by
            have e2 : Str.ofString "\\" = ⟨#[92]⟩ := by decide
            rw [e2] at e
            simpa using e)
          walk_at "go"
          have e1 : items i false (c :: List.drop (i + 1) x.cps.toList) = (i, [c]) :: items (i + 1) false (List.drop (i + 1) x.cps.toList) := by simp [items, h92]
          rw [e1] at hpre ⊢
          refine seg_execs_cons ?_
          refine seg_Expr_Yield rfl rfl rfl ?_
          walk_at "go"
          rename_i D2 h2 F2 N2 l2 kap hk2
          refine gy_tell (pre := pre) hpre hcov ⟨_, _, rfl⟩ F2 N2 (fun q hq => .tail _ (.tail _ (.tail _ hq))) (.tail _ (.head _)) (.tail _ (.tail _ (.head _))) (Nat.ne_of_lt hLG) (lt_of_all (l := _ :: _ :: _ :: others) l2) (Nat.lt_trans hLG (Nat.lt_trans hGT l2.1)) (Nat.ne_of_lt (Nat.lt_trans hGT l2.1)) hE hI hg0 ?_
          intro s3 oth3 ho3 hg3 hc3 F3 N3
          refine hk2 .none s3 ?_
          dsimp only
          refine seg_execs_nil ?_
          refine seg_execs_nil ?_
          refine seg_again rfl ?_
          exact ih _ (n_sub hi1) _ _ _ (gi_mk (pre := pre ++ [(i, [c])]) (i + 1) i false tp2 F3 N3 ⟨rfl, rfl, rfl, trivial⟩ hen' rfl (by rw [hpre]; simp) hi1 nofun ho3 hg3 hE hI hc3 ⟨_, _, rfl⟩)
      · walk_at "go"
        have e1 : items i true (c :: List.drop (i + 1) x.cps.toList) = (i, [92, c]) :: items (i + 1) false (List.drop (i + 1) x.cps.toList) := rfl
        rw [e1] at hpre ⊢
        refine seg_execs_cons ?_
        refine seg_Expr_Yield rfl rfl rfl ?_
        walk_at "go"
        rename_i D2 h2 F2 N2 l2 kap hk2
        rw [bs_app] at N2
        refine gy_tell (pre := pre) hpre hcov ⟨_, _, rfl⟩ F2 N2 (fun q hq => .tail _ (.tail _ (.tail _ hq))) (.tail _ (.head _)) (.tail _ (.tail _ (.head _))) (Nat.ne_of_lt hLG) (lt_of_all (l := _ :: _ :: _ :: others) l2) (Nat.lt_trans hLG (Nat.lt_trans hGT l2.1)) (Nat.ne_of_lt (Nat.lt_trans hGT l2.1)) hE hI hg0 ?_
        intro s3 oth3 ho3 hg3 hc3 F3 N3
        refine hk2 .none s3 ?_
        dsimp only
        clear hk2 F2 N2
        refine seg_execs_cons (seg_stmt ?_)
        walk_at "go"
        refine seg_execs_nil ?_
        refine seg_execs_nil ?_
        refine seg_again rfl ?_
        exact ih _ (n_sub hi1) _ _ _ (gi_mk (pre := pre ++ [(i, [92, c])]) (i + 1) i false tp2 F' N' ⟨rfl, rfl, rfl, trivial⟩ hen' rfl (by rw [hpre]; simp) hi1 nofun ho3 hg3 hE hI hc3 ⟨_, _, rfl⟩)
    case done =>
      intro h' hi' F' N'
      subst hi'
      replace F' := fr_pinsP F' hpins
      have e0 : x.cps.toList.drop x.cps.size = [] := by simp
      rw [e0] at hpre ⊢
      rw [forRet_next]
      dsimp only
      refine seg_execs_cons (seg_If ?_)
      cases e
      · walk_at "go"
        refine seg_execs_nil ?_
        refine seg_execs_nil ?_
        refine seg_end (.ok (.ret .none)) ⟨rfl, rfl, kpt_of hcov ⟨_, _, rfl⟩ F' N' fun q hq => hq⟩
      · walk_at "go"
        refine seg_execs_cons ?_
        refine seg_Expr_Yield rfl rfl rfl ?_
        walk_at "go"
        rename_i D2 h2 F2 N2 l2 kap hk2
        have e2 : items x.cps.size true [] = [(p, [92])] := by
          show [(x.cps.size - 1, [92])] = _
          rw [show x.cps.size - 1 = p from by rw [← hpos rfl]; rfl]
        rw [e2] at hpre
        have hGD : @LT.lt Nat _ G D2 := by
          obtain ⟨o, ho⟩ := hasG
          exact l2 _ ho
        refine gy_tell0 (pre := pre) hpre hcov ⟨_, _, rfl⟩ F2 N2 (Nat.ne_of_lt hLG) (Nat.lt_trans hLG hGD) (Nat.ne_of_lt hGD) ?_
        intro s3 oth3 hc3 F3 N3
        refine hk2 .none s3 ?_
        dsimp only
        refine seg_execs_nil ?_
        refine seg_execs_nil ?_
        refine seg_end (.ok (.ret .none)) ⟨rfl, rfl, kpt_of hc3 ⟨_, _, rfl⟩ F3 N3 fun q hq => hq⟩
end
section
open PySem PySem.W PyProof.Rows PySem.Calls
noncomputable def StJ (x : Str) (t : Tok) (D : Nat) (news : List (Addr × Obj)) (k : Nat) (m₁ : Str → Option Value) (news₁ : List (Addr × Obj)) : Prop :=  ∃ (l : List (Str × Tok)) (nD : Nat) (t1 t2 : Tok), l.map (·.1) = (SS.at x ((items 0 false x.cps.toList).take k)).res ∧ Pins m₁ [(Str.ofString "addr", .str x t), (Str.ofString "start", .int ((SS.at x ((items 0 false x.cps.toList).take k)).start : Int) t1), (Str.ofString "open_pos", match (SS.at x ((items 0 false x.cps.toList).take k)).opn with | none => .none | some o => .int (o : Int) t2), (Str.ofString "result", .ref D)] ∧ news₁ = (D, W.listOf (List.toArray (strValues l)) nD) :: news
theorem strip_spec : ∀ {w : World} {p : Program} {loose : List Str} {mean : ExcName → Option Value} {mg mb : Str → Option Value} {A : Around} {env : Env} {outer : List Env} {base h₀ : Heap} {L : Addr} {m : Str → Option Value} {s : Shared} {Q : Value → Shared → Prop} {news : List (Addr × Obj)} {x : Str} {t : Tok}
    (_ : CxA 5 w p loose mean mg mb A env outer base h₀ L) (_ : Fr h₀ L s.heap m)
    (_ : News h₀ L s.heap news)
    (_ : x.length ≤ 1000)
    (_ : AllBare s.gens)
    (_ : ∀ t' gens' h' tk', AllBare gens' → 0 < tk' → Fr h₀ L h' m → News h₀ L h' news → Q (.str (stripP x) t') { s with heap := h', toks := tk', gens := gens' }),
    wpAny (model PySem.Challenge.rw_nb0300_01.row.prog w) A (call (.ref 182) [.str x t]) Q Nay s := by
  intro w p loose mean mg mb A env outer base h₀ L m s Q news x t c F N hx hb0 hret
  have X := c.X
  k_dflt (refine' enterA (ps := [(Str.ofString "addr", .str x t)]) ?c ?F ?N ?ho ?hcd ?hb ?hps ?h0 ?hloc ?_ ?c2 ?c3 ?c4 ?c5; (case c => assumption); (case F => k_asm); (case N => k_asm); (case ho => k_is); (case hcd => k_is); (case hb => first | exact BindsTo.of_eq rfl | exact binds_K (by k_in) rfl (by k_is) rfl rfl rfl); (case hps => exact rfl); (case h0 => exact Nat.le_of_ble_eq_true rfl); (case hloc => exact locs rfl); (case c2 => exact rfl); (case c3 => exact rfl); (case c4 => exact rfl); (case c5 => decide); k_whole)
  intro A1 g1 L1 h1' tk0 htk0 c1 X1 FG1 F1 N1
  have T1 := c1.T
  have hn := @nd_nil news
  (k_with "call builtin:list.append" => (with_reducible show wpAny _ _ (call (Value.builtin _) (HAppend.hAppend _ _)) _ _ _); dsimp only [List.cons_append, List.nil_append])
  (k_with "goR" => repeat' (first
    | (k_unfold; (try dsimp only))
    | ((fail_if_success (with_reducible show wpAny _ _ (PySem.call (Value.ref _) _ _) _ _ _)); (fail_if_success (with_reducible show wpAny _ _ (PySem.exec (PySem.Stmt.For _ _ _ _ _) _) _ _ _)); first | walk1 | (dsimp only; walk1))
    | fail "no step"))
  have hfo : (Builtin.Str.occurrences x (Str.ofString "\"") 0 x.length 1).isEmpty = !decide (34 ∈ x.cps.toList) := by
    have e1 : Str.ofString "\"" = ⟨#[34]⟩ := by decide
    have h1 := StrLaws.found_one x 34
    rw [e1, ← h1, Bool.not_not]
  walk_at "goR"
  · have hoc := ‹(Builtin.Str.occurrences x (Str.ofString "\"") 0 x.length 1).isEmpty = true›
    have hst : stripP x = x := by
      unfold stripP
      rw [hoc] at hfo
      rw [if_neg (by simpa using hfo)]
    rw [hst] at hret
    exact hret _ _ _ _ (by assumption) (by walk_at "tpos") kF kN
  · rename_i D h9 hD1
    have hoc := ‹(Builtin.Str.occurrences x (Str.ofString "\"") 0 x.length 1).isEmpty = false›
    have h34 : 34 ∈ x.cps.toList := by
      rw [hoc] at hfo
      simpa using hfo
    have hst : stripP x = (SS.at x (items 0 false x.cps.toList)).fin x := by unfold stripP; rw [if_pos h34]
    rw [hst] at hret
    refine For_go ?_
    walk_at "goR"
    k_dflt (refine' wpAny_with_toks (n := 1) ?t (ok_any (gen_spec ?c ?F ?N ?z ?_)); (case t => walk_at "tpos"); (case F => k_asm); (case N => k_asm); (case c => walk_at "cx"); (case z => exact Nat.le_trans hx (Nat.le_of_ble_eq_true rfl)))
    intro Lg G gs oL oG h3 tk3 F3 N3 hltG hLG hLLg hIs hbs hst3 htk3
    have hDLg : @LT.lt Nat _ D Lg := hltG _ (.head _)
    refine for_gen (its := items 0 false x.cps.toList) (m := _) (StJ x t D news) c1.hh ?room T1.nolimit F3 N3 ?j0 ?hlt hLLg hLG hIs ?gg hst3 htk3 ?ab ?turn ?done
    case room => (have := c1.hd; (first | lia | omega))
    case j0 => exact ⟨[], 0, _, 0, rfl, ⟨rfl, rfl, rfl, rfl, trivial⟩, rfl⟩
    case hlt =>
      rintro i m₁ _ ⟨l, nD, t1, t2, _, _, rfl⟩ q hq
      rcases List.mem_cons.mp hq with rfl | hq
      · exact hDLg
      · exact hltG q (.tail _ hq)
    case gg => simp
    case ab => exact AllBare.push hb0 hbs
    case turn =>
      clear hret hst3 N3 F3 hoc hfo
      rintro i p cs9 m₁ _ h tk gens T tp ts nT tl hit ⟨l, nD, t1, t2, hl, hp, rfl⟩ htk hbg htl htT hLT F4 N4
      replace F4 := fr_pinsP F4 hp
      have hok := ss_take_ok x i
      have hpp : p ≤ x.length := by
        have := items_pos x.cps.toList 0 false _ (List.mem_of_getElem? hit)
        have hl : x.cps.toList.length = x.length := by simp [Str.length]
        (first | lia | omega)
      have hS1 := ss_take (x := x) hit
      rw [List.cons_append] at N4
      have hDT : @Ne Nat D T := Nat.ne_of_lt (Nat.lt_trans hDLg hLT)
      have hDtl : ∀ q ∈ news ++ tl, q.1 ≠ D := fun q hq => (List.mem_append.mp hq).elim (fun h => nd_ne hD1 (.head _) q h) fun h => Nat.ne_of_gt (Nat.lt_of_lt_of_le hDLg (htl q h))
      have hTtl : ∀ q ∈ news ++ tl, q.1 ≠ T := fun q hq => (List.mem_append.mp hq).elim (fun h => Nat.ne_of_lt (Nat.lt_trans (hltG q (.tail _ h)) hLT)) fun h => htT q h
      have hq9 : Nd [T, D] (news ++ tl) := nd_newN (nd_newN nd_nil rfl hDtl) rfl (led := (D, W.listOf #[] 0) :: (news ++ tl)) fun q hq => (List.mem_cons.mp hq).elim (fun e => e ▸ hDT) fun h => hTtl q h
      unfold StJ
      rw [hS1]
      generalize SS.at x ((items 0 false x.cps.toList).take i) = S at *
      obtain ⟨st, op, res⟩ := S
      obtain ⟨ok1, ok2, ok3, ok4⟩ := hok
      dsimp only at *
      have hll : l.length ≤ 1001 := by
        have : l.length = res.length := by rw [← hl]; simp
        (first | lia | omega)
      by_cases hq : cs9 = [34]
      · subst hq
        cases op with
        | none =>
          have e1 : SS.step x ⟨st, none, res⟩ (p, [34]) = ⟨st, some p, res⟩ := by simp [SS.step]
          rw [e1]
          walk_at "go"
          ((try dsimp only); refine TurnG.mk1 (by k_asm) (by k_asm) ⟨l, _, _, _, hl, ⟨rfl, rfl, rfl, rfl, trivial⟩, rfl⟩)
        | some o =>
          have ho := ok2 o rfl
          by_cases hso : st = o
          · have e1 : SS.step x ⟨st, some o, res⟩ (p, [34]) = ⟨p + 1, none, res⟩ := by simp [SS.step, hso]
            rw [e1]
            walk_at "go"
            all_goals first
              | (exfalso; (first | lia | omega))
              | ((try dsimp only); exact TurnG.mk1 (by k_asm) (by k_asm) ⟨l, _, _, 0, hl, ⟨rfl, rfl, rfl, rfl, trivial⟩, rfl⟩)
          · have e1 : SS.step x ⟨st, some o, res⟩ (p, [34]) = ⟨p + 1, none, res ++ [Txt.slice x (some (st : Int)) (some (o : Int))]⟩ := by simp [SS.step, hso]
            rw [e1]
            walk_at "go"
            all_goals first
              | (exfalso; (first | lia | omega))
              | ((try dsimp only); exact TurnG.mk2 (by k_asm) (by k_asm) ⟨_, _, _, 0, by simp [hl], ⟨rfl, rfl, rfl, rfl, trivial⟩, rfl⟩)
      · have hq34 : ((⟨cs9.toArray⟩ : Str) == Str.ofString "\"") = false := beq_eq_false_iff_ne.mpr fun e => hq (by
          have e2 : Str.ofString "\"" = ⟨([34] : List Nat).toArray⟩ := by decide
          rw [e2] at e
          simpa using e)
        have e1 : SS.step x ⟨st, op, res⟩ (p, cs9) = ⟨st, op, res⟩ := by simp [SS.step, hq]
        rw [e1]
        walk_at "go"
        ((try dsimp only); refine TurnG.mk1 (by k_asm) (by k_asm) ⟨l, _, _, t2, hl, ⟨rfl, rfl, rfl, rfl, trivial⟩, rfl⟩)
    case done =>
      rintro m₁ _ h tk gens ⟨l, nD, t1, t2, hl, hp, rfl⟩ htk hbg F4 N4
      replace F4 := fr_pinsP F4 hp
      have hok := ss_take_ok x (items 0 false x.cps.toList).length
      rw [List.take_length] at hl hok F4
      clear hst3 N3 F3 hoc hfo
      generalize SS.at x (items 0 false x.cps.toList) = S at *
      obtain ⟨st, op, res⟩ := S
      obtain ⟨ok1, ok2, ok3, ok4⟩ := hok
      dsimp only at *
      have hll : l.length ≤ 1001 := by
        have : l.length = res.length := by rw [← hl]; simp
        (first | lia | omega)
      have hj0 : JoinOk (Str.ofString "") (l.map (·.1)) = true := by
        rw [hl]
        exact joinOk_of ok4 (Nat.le_trans (Nat.mul_le_mul ok3 (Nat.le_refl x.length)) (by have := Nat.mul_le_mul (show x.length + 1 ≤ 1001 by (first | lia | omega)) hx; (first | lia | omega)))
      have hj1 : JoinOk (Str.ofString "") (l.map (·.1) ++ [Txt.slice x (some (st : Int)) none]) = true := by
        rw [hl]
        refine joinOk_of (b := x.length) (fun y hy => ?_) ?_
        · rcases List.mem_append.mp hy with hy | hy
          · exact ok4 y hy
          · rw [List.mem_singleton.mp hy]; exact Txt.slice_le x _ _
        · have := Nat.mul_le_mul (show (res ++ [Txt.slice x (some (st : Int)) none]).length ≤ 1002 by simp; (first | lia | omega)) hx
          (first | lia | omega)
      try dsimp only
      walk_at "go"
      · refine join_L1 (by k_asm) (.head _) hj1 (by walk_at "tpos") ?_
        intro t' k' hk'
        walk_at "go"
        have e9 : SS.fin x ⟨st, op, res⟩ = Txt.join (Str.ofString "") (l.map (·.1) ++ [Txt.slice x (some (st : Int)) none]) := by
          unfold SS.fin
          rw [if_pos (by dsimp only; (first | lia | omega)), hl]
        rw [e9] at hret
        exact hret _ _ _ _ (by assumption) (by walk_at "tpos") kF (News.sub (l := _ :: news) kN fun p hp => .tail _ hp)
      · refine join_L (by k_asm) (.head _) hj0 (by walk_at "tpos") ?_
        intro t' k' hk'
        walk_at "go"
        have e9 : SS.fin x ⟨st, op, res⟩ = Txt.join (Str.ofString "") (l.map (·.1)) := by
          unfold SS.fin
          rw [if_neg (by dsimp only; (first | lia | omega)), hl]
        rw [e9] at hret
        exact hret _ _ _ _ (by assumption) (by walk_at "tpos") kF (News.sub (l := _ :: news) kN fun p hp => .tail _ hp)
end
section
open PySem PySem.W PyProof.Rows
noncomputable def ck : Nat → List (Nat × List Nat) → Bool
  | d, [] => d == 0
  | d, q :: r => if q.2 = [40] then ck (d + 1) r else if q.2 = [41] then (if d = 0 then false else ck (d - 1) r) else ck d r
theorem ck_step {its : List (Nat × List Nat)} {k d : Nat} {q : Nat × List Nat} (h : its[k]? = some q) : ck d (its.drop k) = if q.2 = [40] then ck (d + 1) (its.drop (k + 1)) else if q.2 = [41] then (if d = 0 then false else ck (d - 1) (its.drop (k + 1))) else ck d (its.drop (k + 1)) := by
  obtain ⟨hk, rfl⟩ := List.getElem?_eq_some_iff.mp h
  rw [List.drop_eq_getElem_cons hk]
  rfl
end
section
open PySem PySem.W PyProof.Rows PySem.Calls
noncomputable def ChJ (its : List (Nat × List Nat)) (news : List (Addr × Obj)) (k : Nat) (m₁ : Str → Option Value) (news₁ : List (Addr × Obj)) : Prop :=  ∃ (d : Nat) (t1 : Tok), ck 0 its = ck d (its.drop k) ∧ d ≤ k ∧ Pins m₁ [(Str.ofString "opens", .int (d : Int) t1)] ∧ news₁ = news
theorem check_spec : ∀ {w : World} {p : Program} {loose : List Str} {mean : ExcName → Option Value} {mg mb : Str → Option Value} {A : Around} {env : Env} {outer : List Env} {base h₀ : Heap} {L : Addr} {m : Str → Option Value} {s : Shared} {Q : Value → Shared → Prop} {news : List (Addr × Obj)} {x : Str} {t : Tok}
    (_ : CxA 8 w p loose mean mg mb A env outer base h₀ L) (_ : Fr h₀ L s.heap m)
    (_ : News h₀ L s.heap news)
    (_ : x.length ≤ 1000)
    (_ : (stripP x).length ≤ 1000)
    (_ : AllBare s.gens)
    (_ : ∀ gens' h' tk', AllBare gens' → 0 < tk' → Fr h₀ L h' m → News h₀ L h' news → Q (.bool (ck 0 (items 0 false (stripP x).cps.toList))) { s with heap := h', toks := tk', gens := gens' }),
    wpAny (model PySem.Challenge.rw_nb0300_01.row.prog w) A (call (.ref 189) [.str x t]) Q Nay s := by
  intro w p loose mean mg mb A env outer base h₀ L m s Q news x t c F N hx hy hb0 hret
  have X := c.X
  k_dflt (refine' enterA (ps := [(Str.ofString "addr", .str x t)]) ?c ?F ?N ?ho ?hcd ?hb ?hps ?h0 ?hloc ?_ ?c2 ?c3 ?c4 ?c5; (case c => assumption); (case F => k_asm); (case N => k_asm); (case ho => k_is); (case hcd => k_is); (case hb => first | exact BindsTo.of_eq rfl | exact binds_K (by k_in) rfl (by k_is) rfl rfl rfl); (case hps => exact rfl); (case h0 => exact Nat.le_of_ble_eq_true rfl); (case hloc => exact locs rfl); (case c2 => exact rfl); (case c3 => exact rfl); (case c4 => exact rfl); (case c5 => decide); k_whole)
  intro A1 g1 L1 h1' tk0 htk0 c1 X1 FG1 F1 N1
  have T1 := c1.T
  have hn := @nd_nil news
  (k_with "goR" => repeat' (first
    | (k_unfold; (try dsimp only))
    | ((fail_if_success (with_reducible show wpAny _ _ (PySem.call (Value.ref _) _ _) _ _ _)); (fail_if_success (with_reducible show wpAny _ _ (PySem.exec (PySem.Stmt.For _ _ _ _ _) _) _ _ _)); first | walk1 | (dsimp only; walk1))
    | fail "no step"))
  walk_at "goR"
  k_dflt (refine' strip_spec ?c ?F ?N ?z ?ab5 ?_; (case F => k_asm); (case N => k_asm); (case c => walk_at "cx"); (case z => assumption); (case ab5 => assumption))
  intro t5 gens5 h5 tk5 hb5 htk5 F5 N5
  walk_at "goR"
  refine For_go ?_
  walk_at "goR"
  k_dflt (refine' wpAny_with_toks (n := 1) ?t (ok_any (gen_spec ?c ?F ?N ?z ?_)); (case t => walk_at "tpos"); (case F => k_asm); (case N => k_asm); (case c => walk_at "cx"); (case z => exact Nat.le_trans hy (Nat.le_of_ble_eq_true rfl)))
  intro Lg G gs oL oG h3 tk3 F3 N3 hltG hLG hLLg hIs hbs hst3 htk3
  generalize hits : items 0 false (stripP x).cps.toList = its at *
  refine for_gen (its := its) (m := _) (ChJ its news) c1.hh ?room T1.nolimit F3 N3 ?j0 ?hlt hLLg hLG hIs ?gg hst3 htk3 ?ab ?turn ?done
  case room => (have := c1.hd; (first | lia | omega))
  case j0 => exact ⟨0, _, rfl, Nat.le_refl _, ⟨rfl, trivial⟩, rfl⟩
  case hlt =>
    rintro i m₁ _ ⟨d, t1, _, _, _, rfl⟩ q hq
    exact hltG q hq
  case gg => simp
  case ab => exact AllBare.push hb5 hbs
  case turn =>
    clear hst3 N3 F3
    rintro i p cs9 m₁ nw h tk gens T tp ts nT tl hit ⟨d, t1, hck, hdi, hp, rfl⟩ htk hbg htl htT hLT F4 N4
    replace F4 := fr_pinsP F4 hp
    have hi9 : i < 1001 := by
      have h1 := (List.getElem?_eq_some_iff.mp hit).1
      have h2 := items_len (stripP x).cps.toList 0 false
      have h3 : (stripP x).cps.toList.length = (stripP x).length := by simp [Str.length]
      rw [hits] at h2
      (first | lia | omega)
    rw [ck_step hit] at hck
    by_cases hq : cs9 = [40]
    · subst hq
      rw [if_pos rfl] at hck
      walk_at "go"
      (try dsimp only)
      exact TurnG.mk0 (by k_asm) (by k_asm) ⟨d + 1, _, hck, by (first | lia | omega), ⟨rfl, trivial⟩, rfl⟩
    · have hq40 : ((⟨cs9.toArray⟩ : Str) == Str.ofString "(") = false := beq_eq_false_iff_ne.mpr fun e => hq (by
        have e2 : Str.ofString "(" = ⟨([40] : List Nat).toArray⟩ := by decide
        rw [e2] at e
        simpa using e)
      rw [if_neg hq] at hck
      by_cases hq2 : cs9 = [41]
      · subst hq2
        rw [if_pos rfl] at hck
        cases d with
        | zero =>
          rw [if_pos rfl] at hck
          rw [hck] at hret
          walk_at "go"
          (try dsimp only)
          unfold TurnG
          dsimp only
          refine QS_ret (QF_ret (by k_asm) (News.sub (l := _ :: (nw ++ tl)) (by k_asm) fun p hp => .tail _ (List.mem_append_left _ hp)) fun kF kN => ?_)
          exact hret _ _ _ (by assumption) (by walk_at "tpos") kF kN
        | succ d =>
          rw [if_neg (Nat.succ_ne_zero d), Nat.succ_sub_one] at hck
          have e5 : ((d + 1 : Nat) : Int) - 1 = (d : Int) := by (first | lia | omega)
          walk_at "go"
          (try dsimp only)
          exact TurnG.mk0 (by k_asm) (by k_asm) ⟨d, _, hck, by (first | lia | omega), ⟨congrArg (fun z => some (Value.int z _)) e5, trivial⟩, rfl⟩
      · have hq41 : ((⟨cs9.toArray⟩ : Str) == Str.ofString ")") = false := beq_eq_false_iff_ne.mpr fun e => hq2 (by
          have e2 : Str.ofString ")" = ⟨([41] : List Nat).toArray⟩ := by decide
          rw [e2] at e
          simpa using e)
        rw [if_neg hq2] at hck
        walk_at "go"
        (try dsimp only)
        exact TurnG.mk0 (by k_asm) (by k_asm) ⟨d, _, hck, by (first | lia | omega), ⟨rfl, trivial⟩, rfl⟩
  case done =>
    rintro m₁ _ h tk gens ⟨d, t1, hck, hdi, hp, rfl⟩ htk hbg F4 N4
    replace F4 := fr_pinsP F4 hp
    rw [List.drop_length] at hck
    rw [hck] at hret
    try dsimp only
    have e6 : ((d : Int) == 0) = ck d [] := by cases d <;> rfl
    walk_at "go"
    rw [e6]
    exact hret _ _ _ (by assumption) (by walk_at "tpos") kF kN
end
section
open PySem PySem.W PyProof.Rows
noncomputable def par : Bool → List Nat → List Nat
  | _, [] => []
  | true, _ :: r => par false r
  | false, c :: r => if c = 92 then par true r else if c = 40 ∨ c = 41 then c :: par false r else par false r
noncomputable def escf : Bool → List Nat → Bool
  | e, [] => e
  | true, _ :: r => escf false r
  | false, c :: r => if c = 92 then escf true r else escf false r
theorem par_append : ∀ (a b : List Nat) (e : Bool), par e (a ++ b) = par e a ++ par (escf e a) b
  | [], b, e => by cases e <;> rfl
  | c :: r, b, true => by simp only [List.cons_append, par, escf, par_append r b false]
  | c :: r, b, false => by
    simp only [List.cons_append, par, escf]
    split
    · rw [par_append r b true]
    · split
      · rw [par_append r b false]; rfl
      · rw [par_append r b false]
theorem escf_append : ∀ (a b : List Nat) (e : Bool), escf e (a ++ b) = escf (escf e a) b
  | [], b, e => by cases e <;> rfl
  | c :: r, b, true => by simp only [List.cons_append, escf, escf_append r b false]
  | c :: r, b, false => by
    simp only [List.cons_append, escf]
    split
    · rw [escf_append r b true]
    · rw [escf_append r b false]
theorem ck_par : ∀ (l : List Nat) (i d : Nat) (e : Bool), ck d (items i e l) = chk d (par e l)
  | [], i, d, false => by simp [items, ck, par, chk]
  | [], i, d, true => by simp [items, ck, par, chk]
  | c :: r, i, d, true => by
    simp only [items, ck, par]
    rw [if_neg (by simp), if_neg (by simp), ck_par r (i + 1) d false]
  | c :: r, i, d, false => by
    simp only [items, par]
    split
    · rw [ck_par r (i + 1) d true]
    · rename_i h92
      simp only [ck]
      by_cases h40 : c = 40
      · subst h40
        simp [chk, ck_par r (i + 1) (d + 1) false]
      · by_cases h41 : c = 41
        · subst h41
          simp [chk, ck_par r (i + 1) (d - 1) false]
        · simp [h40, h41, ck_par r (i + 1) d false]
structure Good (w l r : Str) : Prop where
  f : flags false false w.cps.toList = (false, false)
  o : outs false false w.cps.toList = l.cps.toList
  e : escf false l.cps.toList = false
  p : par false l.cps.toList = r.cps.toList
theorem cps_app (a b : Str) : (a ++ b).cps.toList = a.cps.toList ++ b.cps.toList := by simp [Str.cps_append]
theorem Good.app {w l r w' l' r' : Str} (h : Good w l r) (h' : Good w' l' r') : Good (w ++ w') (l ++ l') (r ++ r') := by
  refine ⟨?_, ?_, ?_, ?_⟩
  · rw [cps_app, flags_append, h.f]; exact h'.f
  · rw [cps_app, outs_append, h.f, h.o, h'.o, cps_app]
  · rw [cps_app, escf_append, h.e]; exact h'.e
  · rw [cps_app, par_append, h.e, h.p, h'.p, cps_app]
noncomputable def goodB (w l r : Str) : Bool := decide (flags false false w.cps.toList = (false, false)) && decide (outs false false w.cps.toList = l.cps.toList) && decide (escf false l.cps.toList = false) && decide (par false l.cps.toList = r.cps.toList)
theorem good_of {w l r : Str} (h : goodB w l r = true) : Good w l r := by
  simp only [goodB, Bool.and_eq_true, decide_eq_true_eq] at h
  exact ⟨h.1.1.1, h.1.1.2, h.1.2, h.2⟩
theorem good_texts : ∀ t ∈ texts10, goodB (escT t) (shownOf t) (rowOf t) = true := by decide +kernel
theorem good_tags : ∀ t ∈ [S "r", S "a", S "b", S "x"], goodB t t (S "") = true := by decide +kernel
theorem good_atts : ∀ k ∈ [S "m", S "k"], ∀ v ∈ values8, goodB (attrW (k, v)) (attrL (k, v)) (S "") = true := by decide +kernel
theorem good_text {t : Str} (h : t ∈ texts10) : Good (escT t) (shownOf t) (rowOf t) := good_of (good_texts t h)
theorem good_tag {t : Str} (h : IsTag t) : Good t t (S "") := good_of (good_tags t (by simpa [IsTag] using h))
theorem good_attr {k v : Str} (hk : k = S "m" ∨ k = S "k") (hv : v ∈ values8) : Good (attrW (k, v)) (attrL (k, v)) (S "") := good_of (good_atts k (by simpa using hk) v hv)
theorem good_nil : Good (S "") (S "") (S "") := ⟨by decide, by decide, by decide, by decide⟩
theorem Good.add {w l r w' l' : Str} (h : Good w l r) (h' : Good w' l' (S "")) : Good (w ++ w') (l ++ l') r := by
  have := h.app h'
  rwa [app_nil] at this
theorem good_attrs {ps : List (Str × Str)} (h : PairsOk ps) : Good (cat ((inOrder ps).map attrW)) (cat ((inOrder ps).map attrL)) (S "") := by
  rcases h with rfl | ⟨v, hv, rfl⟩ | ⟨v, hv, u, hu, rfl⟩
  · exact good_nil
  · exact good_nil.add (good_attr (.inl rfl) hv)
  · exact (good_nil.add (good_attr (.inr rfl) hu)).add (good_attr (.inl rfl) hv)
theorem good_step {cm : Bool} {d : Due} {c : Cl} (hc : ClOk c) (h : Good d.whole d.left d.row) : Good (d.step cm c).whole (d.step cm c).left (d.step cm c).row := by
  have a1 : Good (S "<") (S "<") (S "") := ⟨by decide, by decide, by decide, by decide⟩
  have a2 : Good (S ">") (S ">") (S "") := ⟨by decide, by decide, by decide, by decide⟩
  have a3 : Good (S "</") (S "</") (S "") := ⟨by decide, by decide, by decide, by decide⟩
  have a4 : Good (S "<!--") (S "<!--") (S "") := ⟨by decide, by decide, by decide, by decide⟩
  have a5 : Good (S "-->") (S "-->") (S "") := ⟨by decide, by decide, by decide, by decide⟩
  cases c with
  | start t ps =>
    simp only [Due.step]
    split
    · exact h
    · exact (((h.add a1).add (good_tag hc.1)).add (good_attrs hc.2)).add a2
  | fin t =>
    simp only [Due.step]
    split
    · exact h
    · exact ((h.add a3).add (good_tag hc)).add a2
  | comment t =>
    simp only [Due.step]
    split
    · exact ((h.add a4).app (good_text hc)).add a5
    · exact h
  | data t =>
    simp only [Due.step]
    split
    · exact h.app (good_text hc)
    · exact h
theorem good_fold {cm : Bool} : ∀ {cs : List Cl} {d : Due}, (∀ c ∈ cs, ClOk c) → Good d.whole d.left d.row → Good (cs.foldl (Due.step cm) d).whole (cs.foldl (Due.step cm) d).left (cs.foldl (Due.step cm) d).row
  | [], _, _, h => h
  | c :: r, d, hc, h => good_fold (cs := r) (d := d.step cm c) (fun c' h' => hc c' (List.mem_cons_of_mem _ h')) (good_step (hc c (List.mem_cons_self ..)) h)
theorem good_due {cm : Bool} {cs : List Cl} (h : ∀ c ∈ cs, ClOk c) : Good (due cm cs).whole (due cm cs).left (due cm cs).row := good_fold h good_nil
theorem slice_run {x : Str} {a b : Nat} (hab : a ≤ b) (hb : b ≤ x.length) : (Txt.slice x (some (a : Int)) (some (b : Int))).cps.toList = (x.cps.toList.drop a).take (b - a) := by
  unfold Txt.slice
  have hl : (Builtin.Str.strSliceIndices (some (a : Int)) (some (b : Int)) 1 x.length).length = b - a := by
    rw [StrLaws.strSliceIndices_plain hab hb]; simp
  have hx : x.cps.toList.length = x.length := by simp [Str.length]
  split
  · rename_i h
    have e : b - a = x.length := by
      rw [hl] at h
      simpa using h
    have e1 : a = 0 := by (first | lia | omega)
    subst e1
    rw [List.drop_zero, e, ← hx, List.take_length]
  · rw [StrLaws.sliced_plain x hab hb]
theorem slice_from {x : Str} {a : Nat} (ha : a ≤ x.length) : (Txt.slice x (some (a : Int)) none).cps.toList = x.cps.toList.drop a := by
  have e : Txt.slice x (some (a : Int)) none = Txt.slice x (some (a : Int)) (some (x.length : Int)) := by
    unfold Txt.slice
    have : Builtin.Str.strSliceIndices (some (a : Int)) none 1 x.length = Builtin.Str.strSliceIndices (some (a : Int)) (some (x.length : Int)) 1 x.length := by
      have h2 : ¬ ((x.length : Int) < 0) := Int.not_lt.mpr (Int.natCast_nonneg _)
      have e2 : max (0 : Int) (min (x.length : Int) (x.length : Int)) = x.length := by rw [Int.min_self, Int.max_eq_right (Int.natCast_nonneg _)]
      simp only [Builtin.Str.strSliceIndices, h2, if_false, e2, show ((1 : Int) > 0) = True from by simp, if_true]
    rw [this]
  rw [e, slice_run ha (Nat.le_refl _)]
  have hx : x.cps.toList.length = x.length := by simp [Str.length]
  exact List.take_of_length_le (by rw [List.length_drop, hx]; exact Nat.le_refl _)
structure SInv (x : Str) (a : List Nat) (s : SS) (q : Bool) : Prop where
  fl : flags false false a = (false, q)
  st : s.start ≤ a.length
  no : q = false → s.opn = none ∧ outs false false a = (s.res.flatMap fun y => y.cps.toList) ++ (x.cps.toList.drop s.start).take (a.length - s.start)
  yes : q = true → ∃ o, s.opn = some o ∧ s.start ≤ o ∧ o ≤ a.length ∧ outs false false a = (s.res.flatMap fun y => y.cps.toList) ++ (x.cps.toList.drop s.start).take (o - s.start)
theorem take_more {X a w b : List Nat} {s : Nat} (h : X = a ++ (w ++ b)) (hs : s ≤ a.length) : (X.drop s).take ((a ++ w).length - s) = (X.drop s).take (a.length - s) ++ w := by
  subst h
  rw [List.drop_append_of_le_length hs]
  have e1 : a.length - s = (a.drop s).length := by simp
  have e2 : (a ++ w).length - s = (a.drop s ++ w).length := by rw [List.length_append, List.length_append, List.length_drop]; exact n_more hs
  rw [e2, e1, ← List.append_assoc, List.take_left, List.append_assoc, List.take_left]
theorem sinv_word {x : Str} {a w b : List Nat} {s : SS} {q : Bool} (hx : x.cps.toList = a ++ (w ++ b)) (h : SInv x a s q) (hf : flags false q w = (false, q)) (ho : outs false q w = if q then [] else w) : SInv x (a ++ w) s q := by
  refine ⟨by rw [flags_append, h.fl]; exact hf, by have := h.st; simp; (first | lia | omega), fun hq => ?_, fun hq => ?_⟩
  · obtain ⟨h1, h2⟩ := h.no hq
    refine ⟨h1, ?_⟩
    rw [outs_append, h.fl, take_more hx h.st, ← List.append_assoc, ← h2]
    subst hq
    rw [show outs false false w = w by simpa using ho]
  · obtain ⟨o, h1, h2, h3, h4⟩ := h.yes hq
    refine ⟨o, h1, h2, by simp; (first | lia | omega), ?_⟩
    rw [outs_append, h.fl, h4]
    subst hq
    rw [show outs false true w = [] by simpa using ho, List.append_nil]
theorem sinv_mark {x : Str} {a b : List Nat} {s : SS} {q : Bool} (hx : x.cps.toList = a ++ ([34] ++ b)) (h : SInv x a s q) : SInv x (a ++ [34]) (s.step x (a.length, [34])) (!q) := by
  have hl : x.cps.toList.length = x.length := by simp [Str.length]
  have hal : a.length ≤ x.length := by rw [← hl, hx]; simp
  have hfl : flags false false (a ++ [34]) = (false, !q) := by rw [flags_append, h.fl]; rfl
  have hou : outs false false (a ++ [34]) = outs false false a := by rw [outs_append, h.fl]; simp [outs]
  cases q with
  | false =>
    obtain ⟨h1, h2⟩ := h.no rfl
    have e : s.step x (a.length, [34]) = { s with opn := some a.length } := by
      unfold SS.step
      rw [if_pos rfl, h1]
    rw [e]
    exact ⟨hfl, by have := h.st; simp; (first | lia | omega), nofun, fun _ => ⟨a.length, rfl, h.st, by simp, by rw [hou]; exact h2⟩⟩
  | true =>
    obtain ⟨o, h1, h2, h3, h4⟩ := h.yes rfl
    have e : s.step x (a.length, [34]) = { start := a.length + 1, opn := none, res := if s.start ≠ o then s.res ++ [Txt.slice x (some (s.start : Int)) (some (o : Int))] else s.res } := by
      unfold SS.step
      rw [if_pos rfl, h1]
    rw [e]
    refine ⟨hfl, by simp, fun _ => ⟨rfl, ?_⟩, nofun⟩
    rw [hou, h4]
    simp only [List.length_append, List.length_singleton, Nat.sub_self, List.take_zero, List.append_nil]
    by_cases hso : s.start = o
    · simp [hso]
    · rw [if_pos hso, List.flatMap_append, List.flatMap_singleton, slice_run h2 (Nat.le_trans h3 hal)]
theorem strip_scan {x : Str} (hF : flags false false x.cps.toList = (false, false)) : ∀ (n : Nat) (b a : List Nat) (s : SS) (q : Bool), b.length ≤ n → x.cps.toList = a ++ b → SInv x a s q → SInv x x.cps.toList ((items a.length false b).foldl (SS.step x) s) false
  | n, [], a, s, q, _, hx, h => by
    rw [List.append_nil] at hx
    have e : q = false := by
      have := h.fl
      rw [← hx, hF] at this
      simpa using this.symm
    subst e
    rw [hx]
    exact h
  | 0, _ :: _, _, _, _, hn, _, _ => by simp at hn
  | n + 1, c :: r, a, s, q, hn, hx, h => by
    have hx1 : x.cps.toList = (a ++ [c]) ++ r := by rw [hx]; simp
    by_cases h92 : c = 92
    · subst h92
      cases r with
      | nil =>
        exfalso
        rw [hx, flags_append, h.fl] at hF
        simp [flags] at hF
      | cons c2 r =>
        have hx2 : x.cps.toList = (a ++ [92, c2]) ++ r := by rw [hx]; simp
        have h' := sinv_word (w := [92, c2]) (b := r) (by rw [hx]; rfl) h (by simp [flags]) (by cases q <;> simp [outs])
        have := strip_scan hF n r (a ++ [92, c2]) s q (by simp at hn ⊢; (first | lia | omega)) hx2 h'
        have e : items a.length false (92 :: c2 :: r) = (a.length + 1, [92, c2]) :: items (a.length + 1 + 1) false r := by simp [items]
        rw [e, List.foldl_cons]
        have e2 : s.step x (a.length + 1, [92, c2]) = s := by simp [SS.step]
        rw [e2]
        simpa using this
    · have e : items a.length false (c :: r) = (a.length, [c]) :: items (a.length + 1) false r := by simp [items, h92]
      rw [e, List.foldl_cons]
      by_cases h34 : c = 34
      · subst h34
        have h' := sinv_mark (b := r) (by rw [hx]; rfl) h
        have := strip_scan hF n r (a ++ [34]) _ (!q) (by simp at hn ⊢; (first | lia | omega)) hx1 h'
        simpa using this
      · have h' := sinv_word (w := [c]) (b := r) (by rw [hx]; rfl) h (by simp [flags, h92, h34]) (by cases q <;> simp [outs, h92, h34])
        have := strip_scan hF n r (a ++ [c]) s q (by simp at hn ⊢; (first | lia | omega)) hx1 h'
        have e2 : s.step x (a.length, [c]) = s := by simp [SS.step, h34]
        rw [e2]
        simpa using this
theorem outs_none : ∀ l : List Nat, 34 ∉ l → ∀ e : Bool, outs e false l = l
  | [], _, e => by cases e <;> rfl
  | c :: r, h, true => by simp [outs, outs_none r (fun m => h (List.mem_cons_of_mem _ m)) false]
  | c :: r, h, false => by
    have h34 : ¬ c = 34 := fun e => h (e ▸ List.mem_cons_self ..)
    by_cases h92 : c = 92
    · simp [outs, h92, outs_none r (fun m => h (List.mem_cons_of_mem _ m)) true]
    · simp [outs, h92, h34, outs_none r (fun m => h (List.mem_cons_of_mem _ m)) false]
theorem strip_outs {x : Str} (hF : flags false false x.cps.toList = (false, false)) : (stripP x).cps.toList = outs false false x.cps.toList := by
  unfold stripP
  split
  · have hl : x.cps.toList.length = x.length := by simp [Str.length]
    have h := strip_scan hF _ x.cps.toList [] ⟨0, none, []⟩ false (Nat.le_refl _) rfl ⟨rfl, Nat.le_refl _, fun _ => ⟨rfl, by simp [outs]⟩, nofun⟩
    have h1 : SS.at x (items 0 false x.cps.toList) = (items ([] : List Nat).length false x.cps.toList).foldl (SS.step x) ⟨0, none, []⟩ := rfl
    rw [← h1] at h
    obtain ⟨_, h2⟩ := h.no rfl
    have hst := h.st
    rw [h2]
    unfold SS.fin
    rw [tjoin_list]
    split
    · rename_i hlt
      rw [List.flatMap_append, List.flatMap_singleton, slice_from (Nat.le_of_lt hlt)]
      rw [List.take_of_length_le (by simp)]
    · rename_i hlt
      have e : x.cps.toList.drop (SS.at x (items 0 false x.cps.toList)).start = [] := List.drop_eq_nil_of_le (by (first | lia | omega))
      rw [e]; simp
  · rename_i h34
    exact (outs_none _ h34 false).symm
theorem law_strip {cm : Bool} {cs : List Cl} (h : ∀ c ∈ cs, ClOk c) : stripP (due cm cs).whole = (due cm cs).left := by
  have g := good_due (cm := cm) h
  exact str_ext ((strip_outs g.f).trans g.o)
theorem law_check {cm : Bool} {cs : List Cl} (h : ∀ c ∈ cs, ClOk c) {row : Str} (hr : chk 0 row.cps.toList = chk 0 (due cm cs).row.cps.toList) (hn : NoPair row.cps.toList) (hc : ∀ c ∈ row.cps.toList, c = 40 ∨ c = 41) :
    ck 0 (items 0 false (stripP (due cm cs).whole).cps.toList) = row.cps.toList.isEmpty := by
  have g := good_due (cm := cm) h
  rw [law_strip h, ck_par, g.p, ← hr, chk_irred hc hn]
end
section
open PySem PySem.W PyProof.Rows
theorem par_chars : ∀ (l : List Nat) (e : Bool), ∀ c ∈ par e l, c = 40 ∨ c = 41
  | [], e, c, h => by cases e <;> simp [par] at h
  | d :: r, true, c, h => par_chars r false c (by simpa [par] using h)
  | d :: r, false, c, h => by
    simp only [par] at h
    split at h
    · exact par_chars r true c h
    · split at h
      · rename_i hd
        rcases List.mem_cons.mp h with rfl | h
        · exact hd
        · exact par_chars r false c h
      · exact par_chars r false c h
theorem join_sub : ∀ ps : List Str, ∀ c ∈ (Str.join ⟨#[]⟩ ps).cps.toList, c ∈ (Str.join ⟨#[40, 41]⟩ ps).cps.toList
  | [], c, h => h
  | [p], c, h => h
  | p :: q :: r, c, h => by
    have ih := join_sub (q :: r) c
    have e1 : Str.join ⟨#[]⟩ (p :: q :: r) = p ++ ⟨#[]⟩ ++ Str.join ⟨#[]⟩ (q :: r) := rfl
    have e2 : Str.join ⟨#[40, 41]⟩ (p :: q :: r) = p ++ ⟨#[40, 41]⟩ ++ Str.join ⟨#[40, 41]⟩ (q :: r) := rfl
    rw [e1] at h
    rw [e2]
    simp only [Str.cps_append, Array.toList_append, List.mem_append] at h ⊢
    rcases h with (h | h) | h
    · exact .inl (.inl h)
    · simp at h
    · exact .inr (ih h)
structure RowOk (r0 r : Str) : Prop where
  c : chk 0 r.cps.toList = chk 0 r0.cps.toList
  m : ∀ c ∈ r.cps.toList, c = 40 ∨ c = 41
  l : r.length ≤ r0.length
theorem rowOk_due {cm : Bool} {cs : List Cl} (h : ∀ c ∈ cs, ClOk c) : RowOk (due cm cs).row (due cm cs).row :=
  ⟨rfl, by rw [← (good_due (cm := cm) h).p]; exact par_chars _ _, Nat.le_refl _⟩
theorem rowOk_step {r0 r : Str} (h : RowOk r0 r) (hin : (Builtin.Str.occurrences r (Str.ofString "()") 0 r.length 1).isEmpty = false) : RowOk r0 (Txt.replace r (Str.ofString "()") (Str.ofString "")) ∧ (Txt.replace r (Str.ofString "()") (Str.ofString "")).length < r.length := by
  have e1 : Str.ofString "()" = ⟨#[40, 41]⟩ := by decide
  have e2 : Str.ofString "" = ⟨#[]⟩ := by decide
  rw [e1] at hin
  rw [e1, e2]
  have hs := in_shorter hin
  refine ⟨⟨(replace_chk r).trans h.c, ?_, Nat.le_trans (Nat.le_of_lt hs) h.l⟩, hs⟩
  intro c hc
  rw [replace_pair] at hc
  have := join_sub _ c hc
  rw [StrLaws.join_split] at this
  exact h.m c this
theorem rowOk_end {cm : Bool} {cs : List Cl} (h : ∀ c ∈ cs, ClOk c) {r : Str} (hr : RowOk (due cm cs).row r) (hin : (Builtin.Str.occurrences r (Str.ofString "()") 0 r.length 1).isEmpty = true) :
    ck 0 (items 0 false (stripP (due cm cs).whole).cps.toList) = (r == Str.ofString "") := by
  have e1 : Str.ofString "()" = ⟨#[40, 41]⟩ := by decide
  have e2 : Str.ofString "" = ⟨#[]⟩ := by decide
  rw [e1] at hin
  rw [law_check h hr.c (not_in_nopair hin) hr.m, e2]
  rcases r with ⟨⟨l⟩⟩
  cases l with
  | nil => decide
  | cons a t =>
    show false = _
    symm
    exact beq_eq_false_iff_ne.mpr fun e => by simp at e
end
section
open PySem PySem.W PyProof.Rows PySem.Calls
theorem post_bare {M : Model} {A : Around} {cd : Code} {s s₁ : Shared} {cw : ClaimW} {cl : Str → Option Addr} {mean : ExcName → Option Value} {args : List WData} {tabs : List (Addr × Addr)} (hT : TabsAt tabs s₁.heap) (hn : ∀ cls, cw.raises args cls = false) (hp : cw.post args (.bool true) args = true)
    (h : codeAny M A cd (fun r s' => r = .ok (.ret (.bool true)) ∧ (∀ b o, (ghostOf s₁.heap tabs).get? b = some o → s'.heap.get? b = some o) ∧ s'.os = s₁.os ∧ AllBare s'.gens ∧ GrownAll tabs s'.heap) s) : codeAny M A cd (GoodWG cw cl mean args s₁) s :=
  codeAny_mono h fun r s' ⟨hr, hk, hos, hg, hgr⟩ => by
    subst hr
    have keep : ∀ b o, b ∉ tabs.map (·.2) → s₁.heap.get? b = some o → s'.heap.get? b = some o := fun b o hb e => hk b o (ghost_ne e hb)
    have grown : ∀ b o, b ∈ tabs.map (·.2) → s₁.heap.get? b = some o → isCodeTable s₁.heap b ∧ o = tabObj #[] ∧ ∃ ps, s'.heap.get? b = some (tabObj ps) := fun b o hb e => by
      obtain ⟨q, hq, rfl⟩ := List.mem_map.mp hb
      have e2 := (hT q hq).2
      rw [e] at e2
      exact ⟨((hT q hq).1.tab (hT q hq).2).isCodeTable, Option.some.inj e2, hgr.get q hq⟩
    refine ⟨.inl ⟨.bool true, .bool true, [], rfl, hn, .bool true, hp, fun _ => ⟨.nil, fun _ h => nomatch h⟩⟩, ⟨fun b o e => ?_, fun b o e => ?_⟩, hos, hg⟩
    · by_cases hb : b ∈ tabs.map (·.2)
      · obtain ⟨ht, rfl, ps, hP⟩ := grown b o hb e
        exact .inr (.inl ⟨ht, rfl, #[], ps, rfl, by rw [Array.empty_append]; exact hP⟩)
      · exact .inl (keep b o hb e)
    · by_cases hb : b ∈ tabs.map (·.2)
      · obtain ⟨_, _, ps, hP⟩ := grown b o hb e
        exact ⟨_, hP⟩
      · exact ⟨o, keep b o hb e⟩
noncomputable def LawEnd (g : Heap) (L : Addr) (os : OsState) (f : Flow) (s' : Shared) : Prop := f = .ret (.bool true) ∧ s'.os = os ∧ AllBare s'.gens ∧ (∃ m, Fr g L s'.heap m) ∧ ∃ pt, News g L s'.heap [(123, tabObj pt)]
theorem law_in {k : Nat} {w : World} {p : Program} {loose : List Str} {mean : ExcName → Option Value} {mg mb : Str → Option Value} {A : Around} {outer : List Env} {base h₀ : Heap} {L f : Addr} {s : Shared} {M : Model} {E : Value → Shared → Prop} {Q : Flow → Shared → Prop} {name qual q' : Str} {params : Arguments} {body : List Stmt} {scope : Scope} {dV kV doc pm cdv ct oc cd : Value} {an od : Option Addr} {osl : Array (Option Value)} {o : Option Obj}
    (h : o = some ⟨oc, od, .func (fnOf name qual params body scope dV kV doc pm an cdv ct), osl⟩)
    (c : CxA k w p loose mean mg mb A (envOf q' (scopeOf o) L f cd) outer base h₀ L)
    (g : CxA k w p loose mean mg mb A (envOf q' scope L f cd) outer base h₀ L → wpAny M A (execs body (envOf q' scope L f cd)) Q E s) :
    wpAny M A (execs (bodyOf o) (envOf q' (scopeOf o) L f cd)) Q E s := by
  subst h
  exact g c
theorem law_out {k : Nat} {w : World} {p : Program} {loose : List Str} {mean : ExcName → Option Value} {mg mb : Str → Option Value} {A : Around} {outer : List Env} {base h₀ : Heap} {L f : Addr} {s : Shared} {M : Model} {E : Value → Shared → Prop} {Q : Flow → Shared → Prop} {name qual q' : Str} {params : Arguments} {body : List Stmt} {scope : Scope} {dV kV doc pm cdv ct oc cd : Value} {an od : Option Addr} {osl : Array (Option Value)} {o : Option Obj}
    (h : o = some ⟨oc, od, .func (fnOf name qual params body scope dV kV doc pm an cdv ct), osl⟩)
    (c : CxA k w p loose mean mg mb A (envOf q' scope L f cd) outer base h₀ L)
    (g : CxA k w p loose mean mg mb A (envOf q' (scopeOf o) L f cd) outer base h₀ L → wpAny M A (execs (bodyOf o) (envOf q' (scopeOf o) L f cd)) Q E s) :
    wpAny M A (execs body (envOf q' scope L f cd)) Q E s := by
  subst h
  exact g c
noncomputable def RwJ (r0 : Str) (ps : List (Str × Value)) (nw : List (Addr × Obj)) (n : Nat) (m : Str → Option Value) (news₁ : List (Addr × Obj)) (tk : Nat) : Prop :=
  0 < tk ∧ ∃ (r : Str) (t : Tok), RowOk r0 r ∧ r.length = n ∧ Pins m ((Str.ofString "row", .str r t) :: ps) ∧ news₁ = nw
theorem law_body : ∀ {w : World} {p : Program} {loose : List Str} {mean : ExcName → Option Value} {mg mb : Str → Option Value} {A : Around} {outer : List Env} {base h₀ : Heap} {L : Addr} {s : Shared} {lsc : Nat} {f : Addr} {cd : Value} {svs : List Value} {sns : List Int}
    (_ : CxA 16 w p loose mean mg mb A (envOf (Str.ofString "law") (scopeOf ((hd.heap_1 w.params).lookup 241)) L f cd) outer base h₀ L)
    (_ : Fr h₀ L s.heap (pinned nom [(Str.ofString "script", .ref lsc)]))
    (_ : News h₀ L s.heap [(123, tabObj #[])])
    (_ : CodeHd h₀ 125 123)
    (_ : h₀.IsList lsc svs.toArray)
    (_ : IntsAre svs sns)
    (_ : svs.length ≤ 63)
    (_ : s.gens = #[]),
    wpAny (model PySem.Challenge.rw_nb0300_01.row.prog w) A (execs (bodyOf ((hd.heap_1 w.params).lookup 241)) (envOf (Str.ofString "law") (scopeOf ((hd.heap_1 w.params).lookup 241)) L f cd)) (LawEnd h₀ L s.os) Nay s := by
  intro w p loose mean mg mb A outer base h₀ L s lsc f cd svs sns c F N C hsl hsi hsz hgs
  k_dflt (refine' law_in ?h c ?g; (case h => k_is))
  clear c
  intro c
  have X := c.X
  have T := c.T
  (k_with "goS" => repeat' (first
    | (k_unfold; (try dsimp only))
    | ((fail_if_success (with_reducible show wpAny _ _ (PySem.call (Value.ref _) _) _ _ _)); (fail_if_success (with_reducible show wpAny _ _ (PySem.exec (PySem.Stmt.While _ _ _ _) _) _ _ _)); first | walk1 | (dsimp only; walk1))
    | fail "no step"))
  walk_at "goS"
  k_dflt (refine' calls_spec ?c F N ?hsl hsi hsz ?_; (case c => walk_at "cx"); (case hsl => exact hsl))
  intro D lc nc nD vals calls b ext h1 tk1 hca hlw hz1 htk1 hap1 F1 N1
  have hcalls := lawful_ok hlw
  obtain ⟨nw, hDn, hln, hcn, N9, hn9⟩ : ∃ nw, (D, ({ cls := .type "tuple", data := .seq #[.ref lc, .bool b] nD } : Obj)) ∈ nw ∧ (lc, W.listOf (List.toArray vals) nc) ∈ nw ∧ CallsAt nw vals calls ∧ News h₀ L h1 ((123, tabObj #[]) :: nw) ∧ Nd [123] nw := by
    refine ⟨_, memH0, memH1, hca.mono (fun p hp => memT2 hp), News.sub N1 (sub_cons (memT2 (List.mem_append_right _ memH0)) (sub_cons memH0 (sub_cons memH1 fun p hp => memT2 (List.mem_append_left _ hp)))), List.nodup_cons.mpr ⟨List.not_mem_nil, List.nodup_nil⟩, fun p hp h => ?_⟩
    exact hap1 p hp (123, _) memH0 (List.mem_singleton.mp h).symm
  clear N1 hca hap1
  walk_at "goS"
  k_dflt (refine' due_spec ?c ?F ?N (memT1 hln) (hcn.mono fun p hp => memT1 hp) hcalls hz1 ?_; (case c => walk_at "cx"); (case F => k_asm); (case N => k_asm))
  intro D2 t1 t2 t3 n2 h2 tk2 htk2 F2 N2 hD2
  walk_at "goS"
  k_dflt (refine' written_spec ?c ?F ?N hn9 C (.inl rfl) hln hcn hlw hz1 ?_; (case c => walk_at "cx"); (case F => k_asm); (case N => exact News.sub (by k_asm) (sub_cons memH1 fun p hp => memT2 hp)))
  intro t4 pt h3 d3 tk3 htk3 F3 N3
  obtain ⟨sw, sl, sr, _⟩ := due_take_small (cm := b) hcalls calls.length
  rw [List.take_length] at sw sl sr
  have hrow := rowOk_due (cm := b) hcalls
  have hst := law_strip (cm := b) hcalls
  walk_at "goS"
  · rename _ = true => hbad
    exact absurd hbad (by simp)
  k_dflt (refine' strip_spec ?c ?F ?N ?z ?ab ?_; (case c => walk_at "cx"); (case F => k_asm); (case N => k_asm); (case z => (first | lia | omega)); (case ab => exact AllBare.of_eq hgs))
  intro t5 g5 h5 tk5 hb5 htk5 F5 N5
  rw [hst]
  walk_at "goS"
  · rename _ = true => hbad
    exact absurd hbad (by simp)
  refine while_any (RwJ (due b calls).row [(Str.ofString "written", .str (due b calls).whole t4)] ((123, tabObj pt) :: nw)) (n₀ := (due b calls).row.length) F5 N5 ⟨by walk_at "tpos", _, _, hrow, rfl, ⟨rfl, rfl, trivial⟩, rfl⟩ ?_
  rintro n m₂ news₂ h6 tk6 ⟨htk6, r, tr, hro, rfl, hp, rfl⟩ F7 N7
  replace F7 := fr_pinsP F7 hp
  have hrl := hro.l
  walk_at "goS"
  · have hoc := ‹(Builtin.Str.occurrences r (Str.ofString "()") 0 r.length 1).isEmpty = true›
    have hend := rowOk_end (cm := b) hcalls hro hoc
    k_dflt (refine' check_spec ?c ?F ?N ?z ?z2 ?ab ?_; (case c => walk_at "cx"); (case F => k_asm); (case N => k_asm); (case z => (first | lia | omega)); (case z2 => (rw [hst]; (first | lia | omega))); (case ab => exact hb5))
    intro g7 h7 tk7 hb7 htk7 F8 N8
    rw [hend]
    walk_at "goS"
    refine ⟨congrArg (fun z => Flow.ret (Value.bool z)) (beq_self_eq_true _), rfl, hb7, ⟨_, by k_asm⟩, pt, News.sub (l := (123, tabObj pt) :: nw) (by k_asm) fun p hp => ?_⟩
    rw [List.mem_singleton.mp hp]
    exact memH0
  · have hoc := ‹(Builtin.Str.occurrences r (Str.ofString "()") 0 r.length 1).isEmpty = false›
    obtain ⟨hr2, hlt⟩ := rowOk_step hro hoc
    exact WhileP.next F' N' hlt ⟨by walk_at "tpos", _, _, hr2, rfl, ⟨rfl, rfl, trivial⟩, rfl⟩
end
section
open PySem PySem.W PyProof.Rows PySem.Calls
noncomputable def main.tw11156056980113079860 : Unit := ()
noncomputable def main.tw223528310411579522 : Unit := ()
noncomputable def main.tw11750729281771291726 : Unit := ()
noncomputable def main.tw11208696410566866878 : Unit := ()
noncomputable def main.tw16826212616301561204 : Unit := ()
noncomputable def main.tw15822976107629697795 : Unit := ()
noncomputable def main.tw3076701833197740903 : Unit := ()
noncomputable def main.tw9331080965256306000 : Unit := ()
noncomputable def main.tw7246944442124672618 : Unit := ()
noncomputable def main.tw15084373819210478048 : Unit := ()
noncomputable def main.tw11754280020882632543 : Unit := ()
noncomputable def main.tw341453280667917650 : Unit := ()
noncomputable def main.tw4500915450034043215 : Unit := ()
noncomputable def main.tw7846812961960373227 : Unit := ()
noncomputable def main.tw4126091431370883743 : Unit := ()
noncomputable def main.tw6801380410627298636 : Unit := ()
noncomputable def main.tw5613160597433933154 : Unit := ()
noncomputable def main.tw1504049600530537962 : Unit := ()
noncomputable def main.tw9512817274939609580 : Unit := ()
noncomputable def main.tw2287757881348798766 : Unit := ()
noncomputable def main.tw1054321117371714560 : Unit := ()
noncomputable def main.tw11957396940522966073 : Unit := ()
noncomputable def main.tw12205347405646519318 : Unit := ()
noncomputable def main.tw16952715711813285254 : Unit := ()
noncomputable def main.tw2225956059507018244 : Unit := ()
noncomputable def main.tw17679725944135375923 : Unit := ()
noncomputable def main.tw5451317232050628999 : Unit := ()
noncomputable def main.tw13270728482189477470 : Unit := ()
noncomputable def main.tw11003572833241299968 : Unit := ()
noncomputable def main.tw7046553051531188497 : Unit := ()
noncomputable def main.tw8356715770997125795 : Unit := ()
noncomputable def main.tw6697339332421208802 : Unit := ()
noncomputable def main.tw17353955331779342651 : Unit := ()
noncomputable def main.tw4651154628705390771 : Unit := ()
noncomputable def main.tw4044139247061151142 : Unit := ()
noncomputable def main.tw1277820614484962519 : Unit := ()
noncomputable def main.tw14027531716089632829 : Unit := ()
noncomputable def main.tw3557749057250611081 : Unit := ()
noncomputable def main.tw17052023290607921161 : Unit := ()
noncomputable def main.tw13301926697755358949 : Unit := ()
noncomputable def main.tw10047389527955405517 : Unit := ()
noncomputable def main.tw2895952525429962455 : Unit := ()
noncomputable def main.tw18218335207050127959 : Unit := ()
noncomputable def main.tw14061640607465278742 : Unit := ()
noncomputable def main.tw9848185148710128376 : Unit := ()
noncomputable def main.tw14793117695081215449 : Unit := ()
noncomputable def main.tw5084117380071580128 : Unit := ()
noncomputable def main.tw3829396358689915599 : Unit := ()
noncomputable def main.tw1304016184895156253 : Unit := ()
noncomputable def main.tw16008457594558532635 : Unit := ()
noncomputable def main.tw3848698983108048278 : Unit := ()
noncomputable def main.tw6385024630547198690 : Unit := ()
noncomputable def main.tw5240779543111244032 : Unit := ()
noncomputable def main.tw3791957361687005105 : Unit := ()
noncomputable def main.tw12518504611687188807 : Unit := ()
noncomputable def main.tw9361300454564663673 : Unit := ()
noncomputable def main.tw8748973510418095054 : Unit := ()
noncomputable def main.tw5372645768047454471 : Unit := ()
noncomputable def main.tw17958375852430007124 : Unit := ()
noncomputable def main.tw11982392923317675503 : Unit := ()
noncomputable def main.tw16519101796099990279 : Unit := ()
noncomputable def main.tw451873465583785326 : Unit := ()
noncomputable def main.tw18302796317244248524 : Unit := ()
noncomputable def main.tw16123001533466179255 : Unit := ()
noncomputable def main.tw17561526911342447988 : Unit := ()
noncomputable def main.tw9291868230625655718 : Unit := ()
noncomputable def main.tw11420884497731329202 : Unit := ()
noncomputable def main.tw14009396871252706886 : Unit := ()
noncomputable def main.tw3627144658338631552 : Unit := ()
noncomputable def main.tw18332899500509843999 : Unit := ()
noncomputable def main.tw12784055721772562989 : Unit := ()
noncomputable def main.tw11004402152517180667 : Unit := ()
noncomputable def main.tw9897820754763898449 : Unit := ()
noncomputable def main.tw15109750227778091905 : Unit := ()
noncomputable def main.tw16136984950599521427 : Unit := ()
noncomputable def main.tw1632041292262086317 : Unit := ()
noncomputable def main.tw2164743871083121425 : Unit := ()
noncomputable def main.tw1270039299266317192 : Unit := ()
noncomputable def main.tw2238316416991798583 : Unit := ()
noncomputable def main.tw17292155258170135553 : Unit := ()
noncomputable def main.tw14064073609400967072 : Unit := ()
noncomputable def main.tw7308723440029596264 : Unit := ()
noncomputable def main.tw13876859957761632879 : Unit := ()
noncomputable def main.tw7113585516715319716 : Unit := ()
noncomputable def main.tw11770474507260867162 : Unit := ()
noncomputable def main.tw16778611742570070204 : Unit := ()
noncomputable def main.tw9656510801202774680 : Unit := ()
noncomputable def main.tw10234815189450012239 : Unit := ()
noncomputable def main.tw4681395471914393968 : Unit := ()
noncomputable def main.tw16008252555379753968 : Unit := ()
noncomputable def main.tw10082525699882495855 : Unit := ()
noncomputable def main.tw4650958065196391918 : Unit := ()
noncomputable def main.tw4573282807186111410 : Unit := ()
noncomputable def main.tw7186131708394509389 : Unit := ()
noncomputable def main.tw13626721169425172152 : Unit := ()
noncomputable def main.tw15131278010643852716 : Unit := ()
noncomputable def main.tw5871769198996169552 : Unit := ()
noncomputable def main.tw16452447596832230105 : Unit := ()
noncomputable def main.tw5127751686995613262 : Unit := ()
noncomputable def main.tw3934531018447913466 : Unit := ()
noncomputable def main.tw10669944970481658594 : Unit := ()
noncomputable def main.tw17236958762192778904 : Unit := ()
noncomputable def main.tw15984706205718930553 : Unit := ()
noncomputable def main.tw1236483940969888574 : Unit := ()
noncomputable def main.tw17223442867436993403 : Unit := ()
noncomputable def main.tw6075091234017535682 : Unit := ()
noncomputable def main.tw12590340796369385619 : Unit := ()
noncomputable def main.tw1099256609624015869 : Unit := ()
noncomputable def main.tw2702614204127132176 : Unit := ()
noncomputable def main.tw12247328531587918298 : Unit := ()
noncomputable def main.tw10450603732522932521 : Unit := ()
noncomputable def main.tw15485851114877660061 : Unit := ()
noncomputable def main.tw8905464785575363620 : Unit := ()
noncomputable def main.tw4072190877284726289 : Unit := ()
noncomputable def main.tw2019394398466159022 : Unit := ()
noncomputable def main.tw16046730324260685337 : Unit := ()
noncomputable def main.tw14218914174604095658 : Unit := ()
noncomputable def main.tw6508729118710982530 : Unit := ()
noncomputable def main.tw2496676261509829067 : Unit := ()
noncomputable def main.tw9563168847844234846 : Unit := ()
noncomputable def main.tw12780967964696292293 : Unit := ()
noncomputable def main.tw387501639795913443 : Unit := ()
noncomputable def main.tw8627561154394265716 : Unit := ()
noncomputable def main.tw11785714552879321826 : Unit := ()
noncomputable def main.tw7380652910202371479 : Unit := ()
noncomputable def main.tw11101190512080308003 : Unit := ()
noncomputable def main.tw14457758005677747962 : Unit := ()
noncomputable def main.tw5436791530062809996 : Unit := ()
noncomputable def main.tw4324958949535026087 : Unit := ()
noncomputable def main.tw16832360635688203351 : Unit := ()
noncomputable def main.tw1714950047550659301 : Unit := ()
noncomputable def main.tw4452170602077327944 : Unit := ()
noncomputable def main.tw12483276189755474720 : Unit := ()
noncomputable def main.tw7293298908176781663 : Unit := ()
noncomputable def main.tw15017983477296125989 : Unit := ()
noncomputable def main.tw14639212616227390028 : Unit := ()
noncomputable def main.tw13724616953566380437 : Unit := ()
noncomputable def main.tw13377594971386510798 : Unit := ()
noncomputable def main.tw6511744376749373798 : Unit := ()
noncomputable def main.tw12361340156312767134 : Unit := ()
noncomputable def main.tw834873547066669988 : Unit := ()
noncomputable def main.tw4475767826048309731 : Unit := ()
noncomputable def main.tw12885673836220544336 : Unit := ()
noncomputable def main.tw14672674291997333471 : Unit := ()
noncomputable def main.tw4365514962571936147 : Unit := ()
noncomputable def main.tw5243159528196176124 : Unit := ()
noncomputable def main.tw10159738436595150677 : Unit := ()
noncomputable def main.tw17737603089517620647 : Unit := ()
noncomputable def main.tw5571399437266216444 : Unit := ()
noncomputable def main.tw8729708805864041840 : Unit := ()
noncomputable def main.tw3027586509356016917 : Unit := ()
noncomputable def main.tw18284262389922463811 : Unit := ()
noncomputable def main.tw17974016328880235120 : Unit := ()
noncomputable def main.tw14635473669698735251 : Unit := ()
noncomputable def main.tw11646826074482590764 : Unit := ()
noncomputable def main.tw6912675738884088206 : Unit := ()
noncomputable def main.tw17715262827843222689 : Unit := ()
noncomputable def main.tw5240536507193477226 : Unit := ()
noncomputable def main.tw16049902774474827687 : Unit := ()
noncomputable def main.tw5061512775090418087 : Unit := ()
noncomputable def main.tw5995161000843957690 : Unit := ()
noncomputable def main.tw6660377722381337597 : Unit := ()
noncomputable def main.tw16187894506366716058 : Unit := ()
noncomputable def main.tw4297412468100583042 : Unit := ()
noncomputable def main.tw7074144079889050967 : Unit := ()
noncomputable def main.tw2566753976717531306 : Unit := ()
noncomputable def main.tw10740796172568881837 : Unit := ()
noncomputable def main.tw9268297945177815525 : Unit := ()
noncomputable def main.tw16572128252103988241 : Unit := ()
noncomputable def main.tw15467891735981029475 : Unit := ()
noncomputable def main.tw13642826006792871662 : Unit := ()
noncomputable def main.tw15270170921892066516 : Unit := ()
noncomputable def main.tw6162249291895867263 : Unit := ()
noncomputable def main.tw9925469786538053656 : Unit := ()
noncomputable def main.tw15803610866087392283 : Unit := ()
noncomputable def main.tw1545906260438175962 : Unit := ()
noncomputable def main.tw1587290215689348708 : Unit := ()
noncomputable def main.tw4189750870438640210 : Unit := ()
noncomputable def main.tw14501139755280948549 : Unit := ()
noncomputable def main.tw7439787175107056256 : Unit := ()
noncomputable def main.tw104360540948158410 : Unit := ()
noncomputable def main.tw13402765919934010277 : Unit := ()
noncomputable def main.tw8207831470162742035 : Unit := ()
noncomputable def main.tw9498315638749924794 : Unit := ()
noncomputable def main.tw9376575566392132001 : Unit := ()
noncomputable def main.tw13667920496262714385 : Unit := ()
noncomputable def main.tw7268301785047649679 : Unit := ()
noncomputable def main.tw13693970394777133609 : Unit := ()
noncomputable def main.tw2538046985915079169 : Unit := ()
noncomputable def main.tw7221758910455160077 : Unit := ()
noncomputable def main.tw13503263706703578961 : Unit := ()
noncomputable def main.tw13110577991587790113 : Unit := ()
noncomputable def main.tw17146568849442343683 : Unit := ()
noncomputable def main.tw2647654807098235363 : Unit := ()
noncomputable def main.tw6541472054586571296 : Unit := ()
noncomputable def main.tw5401703158475992631 : Unit := ()
noncomputable def main.tw5507402815253087181 : Unit := ()
noncomputable def main.tw1084114956928915155 : Unit := ()
noncomputable def main.tw1678875084529416142 : Unit := ()
noncomputable def main.tw17695171507069755227 : Unit := ()
noncomputable def main.tw14907226015203709474 : Unit := ()
noncomputable def main.tw3562595001068472590 : Unit := ()
noncomputable def main.tw6696893160125735727 : Unit := ()
noncomputable def main.tw1429040668314091153 : Unit := ()
noncomputable def main.tw11505072364899133118 : Unit := ()
noncomputable def main.tw9076515076264148339 : Unit := ()
noncomputable def main.tw6964966759447816979 : Unit := ()
noncomputable def main.tw12801655548991306210 : Unit := ()
noncomputable def main.tw10825838108423173272 : Unit := ()
noncomputable def main.tw13841662599370971200 : Unit := ()
noncomputable def main.tw5473700226181020891 : Unit := ()
noncomputable def main.tw12922898485456448571 : Unit := ()
noncomputable def main.tw5160751907100791332 : Unit := ()
noncomputable def main.tw2199488891245549803 : Unit := ()
noncomputable def main.tw9249803139623362741 : Unit := ()
noncomputable def main.tw6361450105264607166 : Unit := ()
noncomputable def main.tw18176486316997838772 : Unit := ()
noncomputable def main.tw1390771862084280389 : Unit := ()
noncomputable def main.tw16251939892948500945 : Unit := ()
noncomputable def main.tw2406621943657119228 : Unit := ()
noncomputable def main.tw11554813239044494598 : Unit := ()
noncomputable def main.tw16035907590883218939 : Unit := ()
noncomputable def main.tw15624239662980076321 : Unit := ()
noncomputable def main.tw16923884221124529275 : Unit := ()
noncomputable def main.tw6785657489111691699 : Unit := ()
noncomputable def main.tw979501456738626862 : Unit := ()
noncomputable def main.tw10877679251791092727 : Unit := ()
noncomputable def main.tw10114013102757674387 : Unit := ()
noncomputable def main.tw2724176850512262202 : Unit := ()
noncomputable def main.tw12872379398031375081 : Unit := ()
noncomputable def main.tw7698036289167662538 : Unit := ()
noncomputable def main.tw3613476055612923068 : Unit := ()
noncomputable def main.tw8440099810896429113 : Unit := ()
noncomputable def main.tw1826329307503635854 : Unit := ()
noncomputable def main.tw14771111431291430275 : Unit := ()
noncomputable def main.tw18315214858253571532 : Unit := ()
noncomputable def main.tw6044114016751833949 : Unit := ()
noncomputable def main.tw8466321980469482115 : Unit := ()
noncomputable def main.tw10298723112805639129 : Unit := ()
noncomputable def main.tw4990475226369331113 : Unit := ()
noncomputable def main.tw13838900630717943254 : Unit := ()
noncomputable def main.tw9381277316556691805 : Unit := ()
noncomputable def main.tw10363585996791799541 : Unit := ()
noncomputable def main.tw7411558596216406370 : Unit := ()
noncomputable def main.tw17510229520200029679 : Unit := ()
noncomputable def main.tw8663697691656813868 : Unit := ()
noncomputable def main.tw3532412968194664532 : Unit := ()
noncomputable def main.tw10876375607700338302 : Unit := ()
noncomputable def main.tw15734660467963936456 : Unit := ()
noncomputable def main.tw18134284020713443437 : Unit := ()
noncomputable def main.tw11221353774195762014 : Unit := ()
noncomputable def main.tw2629084897520917108 : Unit := ()
noncomputable def main.tw17091655785135471103 : Unit := ()
noncomputable def main.tw12273490649430754879 : Unit := ()
noncomputable def main.tw5102693214775723256 : Unit := ()
noncomputable def main.tw9840939614602229412 : Unit := ()
noncomputable def main.tw16356685582667847594 : Unit := ()
noncomputable def main.tw3779293765908593550 : Unit := ()
noncomputable def main.tw10896356407431480244 : Unit := ()
noncomputable def main.tw7590696779544312186 : Unit := ()
noncomputable def main.tw4039676971129161736 : Unit := ()
noncomputable def main.tw65644731488775911 : Unit := ()
noncomputable def main.tw9957550378297406723 : Unit := ()
noncomputable def main.tw3491332818749588091 : Unit := ()
noncomputable def main.tw302440914744352476 : Unit := ()
noncomputable def main.tw7214478077546791972 : Unit := ()
noncomputable def main.tw16361134009908129286 : Unit := ()
noncomputable def main.tw10665089971535097683 : Unit := ()
noncomputable def main.tw4637267157515435788 : Unit := ()
noncomputable def main.tw750237026923860459 : Unit := ()
noncomputable def main.tw4333880214566435006 : Unit := ()
noncomputable def main.tw3960113756560652017 : Unit := ()
noncomputable def main.tw1850612553970854742 : Unit := ()
noncomputable def main.tw11710404883906591787 : Unit := ()
noncomputable def main.tw6862492499505807319 : Unit := ()
noncomputable def main.tw5400957986263281647 : Unit := ()
noncomputable def main.tw16320729459185622934 : Unit := ()
noncomputable def main.tw2921621734765799159 : Unit := ()
noncomputable def main.tw10177057350305019805 : Unit := ()
noncomputable def main.tw15514936471743626214 : Unit := ()
noncomputable def main.tw18431692314602308842 : Unit := ()
noncomputable def main.tw1777545030009416734 : Unit := ()
noncomputable def main.tw10094358506670053839 : Unit := ()
noncomputable def main.tw16153842264607907944 : Unit := ()
noncomputable def main.tw4900431672193113347 : Unit := ()
noncomputable def main.tw12623159325031504133 : Unit := ()
noncomputable def main.tw14759895335926876869 : Unit := ()
noncomputable def main.tw10821422270917381399 : Unit := ()
noncomputable def main.tw4261964983698606537 : Unit := ()
noncomputable def main.tw16798622893749714585 : Unit := ()
noncomputable def main.tw18442785490491869365 : Unit := ()
noncomputable def main.tw2007339730380871907 : Unit := ()
noncomputable def main.tw16819838333489098493 : Unit := ()
noncomputable def main.tw17477492558424962760 : Unit := ()
noncomputable def main.tw4026956272090484662 : Unit := ()
noncomputable def main.tw6569515737239586001 : Unit := ()
noncomputable def main.tw6557543464795787104 : Unit := ()
noncomputable def main.tw9360745474812902239 : Unit := ()
noncomputable def main.tw2524017781993486291 : Unit := ()
noncomputable def main.tw15465920861327815835 : Unit := ()
noncomputable def main.tw15737690656516749961 : Unit := ()
noncomputable def main.tw10625486282989778954 : Unit := ()
noncomputable def main.tw1409966394225722968 : Unit := ()
noncomputable def main.tw4585930131862741453 : Unit := ()
noncomputable def main.tw66260789543402106 : Unit := ()
noncomputable def main.tw15643365686152983790 : Unit := ()
noncomputable def main.tw11815829001073249272 : Unit := ()
noncomputable def main.tw16721930046160240684 : Unit := ()
noncomputable def main.tw18421580907717582127 : Unit := ()
noncomputable def main.tw17118054049896295152 : Unit := ()
noncomputable def main.tw6741292078354696603 : Unit := ()
noncomputable def main.tw3343439749351644125 : Unit := ()
noncomputable def main.tw16193401482309157537 : Unit := ()
noncomputable def main.tw11261727412033496967 : Unit := ()
noncomputable def main.tw18403998269306519403 : Unit := ()
noncomputable def main.tw33456957511925785 : Unit := ()
noncomputable def main.tw5649967823195072380 : Unit := ()
noncomputable def main.tw15365013842991253249 : Unit := ()
noncomputable def main.tw1157997071576566072 : Unit := ()
noncomputable def main.tw3234112476842188716 : Unit := ()
noncomputable def main.tw12057704586751987240 : Unit := ()
noncomputable def main.tw8930851030842425676 : Unit := ()
noncomputable def main.tw15079240505294077160 : Unit := ()
noncomputable def main.tw9730157408454304684 : Unit := ()
noncomputable def main.tw13350764725976880583 : Unit := ()
noncomputable def main.tw3626430660855392483 : Unit := ()
noncomputable def main.tw12670839924663504800 : Unit := ()
noncomputable def main.tw15768048840197415361 : Unit := ()
noncomputable def main.tw6877560268529008848 : Unit := ()
noncomputable def main.tw16629339528299215175 : Unit := ()
noncomputable def main.tw14662554035588321541 : Unit := ()
noncomputable def main.tw14722489848711283861 : Unit := ()
noncomputable def main.tw8947760058931562597 : Unit := ()
noncomputable def main.tw16922381011570985944 : Unit := ()
noncomputable def main.tw13113777628852026922 : Unit := ()
noncomputable def main.tw11135027115929721415 : Unit := ()
noncomputable def main.tw9272984997812220495 : Unit := ()
noncomputable def main.tw17725498274588495791 : Unit := ()
noncomputable def main.tw5665735395497279834 : Unit := ()
noncomputable def main.tw1178595665728414349 : Unit := ()
noncomputable def main.tw2110754180369666209 : Unit := ()
noncomputable def main.tw4544244032028310869 : Unit := ()
noncomputable def main.tw11595355409239048105 : Unit := ()
noncomputable def main.tw13355152605343272895 : Unit := ()
noncomputable def main.tw13676971244355772609 : Unit := ()
noncomputable def main.tw9557352009045844224 : Unit := ()
noncomputable def main.tw9069182735580402390 : Unit := ()
noncomputable def main.tw3454311308915712629 : Unit := ()
noncomputable def main.tw8557395850702784662 : Unit := ()
noncomputable def main.tw6910295442248876197 : Unit := ()
noncomputable def main.tw1306636233014830658 : Unit := ()
noncomputable def main.tw14646587721710459877 : Unit := ()
noncomputable def main.tw15734200111481486640 : Unit := ()
noncomputable def main.tw5203219222101121401 : Unit := ()
noncomputable def main.tw6334894449686545209 : Unit := ()
noncomputable def main.tw9670510015898674028 : Unit := ()
noncomputable def main.tw7875838824674609581 : Unit := ()
noncomputable def main.tw6886502059237256666 : Unit := ()
noncomputable def main.tw11857135199678951331 : Unit := ()
noncomputable def main.tw3299218664060906527 : Unit := ()
noncomputable def main.tw3045742163950154196 : Unit := ()
set_option Elab.async true in
theorem main : PySem.Challenge.rw_nb0300_01.Holds := by
  w_on
  o_law
  k_head
  (case hw => w_witness2)
  w_strict (
    k_fill
    intro w s₀ s₁ mg mb G Y fa o pm cd doc dV kV ho hd hcd hD hmg hg args vals as hpre hlay hrd hwl hlo
    have KX := km_in_of Y
    km_tabs Y
    have X := (Ground.X G).1
    have V := (Ground.X G).2
    refine Ground.open G ?_
    intro T B D TE TW
    try (refine guard_noD D (by decide +kernel) ?_; clear D)
    km_lay T hmg ho hd cd
    clear hmg
    wrow_args hpre hlay hrd hwl hlo
    all_goals (
      first | refine callC_kw (enter_call ?_) | refine enter_call ?_
      w_top on
      refine post_bare hT9 (fun _ => rfl) ?lawHp ?_
      case lawHp => first | with_unfolding_all rfl | kernel_rfl
      w_call any ho hd hcd hD T F
      clear hd
      kn_ghosts F T
      k_drop
      rename Frag.In _ _ => X9
      rename Top _ _ _ _ _ (ghostOf _ _) => T9
      rename Below _ _ _ _ => K9
      rename Fr _ _ _ _ => F9
      rename News _ _ _ _ => N9
      rename IntsAre _ _ => hI9
      k_dflt (refine' law_out (k := 16) (o := (hd.heap_1 w.params).lookup 241) ?lawH ⟨K9.stays, K9.frames, T9, X9, rfl, rfl, rfl, rfl, ?lawD, ?lawU⟩ ?lawG; (case lawH => k_is))
      case lawD => (simp only [depth_deeper, depth_caller]; decide)
      case lawU => (have hc9 := cLine_is; simp only [units_deeper, units_caller]; (first | lia | omega))
      intro c9
      refine ok_mono (law_body c9 (lk_fr F9) N9 (by assumption) (by assumption) hI9 ?lawZ (by assumption)) ?_
      case lawZ => (have hz9 := ints_len hI9; (first | lia | omega))
      rintro _ s' ⟨rfl, hos, hab, ⟨m, Fm⟩, pt, Nm⟩
      exact ⟨rfl, Fm.keep, hos, hab, GrownAt.of Nm (.head _), trivial⟩))
end
end Mine
theorem PySem.Challenge.cw_nb0300_01_holds : PySem.Challenge.rw_nb0300_01.Holds := by
  exact Mine.main
