import PyProof.Rows.All
import Wide.All
import OpenK.AllK
import Wide.FinOn
import PySem.Challenge.RW_ki0097_01
open PySem PySem.W PyProof.Rows
set_option Elab.async false
namespace Mine
set_option maxRecDepth 100000
set_option maxHeartbeats 8000000
open_top hd for PySem.Challenge.rw_ki0097_01
end Mine

open PySem.Calls PySem.Spec
set_option maxRecDepth 100000
theorem Mine.top_off : True := by
  w_top off
  exact True.intro
namespace Mine

section
variable {prog : Program} {w : World} {A : Around} {s : Shared} {K : Frag} {E : Value → Shared → Prop} {p : Program} {loose : List Str} {mean : ExcName → Option Value} {mg mb : Str → Option Value}
  {name qual : Str} {params : Arguments} {body : List Stmt} {scope : Scope} {dV kV doc pm cdv ct oc : Value} {an od : Option Addr} {osl : Array (Option Value)} {f : Addr} {args : Args} {binds : List (Str × Value)}

theorem callP {R : Result → Shared → Prop} (X : K.In s.heap) (T : Top p loose mean mg mb s.heap)
    (ho : K.lookup f = some ⟨oc, od, .func (fnOf name qual params body scope dV kV doc pm an cdv ct), osl⟩) (hcd : codeIn K cdv qual = true) (hroom : A.depth < recursionLimit)
    (hbind : BindsTo s (fnOf name qual params body scope dV kV doc pm an cdv ct) args binds) (hloc : ∀ y ∈ binds, scope.names.lookup y.1 = some .local)
    (h : ∀ L h₁ tk, L = s.heap.objs.size → Fr s.heap L h₁ (fun y => binds.reverse.lookup y) → News s.heap L h₁ [] →
      wpAny (model prog w) (A.deeper (envOf qual scope L f cdv)) (execs body (envOf qual scope L f cdv))
        (fun fl s' => R (.ok (.ret (match fl with | .ret v => v | _ => .none))) s') (fun _ _ => False)
        { s with heap := h₁, toks := tk })
    (hco : scope.isCoroutine = false) (hgen : scope.isGenerator = false) (hk : scope.kind = .function)
    (hcell : ∀ x ∈ scope.names, x.2 ≠ .cell) : codeAny (model prog w) A (.call (.ref f) args) R s := by
  refine codeAny_call_def (fd := fnOf name qual params body scope dV kV doc pm an cdv ct) (body := body) (binds := binds) hroom (X _ _ ho) rfl T.nolimit (codeRec_of X hcd) rfl hbind hcell hloc (fun h₁ hns hk₁ => ?_) hco hgen hk
  exact wpAny_noRaise (h _ h₁ _ rfl ⟨hns, hk₁, Nat.le_refl _⟩ News.nil)

theorem callPC {R : Result → Shared → Prop} (X : K.In s.heap) (T : Top p loose mean mg mb s.heap)
    (ho : K.lookup f = some ⟨oc, od, .func (fnOf name qual params body scope dV kV doc pm an cdv ct), osl⟩) (hcd : codeIn K cdv qual = true) (hroom : A.depth < recursionLimit)
    (hbind : BindsTo s (fnOf name qual params body scope dV kV doc pm an cdv ct) args binds) (hkind : (binds.all fun y => scope.names.lookup y.1 == some .local || scope.names.lookup y.1 == some .cell) = true)
    (hnd : ((cellsFrom 0 scope.names []).map (·.1)).Nodup)
    (h : ∀ L h₁ tk cells, L = s.heap.objs.size → Fr s.heap L h₁ (bindL (envOfC qual scope L f cdv).kindOf binds fun _ => none) → News s.heap L h₁ cells →
      CellsAre (bindC (envOfC qual scope L f cdv).kindOf binds fun _ => none) (cellsFrom (L + 1) scope.names []) cells →
      wpAny (model prog w) (A.deeper (envOfC qual scope L f cdv)) (execs body (envOfC qual scope L f cdv))
        (fun fl s' => R (.ok (.ret (match fl with | .ret v => v | _ => .none))) s') (fun _ _ => False)
        { s with heap := h₁, toks := tk })
    (hco : scope.isCoroutine = false) (hgen : scope.isGenerator = false) (hk : scope.kind = .function) : codeAny (model prog w) A (.call (.ref f) args) R s := by
  refine codeAny_call_function hroom (X _ _ ho) rfl hco hgen rfl (codeRec_of X hcd) (hbind _ _ _ _ ?_)
  refine wpAny_newFunctionEnv_cells hk (kindsX hkind _) fun env' he s' x => ?_
  subst he
  refine ⟨T.nolimit.keeps x.toInCall.keep, codeAny_func ?_⟩
  obtain ⟨h₁, tk, rfl, _⟩ := x.done
  have hk₁ := x.toInCall.keep
  obtain ⟨cells, NC, Y⟩ := Cl.news (h₀ := s.heap) (Nat.le_refl _) fun n c hm => ⟨x.cell n c (lookup_of_mem_nodup (cellsFrom_names scope.names 0 (s.heap.objs.size + 1) [] [] rfl ▸ hnd) hm), x.above n c hm⟩
  exact wpAny_noRaise (h _ h₁ tk cells rfl ⟨x.toInCall.ns, hk₁, Nat.le_refl _⟩ NC Y)
end

end Mine

namespace Mine
open LCg LCt

section
variable {prog : Program} {w : World} {A : Around} {s : Shared} {h₀ : Heap} {L : Addr} {m : Str → Option Value} {env : Env} {ct elt : Expr} {x : Str} {scope : Scope} {cl : List (Str × Addr)}
  {S : List (Addr × Obj) → Prop} {P : Nat → Value → Prop} {Fin : List Value → List (Addr × Obj) → Prop}

theorem compEnd_mono {s₁ s₂ : Shared} {I C D : Addr} {oI oC oD : Obj} {r r' : Value → List (Addr × Obj) → Prop} {y : Value} (hr : ∀ y n, r y n → r' y n)
    (h : CompEnd h₀ L m s₁ I oI C oC D oD S r y s₂) : CompEnd h₀ L m s₁ I oI C oC D oD S r' y s₂ := by
  obtain ⟨h', tk, n, e, F, N, o, hS, hy⟩ := h
  exact ⟨h', tk, n, e, F, N, o, hS, hr _ _ hy⟩

theorem compRest_ind {n : Nat} (Inv : Nat → List Value → List (Addr × Obj) → Prop)
    (turn : ∀ i ys news, i < n → Inv i ys news → ∀ v I oI C oC D m₂ h tk (E' : Value → Shared → Prop), P i v → NsObj oC m₂ → m₂ x = some v → Fr h₀ L h m → News h₀ L h ((I, oI) :: (C, oC) :: (D, lst ys) :: news) → Off3 I C D news → ((@Ne Nat I C) ∧ (@Ne Nat I D) ∧ (@Ne Nat C D)) →
      wpAny (model prog w) A (eval elt (compEnvC scope cl C env)) (CompEnd h₀ L m { s with heap := h, toks := tk } I oI C oC D (lst ys) S (fun y news' => Inv (i + 1) (ys ++ [y]) news')) E' { s with heap := h, toks := tk })
    (fin : ∀ ys news, Inv n ys news → Fin ys news) :
    ∀ k i ys news, i + k = n → Inv i ys news → CompRest prog w A h₀ L m env elt x scope cl s S P Fin k i ys news := by
  intro k
  induction k with
  | zero => intro i ys news hk hI; exact CompRest.zero (fin _ _ (by have : i = n := by omega
                                                                    exact this ▸ hI))
  | succ k ih =>
    intro i ys news hk hI
    refine CompRest.succ ?_
    intro v I oI C oC D m₂ h tk E' hP hC hx F N off ne
    refine wpAny_mono (turn i ys news (by omega) hI v I oI C oC D m₂ h tk E' hP hC hx F N off ne) (fun y s₂ h₂ => ?_) (fun _ _ e => e)
    exact compEnd_mono (fun y n hi => ih (i + 1) _ _ (by omega) hi) h₂

theorem compRestT_ind {n : Nat} (Inv : Nat → List Value → List (Addr × Obj) → Prop)
    (turn : ∀ i ys news, i < n → Inv i ys news → ∀ v I oI C oC D m₂ h tk (E' : Value → Shared → Prop), P i v → NsObj oC m₂ → m₂ x = some v → Fr h₀ L h m → News h₀ L h ((I, oI) :: (C, oC) :: (D, lst ys) :: news) → Off3 I C D news → ((@Ne Nat I C) ∧ (@Ne Nat I D) ∧ (@Ne Nat C D)) →
      wpAny (model prog w) A (isTrue ct (compEnvC scope cl C env) (eval ct (compEnvC scope cl C env))) (fun ok s' => if ok = true then
        wpAny (model prog w) A (eval elt (compEnvC scope cl C env)) (CompEnd h₀ L m { s with heap := h, toks := tk } I oI C oC D (lst ys) S (fun y news' => Inv (i + 1) (ys ++ [y]) news')) E' s'
        else CompEnd h₀ L m { s with heap := h, toks := tk } I oI C oC D (lst ys) S (fun _ news' => Inv (i + 1) ys news') Value.none s') E' { s with heap := h, toks := tk })
    (fin : ∀ ys news, Inv n ys news → Fin ys news) :
    ∀ k i ys news, i + k = n → Inv i ys news → CompRestT prog w A h₀ L m env ct elt x scope cl s S P Fin k i ys news := by
  intro k
  induction k with
  | zero => intro i ys news hk hI; exact CompRestT.zero (fin _ _ (by have : i = n := by omega
                                                                     exact this ▸ hI))
  | succ k ih =>
    intro i ys news hk hI
    refine CompRestT.succ ?_
    intro v I oI C oC D m₂ h tk E' hP hC hx F N off ne
    refine wpAny_mono (turn i ys news (by omega) hI v I oI C oC D m₂ h tk E' hP hC hx F N off ne) (fun ok s₂ h₂ => ?_) (fun _ _ e => e)
    cases ok with
    | true =>
      simp only [if_true] at h₂ ⊢
      exact wpAny_mono h₂ (fun y s₃ h₃ => compEnd_mono (fun y n hi => ih (i + 1) _ _ (by omega) hi) h₃) (fun _ _ e => e)
    | false =>
      simp only [Bool.false_eq_true, if_false] at h₂ ⊢
      exact compEnd_mono (fun y n hi => ih (i + 1) _ _ (by omega) hi) h₂
end

end Mine

namespace Mine
open LCg LCt

section
variable {prog : Program} {w : World} {A : Around} {E : Value → Shared → Prop} {s : Shared}

theorem item_at {value slice : PySem.Expr} {l : Addr} {items : Array Value} {k : Int} {u : Tok} {v : Value} {Q : Value → Shared → Prop}
    (hl : s.heap.IsList l items) (h0 : 0 ≤ k) (hhi : k < 2 ^ 63) (hx : items[k.toNat]? = some v) (h : Q v s)
    (hs : subscripted slice false (.ref l) (.int k u) = operate [.ref l, .int k u] (getItem (.ref l) (.int k u)) := by with_unfolding_all rfl) :
    wpAny (model prog w) A (subscriptTail value slice (.ref l) (.int k u)) Q E s :=
  tail_any hl.typeIs slot_list_getitem.lookup (wpAny_getItem_list hl h0 hhi hx h) hs

theorem item_neg {value slice : PySem.Expr} {l : Addr} {items : Array Value} {k : Int} {u : Tok} {v : Value} {Q : Value → Shared → Prop}
    (hl : s.heap.IsList l items) (h0 : k < 0) (h1 : -(items.size : Int) ≤ k) (hfit : -(2 ^ 63) ≤ k) (hx : items[(k + items.size).toNat]? = some v) (h : Q v s)
    (hs : subscripted slice false (.ref l) (.int k u) = operate [.ref l, .int k u] (getItem (.ref l) (.int k u)) := by with_unfolding_all rfl) :
    wpAny (model prog w) A (subscriptTail value slice (.ref l) (.int k u)) Q E s :=
  tail_any hl.typeIs slot_list_getitem.lookup (wpAny_getItem_list_neg hl h0 h1 hfit hx h) hs
end

/-- a text of bounded length, its signs in range -/
abbrev TOk (n : Nat) (x : Str) : Prop := x.length ≤ n ∧ PyData.strOk x = true
/-- the values that are texts -/
def IsText (n : Nat) (v : Value) : Prop := ∃ x t, v = Value.str x t ∧ TOk n x

theorem strOk_append {x y : Str} (hx : PyData.strOk x = true) (hy : PyData.strOk y = true) : PyData.strOk (x ++ y) = true := by
  unfold PyData.strOk at *
  rw [Str.cps_append, Array.all_append, hx, hy]; rfl
theorem join_strOk {sep : Str} (hs : PyData.strOk sep = true) : ∀ l : List Str, (∀ p ∈ l, PyData.strOk p = true) → PyData.strOk (Str.join sep l) = true
  | [], _ => by show PyData.strOk Str.empty = true; decide +kernel
  | [x], h => h x List.mem_cons_self
  | x :: y :: r, h => strOk_append (strOk_append (h x List.mem_cons_self) hs) (join_strOk hs (y :: r) fun p hp => h p (List.mem_cons_of_mem _ hp))
theorem strOk_left {x y : Str} (h : PyData.strOk (x ++ y) = true) : PyData.strOk x = true ∧ PyData.strOk y = true := by
  unfold PyData.strOk at *
  rw [Str.cps_append, Array.all_append] at h
  exact Bool.and_eq_true_iff.mp h
theorem join_parts_strOk {sep : Str} : ∀ l : List Str, PyData.strOk (Str.join sep l) = true → ∀ p ∈ l, PyData.strOk p = true
  | [], _, p, hp => nomatch hp
  | [x], h, p, hp => (List.mem_singleton.mp hp) ▸ h
  | x :: y :: r, h, p, hp => by
    have h1 := strOk_left (x := x ++ sep) h
    rcases List.mem_cons.mp hp with rfl | hp
    · exact (strOk_left h1.1).1
    · exact join_parts_strOk (y :: r) h1.2 p hp
theorem join_parts_len {sep : Str} : ∀ l : List Str, (∀ p ∈ l, p.length ≤ (Str.join sep l).length)
  | [], p, hp => nomatch hp
  | [x], p, hp => (List.mem_singleton.mp hp) ▸ Nat.le_refl _
  | x :: y :: r, p, hp => by
    have e : (Str.join sep (x :: y :: r)).length = x.length + sep.length + (Str.join sep (y :: r)).length := by
      show (x ++ sep ++ Str.join sep (y :: r)).length = _
      rw [Str.length_append, Str.length_append]
    rcases List.mem_cons.mp hp with rfl | hp
    · omega
    · have := join_parts_len (sep := sep) (y :: r) p hp
      omega
theorem join_len {sep : Str} (hs : 1 ≤ sep.length) : ∀ l : List Str, l.length ≤ (Str.join sep l).length + 1
  | [] => Nat.zero_le _
  | [x] => by simp
  | x :: y :: r => by
    have e : (Str.join sep (x :: y :: r)).length = x.length + sep.length + (Str.join sep (y :: r)).length := by
      show (x ++ sep ++ Str.join sep (y :: r)).length = _
      rw [Str.length_append, Str.length_append]
    have := join_len hs (y :: r)
    simp only [List.length_cons] at this ⊢
    omega
/-- the parts of a good text are good -/
theorem split_ok {n : Nat} {x y : Str} (h : TOk n x) : ∀ p ∈ Txt.split x y, TOk n p := by
  have e := StrLaws.join_split x y
  intro p hp
  refine ⟨Nat.le_trans (join_parts_len (sep := y) _ p hp) (by rw [e]; exact h.1), join_parts_strOk (sep := y) _ (by rw [e]; exact h.2) p hp⟩
theorem split_len {n : Nat} {x y : Str} (hy : 1 ≤ y.length) (h : x.length ≤ n) : (Txt.split x y).length ≤ n + 1 := by
  have := join_len hy (Txt.split x y)
  rw [StrLaws.join_split] at this
  omega

theorem four_texts {a b c d : Str} {ta tb tc td : Tok} {n : Nat} (ha : TOk n a) (hb : TOk n b) (hc : TOk n c) (hd : TOk n d) {k : Int} (h0 : 0 ≤ k) (h4 : k < 4) :
    ∃ v, (#[Value.str a ta, .str b tb, .str c tc, .str d td] : Array Value)[k.toNat]? = some v ∧ IsText n v := by
  have : k = 0 ∨ k = 1 ∨ k = 2 ∨ k = 3 := by omega
  rcases this with rfl | rfl | rfl | rfl
  · exact ⟨_, rfl, _, _, rfl, ha⟩
  · exact ⟨_, rfl, _, _, rfl, hb⟩
  · exact ⟨_, rfl, _, _, rfl, hc⟩
  · exact ⟨_, rfl, _, _, rfl, hd⟩

theorem item_text4 {prog : Program} {w : World} {A : Around} {E : Value → Shared → Prop} {s : Shared} {value slice : PySem.Expr} {l : Addr} {j : Int} {u : Tok} {Q : Value → Shared → Prop}
    {a b c d : Str} {ta tb tc td : Tok} {n : Nat} (hl : s.heap.IsList l #[Value.str a ta, .str b tb, .str c tc, .str d td]) (ha : TOk n a) (hb : TOk n b) (hc : TOk n c) (hd : TOk n d)
    (h : ∀ v, IsText n v → Q v s)
    (hs : subscripted slice false (.ref l) (.int (j.fmod 4) u) = operate [.ref l, .int (j.fmod 4) u] (getItem (.ref l) (.int (j.fmod 4) u)) := by with_unfolding_all rfl) :
    wpAny (model prog w) A (subscriptTail value slice (.ref l) (.int (j.fmod 4) u)) Q E s := by
  have h0 : 0 ≤ j.fmod 4 := Int.fmod_nonneg_of_pos _ (by decide)
  have h4 : j.fmod 4 < 4 := Int.fmod_lt_of_pos _ (by decide)
  obtain ⟨v, hv, hvt⟩ := four_texts (ta := ta) (tb := tb) (tc := tc) (td := td) ha hb hc hd h0 h4
  exact item_at hl h0 (Int.lt_trans h4 (by decide)) hv (h v hvt) hs

theorem texts_of {n : Nat} : ∀ (ys : List Value), (∀ y ∈ ys, IsText n y) → ∃ l : List (Str × Tok), strValues l = ys ∧ l.length = ys.length ∧ ∀ p ∈ l, TOk n p.1
  | [], _ => ⟨[], rfl, rfl, by simp⟩
  | y :: r, h => by
    obtain ⟨l, h1, h2, h3⟩ := texts_of r (fun z hz => h z (List.mem_cons_of_mem _ hz))
    obtain ⟨x, t, rfl, hx⟩ := h y List.mem_cons_self
    refine ⟨(x, t) :: l, ?_, by simp [h2], ?_⟩
    · rw [← h1]; rfl
    · intro p hp
      rcases List.mem_cons.mp hp with rfl | hp
      · exact hx
      · exact h3 p hp

theorem sum_bound (sep : Str) (n : Nat) : ∀ (l : List Str) (a : Nat), (∀ p ∈ l, p.length ≤ n) → l.foldl (fun k p => k + p.length + sep.length) a ≤ a + l.length * (n + sep.length)
  | [], a, _ => by simp
  | x :: r, a, h => by
    have h1 := sum_bound sep n r (a + x.length + sep.length) (fun p hp => h p (List.mem_cons_of_mem _ hp))
    have h2 := h x List.mem_cons_self
    simp only [List.foldl_cons, List.length_cons]
    have h3 : (r.length + 1) * (n + sep.length) = r.length * (n + sep.length) + (n + sep.length) := by rw [Nat.add_mul, Nat.one_mul]
    omega

theorem join_bounds (sep : Str) (n c : Nat) (l : List Str) (h : ∀ p ∈ l, TOk n p) (hs : PyData.strOk sep = true) (hc : l.length * (n + sep.length) ≤ c) (hcl : c ≤ sizeLine) : JoinOk sep l = true ∧ TOk c (Txt.join sep l) := by
  have h1 := sum_bound sep n l 0 (fun p hp => (h p hp).1)
  have h2 : l.toArray.foldl (fun k p => k + p.length + sep.length) 0 ≤ c := by
    rw [List.foldl_toArray]; omega
  constructor
  · unfold JoinOk
    rw [Bool.not_eq_true']
    unfold Builtin.Str.tooLong
    simp only [decide_eq_false_iff_not, Nat.not_lt]
    exact Nat.le_trans h2 hcl
  · have h3 : (Txt.join sep l) = Builtin.Str.glued sep l := rfl
    rw [h3, StrLaws.glued_eq_join]
    refine ⟨?_, join_strOk hs _ (fun p hp => (h p hp).2)⟩
    refine Nat.le_trans (StrLaws.join_length_le sep l) ?_
    rw [← StrLaws.joinTotal]
    exact h2
end Mine

namespace Mine
open LCg LCt
set_option maxHeartbeats 8000000
local macro_rules | `(tactic| walk_at "mine") => `(tactic| repeat' (first | (k_unfold; (try dsimp only)) | ((fail_if_success (with_reducible show wpAny _ _ (subscriptTail _ _ _ _) _ _ _)); walk1) | ((fail_if_success (with_reducible show wpAny _ _ (subscriptTail _ _ _ _) _ _ _)); dsimp only; walk1)))

theorem law_name_spec {w : World} {A : Around} {s : Shared} {Q E : Value → Shared → Prop} {mean : ExcName → Option Value} {mg mb : Str → Option Value} {q : Int} {t : Tok} :
    (hd.heap_39 w.params).In s.heap → Top hd.view_39 (looseW hd.view_39 []) mean mg mb s.heap → A.handled = none → A.depth + 5 < recursionLimit →
    (∀ x t' h' tk', s.heap.StaysIn h' → TOk 64 x → Q (.str x t') { s with heap := h', toks := tk' }) →
    wpAny (model Challenge.rw_ki0097_01.row.prog w) A (call (.ref 88) [.int q t]) Q E s := by
  k_fill
  intro X T hh hroom hret
  refine wpAny_call ?_
  k_dflt (refine' callPC X T ?k6 ?k7 ?k8 ?k9 ?kB ?kD ?_ ?c2 ?c3 ?c4; (case k6 => k_is); (case k7 => k_is); (case k8 => omega); (case k9 => exact BindsTo.of_eq rfl); (case kB => exact rfl); (case kD => decide +kernel); (case c2 => exact rfl); (case c3 => exact rfl); (case c4 => exact rfl); k_whole)
  intro L h₁ tk cells hL F N Y
  k_cells Y
  (try simp only [List.cons_append, List.nil_append] at N)
  try dsimp only
  walk_at "mine"
  · dsimp only
    exact hret _ _ _ _ (Fr.keep (by assumption)) (by decide +kernel)
  · have hb : 0 ≤ q.fmod 3 ∧ q.fmod 3 < 3 := ⟨Int.fmod_nonneg_of_pos _ (by decide), Int.fmod_lt_of_pos _ (by decide)⟩
    refine LCg.CompSrc.range (n := (q.fmod 3 + 1).toNat) hh (by assumption) (by assumption) (by assumption) ?sm ?sz ?le ?_
    case sm =>
      have h3 : q.fmod 3 = 0 ∨ q.fmod 3 = 1 ∨ q.fmod 3 = 2 := by omega
      rcases h3 with h3 | h3 | h3 <;> (rw [h3]; decide)
    case sz =>
      have h3 : q.fmod 3 = 0 ∨ q.fmod 3 = 1 ∨ q.fmod 3 = 2 := by omega
      rcases h3 with h3 | h3 | h3 <;> (rw [h3]; decide)
    case le => rw [sizeLine_eq]; omega
    intro g
    refine compRest_ind (fun i ys news => news = _ ∧ ys.length = i ∧ ∀ y ∈ ys, IsText 8 y) ?turn ?fin _ 0 [] _ (Nat.zero_add _) ⟨rfl, rfl, by simp⟩
    case turn =>
      rintro i ys news hi ⟨rfl, hlen, hys⟩ v I oI C oC D m₂ h tk E' ⟨t0, rfl⟩ hC hx F N off ne
      simp only [LCg.Off3, and_true] at off
      have h3 : i = 0 ∨ i = 1 ∨ i = 2 := by omega
      rcases h3 with h3 | h3 | h3
      all_goals (
        subst h3
        walk_at "mine"
        refine item_text4 (n := 8) (News.isList (by assumption) (by k_mem)) (by decide +kernel) (by decide +kernel) (by decide +kernel) (by decide +kernel) ?_
        intro v hvt
        exact CompEnd.intro (by assumption) (by assumption) _ (fun p hp => hp) (Off3.of (by simp [off])) trivial ⟨rfl, by simp [hlen], by intro y hy; rcases List.mem_append.mp hy with hy | hy; exact hys y hy; exact (List.mem_singleton.mp hy) ▸ hvt⟩)
    case fin =>
      rintro ys news ⟨rfl, hlen, hys⟩
      intro D h tk F N off
      obtain ⟨l, hl1, hl2, hl3⟩ := texts_of ys hys
      have hj := join_bounds (Str.ofString ".") 8 60 (l.map (·.1)) (by intro p hp; obtain ⟨q, hq, rfl⟩ := List.mem_map.mp hp; exact hl3 q hq) (by decide +kernel) (by
        rw [List.length_map, hl2, hlen, show (Str.ofString ".").length = 1 from by decide]; omega) (by rw [sizeLine_eq]; omega)
      walk1
      try dsimp only
      refine SC.join (l := l) (by rw [hl1]; exact News.isList N (by k_mem)) rfl hj.1 ?_
      intro t' k
      exact hret _ _ _ _ F.keep ⟨by have := hj.2.1; omega, hj.2.2⟩
end Mine

namespace Mine
open LCg LCt
set_option maxHeartbeats 8000000
local macro_rules | `(tactic| walk_at "mine") => `(tactic| repeat' (first | (k_unfold; (try dsimp only)) | ((fail_if_success (with_reducible show wpAny _ _ (subscriptTail _ _ _ _) _ _ _)); walk1) | ((fail_if_success (with_reducible show wpAny _ _ (subscriptTail _ _ _ _) _ _ _)); dsimp only; walk1)))

theorem law_path_spec {w : World} {A : Around} {s : Shared} {Q E : Value → Shared → Prop} {mean : ExcName → Option Value} {mg mb : Str → Option Value} {q : Int} {t : Tok} :
    (hd.heap_39 w.params).In s.heap → Top hd.view_39 (looseW hd.view_39 []) mean mg mb s.heap → A.handled = none → A.depth + 5 < recursionLimit →
    (∀ x t' h' tk', s.heap.StaysIn h' → TOk 64 x → Q (.str x t') { s with heap := h', toks := tk' }) →
    wpAny (model Challenge.rw_ki0097_01.row.prog w) A (call (.ref 93) [.int q t]) Q E s := by
  k_fill
  intro X T hh hroom hret
  refine wpAny_call ?_
  k_dflt (refine' callPC X T ?k6 ?k7 ?k8 ?k9 ?kB ?kD ?_ ?c2 ?c3 ?c4; (case k6 => k_is); (case k7 => k_is); (case k8 => omega); (case k9 => exact BindsTo.of_eq rfl); (case kB => exact rfl); (case kD => decide +kernel); (case c2 => exact rfl); (case c3 => exact rfl); (case c4 => exact rfl); k_whole)
  intro L h₁ tk cells hL F N Y
  k_cells Y
  (try simp only [List.cons_append, List.nil_append] at N)
  try dsimp only
  walk_at "mine"
  have hb : 0 ≤ (q.fdiv 2).fmod 3 ∧ (q.fdiv 2).fmod 3 < 3 := ⟨Int.fmod_nonneg_of_pos _ (by decide), Int.fmod_lt_of_pos _ (by decide)⟩
  refine LCg.CompSrc.range (n := ((q.fdiv 2).fmod 3 + 1).toNat) hh (by assumption) (by assumption) (by assumption) ?sm ?sz ?le ?_
  case sm =>
    have h3 : (q.fdiv 2).fmod 3 = 0 ∨ (q.fdiv 2).fmod 3 = 1 ∨ (q.fdiv 2).fmod 3 = 2 := by omega
    rcases h3 with h3 | h3 | h3 <;> (rw [h3]; decide)
  case sz =>
    have h3 : (q.fdiv 2).fmod 3 = 0 ∨ (q.fdiv 2).fmod 3 = 1 ∨ (q.fdiv 2).fmod 3 = 2 := by omega
    rcases h3 with h3 | h3 | h3 <;> (rw [h3]; decide)
  case le => rw [sizeLine_eq]; omega
  intro g
  refine compRest_ind (fun i ys news => news = _ ∧ ys.length = i ∧ ∀ y ∈ ys, IsText 8 y) ?turn ?fin _ 0 [] _ (Nat.zero_add _) ⟨rfl, rfl, by simp⟩
  case turn =>
    rintro i ys news hi ⟨rfl, hlen, hys⟩ v I oI C oC D m₂ h tk E' ⟨t0, rfl⟩ hC hx F N off ne
    simp only [LCg.Off3, and_true] at off
    have h3 : i = 0 ∨ i = 1 ∨ i = 2 := by omega
    rcases h3 with h3 | h3 | h3
    all_goals (
      subst h3
      walk_at "mine"
      refine item_text4 (n := 8) (News.isList (by assumption) (by k_mem)) (by decide +kernel) (by decide +kernel) (by decide +kernel) (by decide +kernel) ?_
      intro v hvt
      exact CompEnd.intro (by assumption) (by assumption) _ (fun p hp => hp) (Off3.of (by simp [off])) trivial ⟨rfl, by simp [hlen], by intro y hy; rcases List.mem_append.mp hy with hy | hy; exact hys y hy; exact (List.mem_singleton.mp hy) ▸ hvt⟩)
  case fin =>
    rintro ys news ⟨rfl, hlen, hys⟩
    intro D h tk F N off
    obtain ⟨l, hl1, hl2, hl3⟩ := texts_of ys hys
    have hj := join_bounds (Str.ofString "/") 8 60 (l.map (·.1)) (by intro p hp; obtain ⟨q, hq, rfl⟩ := List.mem_map.mp hp; exact hl3 q hq) (by decide +kernel) (by
      rw [List.length_map, hl2, hlen, show (Str.ofString "/").length = 1 from by decide]; omega) (by rw [sizeLine_eq]; omega)
    walk1
    try dsimp only
    refine SC.join (l := l) (by rw [hl1]; exact News.isList N (by k_mem)) rfl hj.1 ?_
    intro t' k
    have hm : TOk 1 (Txt.mul (Str.ofString "/") (q.fmod 2)) := by
      have h0 : 0 ≤ q.fmod 2 := Int.fmod_nonneg_of_pos _ (by decide)
      have h2 : q.fmod 2 < 2 := Int.fmod_lt_of_pos _ (by decide)
      have h3 : q.fmod 2 = 0 ∨ q.fmod 2 = 1 := by omega
      rcases h3 with h3 | h3 <;> (rw [h3]; decide +kernel)
    have hj2 := hj.2.1
    have hm1 := hm.1
    refine PyProof.Rows.add_str ?_ (by rw [sizeLine_eq]; omega)
    intro t'' tk''
    exact hret _ _ _ _ F.keep ⟨by rw [Str.length_append]; omega, strOk_append hm.2 hj.2.2⟩
end Mine

namespace Mine
open LCg LCt
set_option maxHeartbeats 8000000
local macro_rules | `(tactic| walk_at "call ref") => `(tactic| (k_here; refine law_name_spec (Frag.In.keeps (by k_asm) (Fr.keep (by k_asm))) (Top.keeps (by k_asm) (Fr.keep (by k_asm))) (by assumption) (by (first | omega | (show _ + 1 + _ < _; omega))) ?_; intro x9 t9 h9 tk9 st9 hx9; (have F9 := Fr.keeps (by k_asm) st9); (have N9 := News.grown (by k_asm) st9); (try k_sweep); (try dsimp only)))
local macro_rules | `(tactic| walk_at "call ref") => `(tactic| (k_here; refine law_path_spec (Frag.In.keeps (by k_asm) (Fr.keep (by k_asm))) (Top.keeps (by k_asm) (Fr.keep (by k_asm))) (by assumption) (by (first | omega | (show _ + 1 + _ < _; omega))) ?_; intro x9 t9 h9 tk9 st9 hx9; (have F9 := Fr.keeps (by k_asm) st9); (have N9 := News.grown (by k_asm) st9); (try k_sweep); (try dsimp only)))
local macro_rules | `(tactic| walk_at "mine") => `(tactic| repeat' (first | (k_unfold; (try dsimp only)) | ((fail_if_success (with_reducible show wpAny _ _ (subscriptTail _ _ _ _) _ _ _)); walk1) | ((fail_if_success (with_reducible show wpAny _ _ (subscriptTail _ _ _ _) _ _ _)); dsimp only; walk1)))

abbrev tupO (vs : List Value) : Obj := { cls := .type "tuple", data := .seq vs.toArray }

theorem law_ask_spec {w : World} {A : Around} {s : Shared} {Q E : Value → Shared → Prop} {mean : ExcName → Option Value} {mg mb : Str → Option Value} {q : Int} {t : Tok} :
    (hd.heap_39 w.params).In s.heap → Top hd.view_39 (looseW hd.view_39 []) mean mg mb s.heap → A.handled = none → A.depth + 10 < recursionLimit →
    (∀ T x t' p h' tk', s.heap.StaysIn h' → s.heap.get? T = none → TOk 64 x → (p = Value.none ∨ IsText 64 p) → h'.get? T = some (tupO [.str x t', p]) → Q (.ref T) { s with heap := h', toks := tk' }) →
    wpAny (model Challenge.rw_ki0097_01.row.prog w) A (call (.ref 100) [.int q t]) Q E s := by
  k_fill
  intro X T hh hroom hret
  refine wpAny_call ?_
  k_dflt (refine' callP X T ?k6 ?k7 ?k8 ?k9 ?kB ?_ ?c2 ?c3 ?c4 ?c5; (case k6 => k_is); (case k7 => k_is); (case k8 => omega); (case k9 => exact BindsTo.of_eq rfl); (case kB => exact locs rfl); (case c5 => decide); (case c2 => exact rfl); (case c3 => exact rfl); (case c4 => exact rfl); k_whole)
  intro L h₁ tk hL F N
  try dsimp only
  walk_at "mine"
  · refine hret _ _ _ _ _ _ (Fr.keep (by assumption)) ?b ?c ?d (News.get (by assumption) (by k_mem))
    case b => exact News.fresh (by assumption) (by k_mem)
    case c => assumption
    case d => exact Or.inl rfl
  · refine hret _ _ _ _ _ _ (Fr.keep (by assumption)) ?b ?c ?d (News.get (by assumption) (by k_mem))
    case b => exact News.fresh (by assumption) (by k_mem)
    case c => assumption
    case d => exact Or.inr ⟨_, _, rfl, by assumption⟩
end Mine

namespace Mine

theorem strsCarried : ∀ {vs : List Value} {ys : List Str}, StrsAre vs ys → CarriedAll vs (ys.map PyData.str)
  | _, _, .nil => .nil
  | _, _, .cons _ t r => .cons (.str _ t) (strsCarried r)
abbrev AllOk (ns : List Str) : Prop := ∀ x ∈ ns, PyData.strOk x = true
theorem strs_canLayAll0 : ∀ ns : List Str, AllOk ns → PyData.canLayAll0 (ns.map PyData.str) = true
  | [], _ => rfl
  | x :: r, h => by
    have h1 := strs_canLayAll0 r (fun y hy => h y (List.mem_cons_of_mem _ hy))
    have h2 := h x List.mem_cons_self
    simp [PyData.canLayAll0, PyData.canLay0, h1, h2]
theorem strs_depthAll : ∀ ns : List Str, PyData.depthAll (ns.map PyData.str) = 0
  | [] => rfl
  | _ :: r => by simp [PyData.depthAll, PyData.depth, strs_depthAll r]
theorem strs_shaped (ns : List Str) (h : AllOk ns) : SeqAt.shaped (.list (ns.map PyData.str)) = true := by
  simp [SeqAt.shaped, PyData.canLay0, PyData.depth, strs_canLayAll0 ns h, strs_depthAll]
theorem strs_sameAll : ∀ ns ms : List Str, PySem.Spec.sameAll (ns.map PyData.str) (ms.map PyData.str) = decide (ns = ms)
  | [], [] => by simp [PySem.Spec.sameAll]
  | [], _ :: _ => by simp [PySem.Spec.sameAll]
  | _ :: _, [] => by simp [PySem.Spec.sameAll]
  | a :: r, b :: t => by
    simp only [List.map_cons, PySem.Spec.sameAll, PySem.Spec.same, strs_sameAll r t]
    by_cases h : a = b <;> by_cases h' : r = t <;> simp [h, h']
theorem strs_same (ns ms : List Str) : PySem.Spec.same (.list (ns.map PyData.str)) (.list (ms.map PyData.str)) = decide (ns = ms) := by
  simp only [PySem.Spec.same]; exact strs_sameAll ns ms

section
variable {prog : Program} {w : World} {A : Around} {E : Value → Shared → Prop} {s : Shared} {a b : Addr} {xs ys : List Value} {ns ms : List Str} {Q : Value → Shared → Prop}
theorem eq_texts (ha : s.heap.IsList a xs.toArray) (hb : s.heap.IsList b ys.toArray) (hi : StrsAre xs ns) (hj : StrsAre ys ms) (hn : AllOk ns) (hm : AllOk ms) (hu : A.units + 64 < cLine) (h : Q (.bool (decide (ns = ms))) s) :
    wpAny (model prog w) A (compareOp .Eq (.ref a) (.ref b)) Q E s :=
  eq_dataH_same (reads_newData ha (strsCarried hi)) (reads_newData hb (strsCarried hj)) (strs_shaped _ hn) (strs_shaped _ hm) hu (SeqAt.noMix_of_shape (.list .str) rfl _ _ (list_map_has fun _ => rfl) (list_map_has fun _ => rfl)) (by rw [strs_same]; exact h)
theorem ne_texts (ha : s.heap.IsList a xs.toArray) (hb : s.heap.IsList b ys.toArray) (hi : StrsAre xs ns) (hj : StrsAre ys ms) (hn : AllOk ns) (hm : AllOk ms) (hu : A.units + 64 < cLine) (h : Q (.bool (!decide (ns = ms))) s) :
    wpAny (model prog w) A (compareOp .NotEq (.ref a) (.ref b)) Q E s :=
  ne_dataH_same (reads_newData ha (strsCarried hi)) (reads_newData hb (strsCarried hj)) (strs_shaped _ hn) (strs_shaped _ hm) hu (SeqAt.noMix_of_shape (.list .str) rfl _ _ (list_map_has fun _ => rfl) (list_map_has fun _ => rfl)) (by rw [strs_same]; exact h)
end

theorem strsTake : ∀ {vs : List Value} {ys : List Str} (n : Nat), StrsAre vs ys → StrsAre (vs.take n) (ys.take n)
  | _, _, 0, _ => by simpa using StrsAre.nil
  | _, _, _ + 1, .nil => by simpa using StrsAre.nil
  | _, _, n + 1, .cons x t r => by simpa using StrsAre.cons x t (strsTake n r)

section
variable {prog : Program} {w : World} {A : Around} {E : Value → Shared → Prop} {s : Shared} {h₀ : Heap} {L l : Addr} {m : Str → Option Value} {news : List (Addr × Obj)} {value slice : PySem.Expr} {vs : List Value} {Q : Value → Shared → Prop}

theorem slice_upto {k : Int} {t : Tok} (F : Fr h₀ L s.heap m) (N : News h₀ L s.heap news) (hl : s.heap.IsList l vs.toArray) (hk : 0 ≤ k) (hz : vs.length ≤ sizeLine)
    (h : ∀ D h', Fr h₀ L h' m → News h₀ L h' ((D, W.listOf (vs.take k.toNat).toArray 0) :: news) → (∀ p ∈ news, p.1 < D) → Q (.ref D) { s with heap := h' })
    (hs : subscripted slice false (.ref l) (.ref s.heap.objs.size) = operate [.ref s.heap.objs.size, .ref l] (getItem (.ref l) (.ref s.heap.objs.size)) := by with_unfolding_all rfl) :
    wpAny (model prog w) A (subscriptTail value slice (.ref l) (.ref s.heap.objs.size)) Q E { s with heap := s.heap.push { cls := .type "slice", data := .fields #[.none, .int k t, .none] } } := by
  refine kba_turn (value' := PySem.Expr.Name (PySem.Str.ofString "_") ⟨0, 0, 0, 0⟩) (fun _ => rfl) ?_
  refine kms_slice_lit (zs := vs.take k.toNat) F N hl .none (.int k t) ?_ h hs (fun _ => rfl) (by rw [List.size_toArray]; exact hz)
  unfold kms_pick
  simp only [kms_lo, kms_hi, List.drop_zero, Nat.sub_zero, if_neg (show ¬ (k < 0) by omega)]
  exact kmk_take_min _ _
end

section
variable {prog : Program} {w : World} {A : Around} {E : Value → Shared → Prop} {s : Shared} {env : Env} {h₀ : Heap} {x : Str} {body : List Stmt} {Q : Flow → Shared → Prop}
/-- a loop over a list that stands in the base -/
theorem iter_vals {l : Addr} {vs : List Value} {m₀ : Str → Option Value} {news : List (Addr × Obj)} (J : Nat → (Str → Option Value) → Prop)
    (hh : A.handled = none) (hl : h₀.IsList l vs.toArray) (F : Fr h₀ env.locals s.heap m₀) (N : News h₀ env.locals s.heap news) (hj : J 0 m₀)
    (turn : ∀ i v m₁ h tk own, vs[i]? = some v → J i m₁ → (∀ p ∈ own, ∀ q ∈ news, p.1 ≠ q.1) → Fr h₀ env.locals h (fun y => if y = x then some v else m₁ y) → News h₀ env.locals h (own ++ news) →
      wpAny (model prog w) A (execs body env) (InvPost h₀ env.locals (J (i + 1)) (own ++ news) { s with heap := h, toks := tk } Q) E { s with heap := h, toks := tk })
    (done : ∀ m₁ h tk, J vs.length m₁ → Fr h₀ env.locals h m₁ → News h₀ env.locals h news → Q .next { s with heap := h, toks := tk }) :
    wpAny (model prog w) A (pyIter (.ref l)) (fun it s₂ => LoopAtV prog w A h₀ env x body Q E it s₂) E s := by
  have hls : s.heap.IsList l vs.toArray := hl.at fun o e => F.keep l o e
  obtain ⟨ol, hol, _⟩ := id hl
  have hlt : l < h₀.objs.size := Heap.lt_size hol
  have hne : l ≠ s.heap.objs.size := Nat.ne_of_lt (Nat.lt_trans (Nat.lt_of_lt_of_le hlt F.above) F.ns.lt)
  refine wpAny_pyIter_list hls ?_
  have W := Walks.list (prog := prog) (w := w) hh s.heap.objs.size l hne vs.toArray
  rw [List.size_toArray] at W
  let J' : Nat → (Str → Option Value) → List (Addr × Obj) → Prop := fun i m₁ news₁ => news₁ = news ∧ J i m₁
  refine ⟨_, _, _, vs.length, _, _, m₀, news, J', rfl, W, ?_, ?_, ?_, ⟨⟨_, Heap.get?_push_size _ rfl, rfl, rfl⟩, hls.at fun o e => Heap.get?_push_of_some _ e⟩, F.push _, (fun p hp => ⟨Heap.get?_push_of_some _ (N p hp).1, (N p hp).2⟩), ⟨rfl, hj⟩, ?_, ?_⟩
  · intro hm
    rcases List.mem_cons.mp hm with e | hm
    · exact absurd F.ns.lt (e ▸ Nat.lt_irrefl _)
    · exact absurd (Nat.lt_of_lt_of_le hlt F.above) ((List.mem_singleton.mp hm) ▸ Nat.lt_irrefl _)
  · intro b hb
    rw [List.mem_singleton.mp hb]
    exact next_is_new F
  · intro p hp hI
    exact absurd (Heap.lt_size (N p hp).1) ((List.mem_singleton.mp hI) ▸ Nat.lt_irrefl _)
  · rintro i v m₁ news₁ s₁ own ⟨hh', tk', rfl⟩ hin hP ⟨rfl, hJ⟩ hoff hown _ _ _ F₁ N₁
    have hP' : vs[i]? = some v := by simpa using hP
    have hsep : ∀ p ∈ own, ∀ q ∈ news₁, p.1 ≠ q.1 := by
      intro p hp q hq e
      rcases List.mem_cons.mp (hown p hp) with h1 | h1
      · exact absurd (Heap.lt_size (N q hq).1) (by rw [← e, h1]; exact Nat.lt_irrefl _)
      · have h2 := List.mem_singleton.mp h1
        have h3 := (N q hq).2.2
        rw [← e, h2, hol] at h3
        cases h3
    refine wpAny_mono (turn i v m₁ hh' tk' own hP' hJ hsep F₁ N₁) (fun f s₂ p => ?_) fun _ _ e => e
    have fin : InvEnd h₀ env.locals (J (i + 1)) (own ++ news₁) { s with heap := hh', toks := tk' } s₂ → LoopStepU h₀ env.locals [s.heap.objs.size] own (J' (i + 1)) { s with heap := hh', toks := tk' } .next s₂ := by
      rintro ⟨h', tk, m', news', e, F', N', hn, hm⟩
      exact ⟨rfl, h', tk, m', news₁, e, F', fun p hp => N' p (hn p hp), hoff, rfl, hm⟩
    cases f with
    | ret v => exact .ret p
    | brk => exact .brk p
    | next => exact .next (fin p)
    | cont => exact .cont (fin p)
  · rintro h' tk m' news' F' N' _ ⟨rfl, hJ⟩
    exact done m' h' tk hJ F' N'
end

/-- two maps that part at two names at most -/
theorem part_two {m m₀ : Str → Option Value} {x y : Str} (h : ∀ z, z ≠ x → z ≠ y → m z = m₀ z) : m = fun z => if z = x then m z else if z = y then m z else m₀ z := by
  funext z
  by_cases h1 : z = x
  · simp [h1]
  · by_cases h2 : z = y
    · simp [h2]
    · simp [h1, h2, h z h1 h2]
end Mine

namespace Mine
set_option maxHeartbeats 8000000
local macro_rules | `(tactic| walk_at "mine") => `(tactic| repeat' (first | (k_unfold; (try dsimp only)) | ((fail_if_success (with_reducible show InvEnd _ _ _ _ _ _)); (fail_if_success (with_reducible show wpAny _ _ (exec (Stmt.For _ _ _ _ _) _) _ _ _)); (fail_if_success (with_reducible show wpAny _ _ (subscriptTail _ _ _ _) _ _ _)); (fail_if_success (with_reducible show wpAny _ _ (pyIter _) _ _ _)); (fail_if_success (with_reducible show wpAny _ _ (compareOp _ (Value.ref _) (Value.ref _)) _ _ _)); (fail_if_success (with_reducible show wpAny _ _ (call (Value.builtin "str.split") _) _ _ _)); (fail_if_success (with_reducible show wpAny _ _ (call (Value.builtin "len") _) _ _ _)); walk1) | ((fail_if_success (with_reducible show InvEnd _ _ _ _ _ _)); (fail_if_success (with_reducible show wpAny _ _ (exec (Stmt.For _ _ _ _ _) _) _ _ _)); (fail_if_success (with_reducible show wpAny _ _ (subscriptTail _ _ _ _) _ _ _)); (fail_if_success (with_reducible show wpAny _ _ (pyIter _) _ _ _)); (fail_if_success (with_reducible show wpAny _ _ (compareOp _ (Value.ref _) (Value.ref _)) _ _ _)); (fail_if_success (with_reducible show wpAny _ _ (call (Value.builtin "str.split") _) _ _ _)); (fail_if_success (with_reducible show wpAny _ _ (call (Value.builtin "len") _) _ _ _)); dsimp only; walk1)))

def modHit (name m : Str) : Bool := decide ((Txt.split name ".").take (Txt.split m ".").length = Txt.split m ".")
def dirHit (y d : Str) : Bool := decide ((Txt.split d "/").length < (Txt.split y "/").length) && decide ((Txt.split y "/").take (Txt.split d "/").length = Txt.split d "/")
def ruleB (name : Str) (path : Option Str) (ms ds : List Str) : Bool :=
  name == "<string>" || path.isNone || ms.any (modHit name) || (match path with | some y => ds.any (dirHit y) | none => false)
def bI (b : Bool) : Int := if b then 1 else 0

abbrev mOf {h₀ h : Heap} {L : Addr} {m : Str → Option Value} (_ : Fr h₀ L h m) : Str → Option Value := m

theorem law_rule_some {w : World} {A : Around} {s : Shared} {Q E : Value → Shared → Prop} {mean : ExcName → Option Value} {mg mb : Str → Option Value} {name y : Str} {tn ty : Tok} {aM aD : Addr} {vm vd : List Value} {ms ds : List Str} :
    (hd.heap_39 w.params).In s.heap → Top hd.view_39 (looseW hd.view_39 []) mean mg mb s.heap → A.handled = none → A.depth + 5 < recursionLimit → A.units + 80 < cLine →
    s.heap.IsList aM vm.toArray → StrsAre vm ms → (∀ x ∈ ms, TOk 64 x) → s.heap.IsList aD vd.toArray → StrsAre vd ds → (∀ x ∈ ds, TOk 64 x) → TOk 64 name → TOk 64 y →
    (∀ t' h' tk', s.heap.StaysIn h' → Q (.int (bI (ruleB name (some y) ms ds)) t') { s with heap := h', toks := tk' }) →
    wpAny (model Challenge.rw_ki0097_01.row.prog w) A (call (.ref 107) [.str name tn, .str y ty, .ref aM, .ref aD]) Q E s := by
  k_fill
  intro X T hh hroom hun hM hvm hms hD hvd hds hname hy hret
  refine wpAny_call ?_
  k_dflt (refine' callP X T ?k6 ?k7 ?k8 ?k9 ?kB ?_ ?c2 ?c3 ?c4 ?c5; (case k6 => k_is); (case k7 => k_is); (case k8 => omega); (case k9 => exact BindsTo.of_eq rfl); (case kB => exact locs rfl); (case c5 => decide); (case c2 => exact rfl); (case c3 => exact rfl); (case c4 => exact rfl); k_whole)
  intro L h₁ tk hL F N
  try dsimp only
  have hret' : ∀ b, ruleB name (some y) ms ds = b → ∀ t' h' tk', s.heap.StaysIn h' → Q (.int (bI b) t') { s with heap := h', toks := tk' } := fun b e => e ▸ hret
  clear hret
  walk_at "mine"
  · dsimp only
    exact hret' true (by unfold ruleB; simp [*]) _ _ _ (Fr.keep (by assumption))
  · have hns : (name == Str.ofString "<string>") = false := by assumption
    refine For_invV s.heap rfl rfl ?_ (by intro _; rfl) PassesOwn.never
    walk1
    refine iter_vals (fun i m₁ => (∃ u : Str → Option Value, m₁ = fun z => if z = Str.ofString "mod" then u z else if z = Str.ofString "head" then u z else mOf F z) ∧ (ms.take i).any (modHit name) = false) hh hM (by assumption) (by assumption) ⟨⟨_, part_two fun _ _ _ => rfl⟩, rfl⟩ ?turn ?done
    case turn =>
      rintro i v m₁ h tk own hv ⟨⟨u, rfl⟩, hany⟩ _ F2 N2
      obtain ⟨x, tx, rfl, hx⟩ := StrsAre.item hvm i v hv
      have hx1 : TOk 64 x := hms x (List.mem_of_getElem? hx)
      have hxl := hx1.1
      have hnl := hname.1
      change Fr s.heap L h _ at F2
      change News s.heap L h _ at N2
      rw [List.append_nil] at N2
      walk_at "mine"
      refine KSpl.split1 (by k_asm) (by k_asm) (by decide) ?_ (by rw [sizeLine_eq]; omega)
      intro D1 l1 h1 k1 e1 S1 F3 N3 lt1
      walk_at "mine"
      refine KSpl.split1 (by k_asm) (by k_asm) (by decide) ?_ (by rw [sizeLine_eq]; omega)
      intro D2 l2 h2 k2 e2 S2 F4 N4 lt2
      walk_at "mine"
      have b1 : (l1.map (·.1)).length ≤ 65 := by rw [e1]; exact split_len (by decide) hxl
      have b2 : (l2.map (·.1)).length ≤ 65 := by rw [e2]; exact split_len (by decide) hnl
      have b3 := S2.len_eq
      refine len_strsA (News.isList (by k_asm) (by k_mem)) S1 (by omega) ?_
      walk_at "mine"
      refine slice_upto (by k_asm) (by k_asm) (News.isList (by k_asm) (by k_mem)) (by omega) (by rw [sizeLine_eq]; omega) ?_
      intro D3 h3 F5 N5 lt3
      walk_at "mine"
      refine eq_texts (News.isList (by k_asm) (by k_mem)) (News.isList (by k_asm) (by k_mem)) (strsTake _ S2) S1 ?ok1 ?ok2 (by show A.units + 3 + 64 < cLine; omega) ?_
      case ok1 => intro z hz; exact (split_ok hname z (by rw [← e2]; exact List.mem_of_mem_take hz)).2
      case ok2 => intro z hz; exact (split_ok hx1 z (by rw [← e1]; exact hz)).2
      have hit : modHit name x = decide (List.take ((l1.map (·.1)).length : Int).toNat (l2.map (·.1)) = l1.map (·.1)) := by unfold modHit; rw [e1, e2, Int.toNat_natCast]
      have hxm := List.mem_of_getElem? hx
      walk_at "mine"
      · refine hret' true ?_ _ _ _ F5.keep
        have hz : ms.any (modHit name) = true := List.any_eq_true.mpr ⟨x, hxm, by rw [hit]; exact decide_eq_true (by assumption)⟩
        unfold ruleB
        rw [hz]
        simp
      · refine InvEnd.intro F5 N5 (by intro p hp; rw [List.append_nil] at hp; simp [hp]) ⟨⟨_, part_two (by intro z h1 h2; simp [h1, h2])⟩, ?_⟩
        have hz : modHit name x = false := by rw [hit]; exact decide_eq_false (by assumption)
        rw [List.take_add_one, hx, List.any_append, hany]
        simp [hz]
    case done =>
      rintro m₁ h tk ⟨⟨u, rfl⟩, hany⟩ F2 N2
      change Fr s.heap L h _ at F2
      change News s.heap L h _ at N2
      have hany' : ms.any (modHit name) = false := by
        have e : vm.length = ms.length := hvm.len_eq
        rwa [e, List.take_length] at hany
      have hyl := hy.1
      dsimp only
      walk_at "mine"
      refine KSpl.split1 (by k_asm) (by k_asm) (by decide) ?_ (by rw [sizeLine_eq]; omega)
      intro D0 l0 h0 k0 e0 S0 F0 N0 lt0
      walk_at "mine"
      refine For_invV s.heap rfl rfl ?_ (by intro _; rfl) PassesOwn.never
      walk1
      rename Fr _ _ _ _ => Fp
      refine iter_vals (fun i m₁ => (∃ u' : Str → Option Value, m₁ = fun z => if z = Str.ofString "place" then u' z else if z = Str.ofString "head" then u' z else mOf Fp z) ∧ (ds.take i).any (dirHit y) = false) hh hD (by assumption) (by assumption) ⟨⟨_, part_two fun _ _ _ => rfl⟩, rfl⟩ ?turn ?done
      case turn =>
        rintro i v m₁ h tk own hv ⟨⟨u', rfl⟩, hany⟩ _ F2 N2
        obtain ⟨x, tx, rfl, hx⟩ := StrsAre.item hvd i v hv
        have hx1 : TOk 64 x := hds x (List.mem_of_getElem? hx)
        have hxl := hx1.1
        have hnl := hname.1
        change Fr s.heap L h _ at F2
        change News s.heap L h _ at N2
        have N2' : News s.heap L h ((D0, W.listOf (strValues l0).toArray 0) :: own) := fun p hp => N2 p (by simp only [List.mem_cons, List.mem_append, List.not_mem_nil, or_false] at hp ⊢; exact hp.symm)
        clear N2
        walk_at "mine"
        refine KSpl.split1 (by k_asm) (by k_asm) (by decide) ?_ (by rw [sizeLine_eq]; omega)
        intro D1 l1 h1 k1 e1 S1 F3 N3 lt1
        have b1 : (l1.map (·.1)).length ≤ 65 := by rw [e1]; exact split_len (by decide) hxl
        have b0 : (l0.map (·.1)).length ≤ 65 := by rw [e0]; exact split_len (by decide) hyl
        have b3 := S0.len_eq
        have hit : dirHit y x = (decide (((l1.map (·.1)).length : Int) < (l0.map (·.1)).length) && decide (List.take ((l1.map (·.1)).length : Int).toNat (l0.map (·.1)) = l1.map (·.1))) := by unfold dirHit; rw [e1, e0, Int.toNat_natCast]; simp only [Int.ofNat_lt]
        have hxm := List.mem_of_getElem? hx
        walk_at "mine"
        refine len_strsA (News.isList (by k_asm) (by k_mem)) S0 (by omega) ?_
        walk_at "mine"
        refine len_strsA (News.isList (by k_asm) (by k_mem)) S1 (by omega) ?_
        walk_at "mine"
        · refine len_strsA (News.isList (by k_asm) (by k_mem)) S1 (by omega) ?_
          walk_at "mine"
          refine slice_upto (by k_asm) (by k_asm) (News.isList (by k_asm) (by k_mem)) (by omega) (by rw [sizeLine_eq]; omega) ?_
          intro D3 h3 F5 N5 lt3
          walk_at "mine"
          refine eq_texts (News.isList (by k_asm) (by k_mem)) (News.isList (by k_asm) (by k_mem)) (strsTake _ S0) S1 ?ok1 ?ok2 (by show A.units + 3 + 64 < cLine; omega) ?_
          case ok1 => intro z hz; exact (split_ok hy z (by rw [← e0]; exact List.mem_of_mem_take hz)).2
          case ok2 => intro z hz; exact (split_ok hx1 z (by rw [← e1]; exact hz)).2
          walk_at "mine"
          · refine hret' true ?_ _ _ _ F5.keep
            have hz : ds.any (dirHit y) = true := List.any_eq_true.mpr ⟨x, hxm, by rw [hit, Bool.and_eq_true]; exact ⟨decide_eq_true (by assumption), decide_eq_true (by assumption)⟩⟩
            unfold ruleB
            simp only [hz, Bool.or_true]
          · refine InvEnd.intro F5 N5 (by intro p hp; simp only [List.mem_cons, List.mem_append, List.not_mem_nil, or_false] at hp ⊢; rcases hp with hp | hp <;> simp [hp]) ⟨⟨_, part_two (by intro z h1 h2; simp [h1, h2])⟩, ?_⟩
            have hz : dirHit y x = false := by rw [hit]; exact (Bool.and_eq_false_iff).mpr (Or.inr (decide_eq_false (by assumption)))
            rw [List.take_add_one, hx, List.any_append, hany]
            simp [hz]
        · refine InvEnd.intro (by assumption) (by assumption) (by intro p hp; simp only [List.mem_cons, List.mem_append, List.not_mem_nil, or_false] at hp ⊢; rcases hp with hp | hp <;> simp [hp]) ⟨⟨_, part_two (by intro z h1 h2; simp [h1, h2])⟩, ?_⟩
          have hz : dirHit y x = false := by rw [hit]; exact (Bool.and_eq_false_iff).mpr (Or.inl (decide_eq_false (by assumption)))
          rw [List.take_add_one, hx, List.any_append, hany]
          simp [hz]
      case done =>
        rintro m₁ h tk ⟨⟨u', rfl⟩, hany2⟩ F2 N2
        change Fr s.heap L h _ at F2
        change News s.heap L h _ at N2
        dsimp only
        have hany2' : ds.any (dirHit y) = false := by
          have e : vd.length = ds.length := hvd.len_eq
          rwa [e, List.take_length] at hany2
        walk_at "mine"
        refine hret' false ?_ _ _ _ F2.keep
        have hns' : (name == ("<string>" : Str)) = false := hns
        unfold ruleB
        simp only [hns', hany', hany2', Option.isNone_some, Bool.or_false]
end Mine

namespace Mine
set_option maxHeartbeats 8000000

theorem law_rule_none {w : World} {A : Around} {s : Shared} {Q E : Value → Shared → Prop} {mean : ExcName → Option Value} {mg mb : Str → Option Value} {name : Str} {tn : Tok} {aM aD : Addr} {ms ds : List Str} :
    (hd.heap_39 w.params).In s.heap → Top hd.view_39 (looseW hd.view_39 []) mean mg mb s.heap → A.handled = none → A.depth + 5 < recursionLimit →
    (∀ t' h' tk', s.heap.StaysIn h' → Q (.int (bI (ruleB name none ms ds)) t') { s with heap := h', toks := tk' }) →
    wpAny (model Challenge.rw_ki0097_01.row.prog w) A (call (.ref 107) [.str name tn, .none, .ref aM, .ref aD]) Q E s := by
  k_fill
  intro X T hh hroom hret
  refine wpAny_call ?_
  k_dflt (refine' callP X T ?k6 ?k7 ?k8 ?k9 ?kB ?_ ?c2 ?c3 ?c4 ?c5; (case k6 => k_is); (case k7 => k_is); (case k8 => omega); (case k9 => exact BindsTo.of_eq rfl); (case kB => exact locs rfl); (case c5 => decide); (case c2 => exact rfl); (case c3 => exact rfl); (case c4 => exact rfl); k_whole)
  intro L h₁ tk hL F N
  try dsimp only
  have hret' : ∀ t' h' tk', s.heap.StaysIn h' → Q (.int 1 t') { s with heap := h', toks := tk' } := by
    have e : ruleB name none ms ds = true := by unfold ruleB; simp
    rw [e] at hret
    exact hret
  clear hret
  repeat' (first | (k_unfold; (try dsimp only)) | walk1 | (dsimp only; walk1))
  all_goals (dsimp only; exact hret' _ _ _ (Fr.keep (by assumption)))

/-- a path or none, as a value -/
def PathV (n : Nat) : Option Str → Value → Prop
  | none, v => v = .none
  | some y, v => TOk n y ∧ ∃ t, v = .str y t

theorem law_rule_spec {w : World} {A : Around} {s : Shared} {Q E : Value → Shared → Prop} {mean : ExcName → Option Value} {mg mb : Str → Option Value} {name : Str} {path : Option Str} {pv : Value} {tn : Tok} {aM aD : Addr} {vm vd : List Value} {ms ds : List Str}
    (X : (hd.heap_39 w.params).In s.heap) (T : Top hd.view_39 (looseW hd.view_39 []) mean mg mb s.heap) (hh : A.handled = none) (hroom : A.depth + 5 < recursionLimit) (hun : A.units + 80 < cLine)
    (hM : s.heap.IsList aM vm.toArray) (hvm : StrsAre vm ms) (hms : ∀ x ∈ ms, TOk 64 x) (hD : s.heap.IsList aD vd.toArray) (hvd : StrsAre vd ds) (hds : ∀ x ∈ ds, TOk 64 x) (hname : TOk 64 name) (hp : PathV 64 path pv)
    (hret : ∀ t' h' tk', s.heap.StaysIn h' → Q (.int (bI (ruleB name path ms ds)) t') { s with heap := h', toks := tk' }) :
    wpAny (model Challenge.rw_ki0097_01.row.prog w) A (call (.ref 107) [.str name tn, pv, .ref aM, .ref aD]) Q E s := by
  cases path with
  | none => cases hp; exact law_rule_none X T hh hroom hret
  | some y =>
    obtain ⟨hy, t, rfl⟩ := hp
    exact law_rule_some X T hh hroom hun hM hvm hms hD hvd hds hname hy hret
end Mine

namespace Mine

section
variable {prog : Program} {w : World} {A : Around} {s : Shared} {env : Env}

theorem codeAny_forLoopT {R : Result → Shared → Prop} {target it body orelse} (I : Nat → Shared → Prop)
    (turn : ∀ n s, I n s → wpAny (model prog w) A (pyNext it) (fun r s₁ => match r with
      | none => wpAny (model prog w) A (execs orelse env) (fun f s₃ => R (.ok f) s₃) (fun _ _ => False) s₁
      | some v => wpAny (model prog w) A (letOwnedTupleGo target it v) (fun _ s₀ => wpAny (model prog w) A (assign target env v) (fun _ s₂ => wpAny (model prog w) A (execs body env) (fun f s₃ => match f with
          | .next | .cont => ∃ m, m < n ∧ I m s₃
          | .brk => R (.ok .next) s₃
          | .ret v => R (.ok (.ret v)) s₃) (fun _ _ => False) s₂) (fun _ _ => False) s₀) (fun _ _ => False) s₁) (fun _ _ => False) s)
    (n : Nat) (h : I n s) : codeAny (model prog w) A (.forLoop target it body orelse env) R s := by
  refine codeAny_loop' rfl I (fun n s hI => ?_) n h
  show wpAny _ _ ((forTurn target it body orelse env).onRaise (fun x => do noteFrame x env; theTreesLotGoes x)) _ _ s
  refine wpAny_noted (wpAny_noRaise ?_)
  simp only [forTurn]
  refine wpAny_bind (wpAny_standAt (wpAny_bind (wpAny_onRaise (wpAny_mono (turn n s hI) (fun r s₁ h₁ => ?_) fun _ _ h' => h'.elim))))
  cases r with
  | none => exact wpAny_pure (.inr ⟨rfl, codeAny_block (wpAny_noRaise h₁)⟩)
  | some v =>
    refine wpAny_bind (wpAny_mono h₁ (fun _ s₀ h₀ => ?_) fun _ _ h' => h')
    refine wpAny_bind (wpAny_mono h₀ (fun _ s₂ h₂ => wpAny_bind (wpAny_mono h₂ (fun f s₃ h₃ => ?_) fun _ _ h' => h')) fun _ _ h' => h')
    cases f with
    | next => exact wpAny_pure (.inl ⟨rfl, h₃⟩)
    | cont => exact wpAny_pure (.inl ⟨rfl, h₃⟩)
    | brk => exact wpAny_pure h₃
    | ret v => exact wpAny_pure h₃

theorem letOwned_list {M : Model} {E : Value → Shared → Prop} {elts : List Expr} {kk : Nat} {tp : Pos} {I l : Addr} {i : Nat} {v : Value} {Q : Unit → Shared → Prop} (hit : s.heap.IsListIter I l i) (h : Q () s) :
    wpAny M A (letOwnedTupleGo (.Tuple elts kk tp) (.ref I) v) Q E s := by
  obtain ⟨o, ho, hc, hd⟩ := hit
  unfold letOwnedTupleGo
  cases v <;> try exact wpAny_pure h
  dsimp only
  refine wpAny_bind (wpAny_load ho ?_)
  obtain ⟨c, d, dt, sl⟩ := o
  dsimp only at hc hd
  subst hc hd
  dsimp only
  rw [show ((["enumerate", "zip", "dict_itemiterator", "dict_reverseitemiterator", "odict_iterator", "itertools.zip_longest", "itertools.pairwise"] : List String).contains "list_iterator") = false from by decide, Bool.false_and, if_neg Bool.false_ne_true]
  exact wpAny_pure h
end

def PairEnd (h₀ : Heap) (L : Addr) (I : Addr) (oI : Obj) (J : (Str → Option Value) → List (Addr × Obj) → Prop) (s s₂ : Shared) : Prop :=
  ∃ h' tk' m' news', s₂ = { s with heap := h', toks := tk' } ∧ Fr h₀ L h' m' ∧ News h₀ L h' ((I, oI) :: news') ∧ (∀ p ∈ news', p.1 ≠ I) ∧ J m' news'
theorem PairEnd.intro {h₀ : Heap} {L I : Addr} {oI : Obj} {J : (Str → Option Value) → List (Addr × Obj) → Prop} {s : Shared} {h' : Heap} {tk' : Nat} {m' : Str → Option Value} {news' : List (Addr × Obj)}
    (F : Fr h₀ L h' m') (N : News h₀ L h' ((I, oI) :: news')) (hno : ∀ p ∈ news', p.1 ≠ I) (hJ : J m' news') : PairEnd h₀ L I oI J s { s with heap := h', toks := tk' } := ⟨h', tk', m', news', rfl, F, N, hno, hJ⟩

/-- a loop over a list of pairs that stands in the base: what must be shown -/
def PairLoop (prog : Program) (w : World) (A : Around) (h₀ : Heap) (env : Env) (a b : Str) (body : List Stmt) (Q : Flow → Shared → Prop) (xv : Value) (s : Shared) : Prop :=
  ∃ (l : Addr) (vs : List Value) (m₀ : Str → Option Value) (news₀ : List (Addr × Obj)) (J : Nat → (Str → Option Value) → List (Addr × Obj) → Prop),
    xv = .ref l ∧ A.handled = none ∧ h₀.IsList l vs.toArray ∧ Fr h₀ env.locals s.heap m₀ ∧ News h₀ env.locals s.heap news₀ ∧ J 0 m₀ news₀ ∧
    (∀ v ∈ vs, ∃ T x y, v = Value.ref T ∧ h₀.IsTuple T #[x, y]) ∧
    (∀ i T x y m₁ news₁ I oI h tk, vs[i]? = some (.ref T) → h₀.IsTuple T #[x, y] → J i m₁ news₁ → (∀ p ∈ news₁, p.1 ≠ I) → Fr h₀ env.locals h (fun z => if z = b then some y else if z = a then some x else m₁ z) → News h₀ env.locals h ((I, oI) :: news₁) →
      wpAny (model prog w) A (execs body env) (fun f s₂ => match f with
        | .ret v => Q (.ret v) s₂
        | .brk => Q .next s₂
        | _ => PairEnd h₀ env.locals I oI (J (i + 1)) s s₂) (fun _ _ => False) { s with heap := h, toks := tk }) ∧
    (∀ m₁ news₁ h tk, J vs.length m₁ news₁ → Fr h₀ env.locals h m₁ → News h₀ env.locals h news₁ → Q .next { s with heap := h, toks := tk })

section
variable {prog : Program} {w : World} {A : Around} {s : Shared} {env : Env} {h₀ : Heap} {a b : Str} {body : List Stmt} {Q : Flow → Shared → Prop}
theorem For_pairs {pa pb tp pos : Pos} {kk : Nat} {iter : Expr} {E : Value → Shared → Prop} (h₀ : Heap) (ha : env.kindOf a = some .local) (hb : env.kindOf b = some .local)
    (hp : (env.scope.kind == .class || (env.scope.kind == .module && env.locals != env.globals)) = false)
    (h : wpAny (model prog w) A (eval iter env) (fun xv s₁ => PairLoop prog w A h₀ env a b body Q xv s₁) E s)
    (hs : ∀ x, foldedSetIterable iter env x = pure x := by intro _; rfl) :
    wpAny (model prog w) A (exec (.For (.Tuple [.Name a pa, .Name b pb] kk tp) iter body [] pos) env) Q E s := by
  refine wpAny_For (wpAny_mono h (fun xv s₁ h₁ => ?_) fun _ _ e => e) hs
  obtain ⟨l, vs, m₀, news₀, J, rfl, hh, hl, F, N, hj, htup, turn, done⟩ := h₁
  have hls : s₁.heap.IsList l vs.toArray := hl.at fun o e => F.keep l o e
  obtain ⟨ol, hol, _⟩ := id hl
  have hlt : l < h₀.objs.size := Heap.lt_size hol
  have hne : l ≠ s₁.heap.objs.size := Nat.ne_of_lt (Nat.lt_trans (Nat.lt_of_lt_of_le hlt F.above) F.ns.lt)
  refine wpAny_pyIter_list hls ?_
  have hI₀ : h₀.get? s₁.heap.objs.size = none := next_is_new F
  have hLI : env.locals ≠ s₁.heap.objs.size := Nat.ne_of_lt F.ns.lt
  generalize hII : s₁.heap.objs.size = I at *
  have hno : ∀ p ∈ news₀, p.1 ≠ I := fun p hp e => absurd (Heap.lt_size (N p hp).1) (by rw [e, hII]; exact Nat.lt_irrefl _)
  refine codeAny_forLoopT (fun k s' => ∃ h' tk m' news' i oI, s' = { s₁ with heap := h', toks := tk } ∧ h'.get? I = some oI ∧ h'.IsListIter I l i ∧ Fr h₀ env.locals h' m' ∧ News h₀ env.locals h' news' ∧ (∀ p ∈ news', p.1 ≠ I) ∧ J i m' news' ∧ i ≤ vs.length ∧ k = vs.length + 1 - i) ?_ (vs.length + 1)
    ⟨_, s₁.toks, m₀, news₀, 0, _, rfl, by rw [← hII]; exact Heap.get?_push_size _ rfl, ⟨_, by rw [← hII]; exact Heap.get?_push_size _ rfl, rfl, rfl⟩, F.push _, fun p hp => ⟨Heap.get?_push_of_some _ (N p hp).1, (N p hp).2⟩, hno, hj, Nat.zero_le _, rfl⟩
  rintro k s' ⟨h', tk, m', news', i, oI, rfl, hoI, hit, F', N', hno', hJ, hi, rfl⟩
  have hl' : h'.IsList l vs.toArray := hl.at fun o e => F'.keep l o e
  by_cases hlt' : i < vs.length
  · have hv : vs[i]? = some vs[i] := List.getElem?_eq_getElem hlt'
    obtain ⟨T, x, y, hvT, hT⟩ := htup vs[i] (List.getElem_mem hlt')
    rw [hvT] at hv
    refine wpAny_pyNext_list_item (x := .ref T) hit hl' (by simpa using hv) fun h₂ hit₂ hs₂ => ?_
    dsimp only
    refine letOwned_list hit₂ ?_
    have keep₂ : ∀ c o, c ≠ I → h'.get? c = some o → h₂.get? c = some o := fun c o hc e => (hs₂.2 c hc).trans e
    have base₂ : ∀ c o, h₀.get? c = some o → h₂.get? c = some o := fun c o e => keep₂ c o (fun q => by rw [q, hI₀] at e; cases e) (F'.keep c o e)
    have hn₂ : h₂.Ns env.locals m' := F'.ns.at' fun o e => keep₂ _ o hLI e
    have hT₂ : h₂.IsTuple T #[x, y] := by obtain ⟨o, e, r⟩ := hT; exact ⟨o, base₂ _ _ e, r⟩
    refine kcp_assign (s := { s₁ with heap := h₂, toks := tk }) hh hT₂ ha hb hp hn₂ fun h₃ tk₃ hn₃ up₃ => ?_
    obtain ⟨oI₂, hoI₂, hc₂, hd₂⟩ := hit₂
    have hoI₃ : h₃.get? I = some oI₂ := up₃ I oI₂ (Ne.symm hLI) hoI₂
    have F₃ : Fr h₀ env.locals h₃ (fun z => if z = b then some y else if z = a then some x else m' z) :=
      ⟨hn₃, fun c o e => up₃ c o (fun q => by rw [q, Heap.get?_none_of_le F'.above] at e; cases e) (base₂ c o e), F'.above⟩
    have N₃ : News h₀ env.locals h₃ ((I, oI₂) :: news') := fun p hp => by
      rcases List.mem_cons.mp hp with rfl | hp
      · exact ⟨hoI₃, Ne.symm hLI, hI₀⟩
      · exact ⟨up₃ _ _ (N' p hp).2.1 (keep₂ _ _ (hno' p hp) (N' p hp).1), (N' p hp).2⟩
    refine wpAny_mono (turn i T x y m' news' I oI₂ h₃ tk₃ hv hT hJ hno' F₃ N₃) (fun f s₄ h₄ => ?_) fun _ _ e => e
    have fin : (∃ h' tk' m' news', s₄ = { s₁ with heap := h', toks := tk' } ∧ Fr h₀ env.locals h' m' ∧ News h₀ env.locals h' ((I, oI₂) :: news') ∧ (∀ p ∈ news', p.1 ≠ I) ∧ J (i + 1) m' news') →
        ∃ m_1, m_1 < vs.length + 1 - i ∧ ∃ h' tk m' news' j oI, s₄ = { s₁ with heap := h', toks := tk } ∧ h'.get? I = some oI ∧ h'.IsListIter I l j ∧ Fr h₀ env.locals h' m' ∧ News h₀ env.locals h' news' ∧ (∀ p ∈ news', p.1 ≠ I) ∧ J j m' news' ∧ j ≤ vs.length ∧ m_1 = vs.length + 1 - j := by
      rintro ⟨h₅, tk₅, m₅, news₅, rfl, F₅, N₅, hno₅, hJ₅⟩
      have hI₅ := (N₅ (I, oI₂) List.mem_cons_self).1
      exact ⟨vs.length + 1 - (i + 1), by omega, h₅, tk₅, m₅, news₅, i + 1, oI₂, rfl, hI₅, ⟨oI₂, hI₅, hc₂, hd₂⟩, F₅, fun p hp => N₅ p (List.mem_cons_of_mem _ hp), hno₅, hJ₅, hlt', rfl⟩
    cases f with
    | ret v => exact h₄
    | brk => exact h₄
    | next => exact fin h₄
    | cont => exact fin h₄
  · have hin : i = vs.length := by omega
    subst hin
    refine wpAny_pyNext_list_end hh hit hl' (by simp) fun h₂ he₂ => ?_
    refine wpAny_execs_nil ?_
    have keep₂ : ∀ c o, c ≠ I → h'.get? c = some o → h₂.get? c = some o := fun c o hc e => he₂ c o hc e
    exact done m' news' h₂ tk hJ ⟨F'.ns.at' fun o e => keep₂ _ o hLI e, fun c o e => keep₂ c o (fun q => by rw [q, hI₀] at e; cases e) (F'.keep c o e), F'.above⟩ fun p hp => ⟨keep₂ _ _ (hno' p hp) (N' p hp).1, (N' p hp).2⟩
end
end Mine

namespace Mine
set_option maxHeartbeats 8000000
local macro_rules | `(tactic| walk_at "stop") => `(tactic| ((fail_if_success (with_reducible show wpAny _ _ (setItem _ _ _) _ _ _)); (fail_if_success (with_reducible show wpAny _ _ (exec (Stmt.For _ _ _ _ _) _) _ _ _)); (fail_if_success (with_reducible show wpAny _ _ (subscriptTail _ _ _ _) _ _ _)); (fail_if_success (with_reducible show wpAny _ _ (pyIter _) _ _ _)); (fail_if_success (with_reducible show wpAny _ _ (compareOp _ (Value.ref _) (Value.ref _)) _ _ _)); (fail_if_success (with_reducible show wpAny _ _ (compareOp _ (Value.str _ _) (Value.ref _)) _ _ _)); (fail_if_success (with_reducible show wpAny _ _ (call (Value.builtin "str.split") _) _ _ _)); (fail_if_success (with_reducible show wpAny _ _ (call (Value.builtin "len") _) _ _ _)); (fail_if_success (with_reducible show wpAny _ _ (call (Value.ref _) _) _ _ _)); (fail_if_success (with_reducible show wpAny _ _ (call (Value.type "str") _) _ _ _)); (fail_if_success (with_reducible show wpAny _ _ (call (Value.builtin "list.append") _) _ _ _))))
local macro_rules | `(tactic| walk_at "mine") => `(tactic| repeat' (first | (k_unfold; (try dsimp only)) | (walk_at "stop"; walk1) | (walk_at "stop"; dsimp only; walk1)))

/-- one ask of the list -/
def AskAt (h : Heap) (v : Value) (q : Str × Option Str) : Prop := ∃ T t pv, v = Value.ref T ∧ h.IsTuple T #[.str q.1 t, pv] ∧ TOk 64 q.1 ∧ PathV 64 q.2 pv
def AsksAre (h : Heap) (vs : List Value) (as : List (Str × Option Str)) : Prop := vs.length = as.length ∧ ∀ (i : Nat) (v : Value), vs[i]? = some v → ∃ q, as[i]? = some q ∧ AskAt h v q

theorem tuple_unique {h : Heap} {T : Addr} {x y a b : Value} (h1 : h.IsTuple T #[x, y]) (h2 : h.IsTuple T #[a, b]) : x = a ∧ y = b := by
  obtain ⟨o, e, _, n, d⟩ := h1
  obtain ⟨o', e', _, n', d'⟩ := h2
  rw [e] at e'
  cases e'
  rw [d] at d'
  cases d'
  exact ⟨rfl, rfl⟩

def stepD (f : Str × Option Str → Bool) (z : (Str → Option Bool) × List Bool) (q : Str × Option Str) : (Str → Option Bool) × List Bool :=
  (fun x => if x = q.1 then some ((z.1 q.1).getD (f q)) else z.1 x, z.2 ++ [(z.1 q.1).getD (f q)])
def digit (b : Bool) : Str := if b then Str.ofString "1" else Str.ofString "0"
theorem str_bI {prog : Program} {w : World} {A : Around} {E : Value → Shared → Prop} {s : Shared} {b : Bool} {t : Tok} {Q : Value → Shared → Prop} (h : ∀ t', Q (.str (digit b) t') { s with toks := s.toks + 1 }) : wpAny (model prog w) A (call (.type "str") [.int (bI b) t]) Q E s := by
  cases b with
  | true =>
    refine P.str_of_int (a := 1) (by decide) ?_
    rw [show (toString (1 : Int)) = "1" from by decide]
    exact h _
  | false =>
    refine P.str_of_int (a := 0) (by decide) ?_
    rw [show (toString (0 : Int)) = "0" from by decide]
    exact h _
theorem strsSnoc : ∀ {vs : List Value} {ys : List Str}, StrsAre vs ys → ∀ (x : Str) (t : Tok), StrsAre (vs ++ [.str x t]) (ys ++ [x])
  | _, _, .nil, x, t => .cons x t .nil
  | _, _, .cons y u r, x, t => .cons y u (strsSnoc r x t)
def dueB (ms ds : List Str) (as : List (Str × Option Str)) : List Bool := (as.foldl (stepD fun q => ruleB q.1 q.2 ms ds) (fun _ => none, [])).2

theorem law_due_spec {w : World} {A : Around} {s : Shared} {Q E : Value → Shared → Prop} {mean : ExcName → Option Value} {mg mb : Str → Option Value} {aA aM aD : Addr} {va vm vd : List Value} {as : List (Str × Option Str)} {ms ds : List Str} :
    (hd.heap_39 w.params).In s.heap → Top hd.view_39 (looseW hd.view_39 []) mean mg mb s.heap → A.handled = none → A.depth + 10 < recursionLimit → A.units + 100 < cLine →
    s.heap.IsList aA va.toArray → AsksAre s.heap va as → as.length ≤ 1000 →
    s.heap.IsList aM vm.toArray → StrsAre vm ms → (∀ x ∈ ms, TOk 64 x) → s.heap.IsList aD vd.toArray → StrsAre vd ds → (∀ x ∈ ds, TOk 64 x) →
    (∀ D ys h' tk', s.heap.StaysIn h' → s.heap.get? D = none → h'.IsList D ys.toArray → StrsAre ys ((dueB ms ds as).map digit) → Q (.ref D) { s with heap := h', toks := tk' }) →
    wpAny (model Challenge.rw_ki0097_01.row.prog w) A (call (.ref 114) [.ref aA, .ref aM, .ref aD]) Q E s := by
  k_fill
  intro X T hh hroom hun hA hva hlen hM hvm hms hD hvd hds hret
  obtain ⟨ha9, dp, fr9, gd9, un⟩ := A
  dsimp only at hh hroom hun
  subst hh
  refine wpAny_call ?_
  k_dflt (refine' callP X T ?k6 ?k7 ?k8 ?k9 ?kB ?_ ?c2 ?c3 ?c4 ?c5; (case k6 => k_is); (case k7 => k_is); (case k8 => (show dp < recursionLimit; omega)); (case k9 => exact BindsTo.of_eq rfl); (case kB => exact locs rfl); (case c5 => decide); (case c2 => exact rfl); (case c3 => exact rfl); (case c4 => exact rfl); k_whole)
  intro L h₁ tk hL F N
  try dsimp only
  walk_at "mine"
  rename_i dK hA1 oK loK hsK fsK hiK fiK z1 aL hA2 z2 aT hA3 z3 hA4 hA5 hA6 Fp Np
  refine For_pairs s.heap rfl rfl rfl ?_
  walk1
  have stp : ∀ i q, as[i]? = some q → (as.take (i + 1)).foldl (stepD fun q => ruleB q.1 q.2 ms ds) (fun _ => none, []) = stepD (fun q => ruleB q.1 q.2 ms ds) ((as.take i).foldl (stepD fun q => ruleB q.1 q.2 ms ds) (fun _ => none, [])) q := by
    intro i q hq
    rw [List.take_add_one, hq, List.foldl_append]
    rfl
  refine ⟨aA, va, _, [(aL, W.listOf #[] 0), (dK, oK)], fun i m₁ news₁ => ∃ (ys : List Value) (n : Nat) (o : Obj) (kvs : List (Str × Value)) (D : List (PyData × PyData)) (u : Str → Option Value),
    news₁ = [(aL, W.listOf ys.toArray n), (dK, o)] ∧ o.IsDictOf (PySem.strKind Challenge.rw_ki0097_01.row.prog w) kvs ∧ PyProof.V.FlatPairs PyData.str kvs D ∧ D.length ≤ i ∧
    (∀ z, lookup (.str z) D = (((as.take i).foldl (stepD fun q => ruleB q.1 q.2 ms ds) (fun _ => none, [])).1 z).map (fun b => PyData.int (bI b))) ∧
    StrsAre ys (((as.take i).foldl (stepD fun q => ruleB q.1 q.2 ms ds) (fun _ => none, [])).2.map digit) ∧ ys.length = i ∧
    m₁ = (fun z => if z = Str.ofString "name" then u z else if z = Str.ofString "path" then u z else mOf Fp z), rfl, rfl, hA, Fp, fun p hp => Np p (List.mem_cons_of_mem _ hp), ?start, ?tups, ?turn, ?done⟩
  case start => exact ⟨[], 0, oK, [], [], _, rfl, hsK, fsK, Nat.zero_le _, fun _ => rfl, StrsAre.nil, rfl, part_two fun _ _ _ => rfl⟩
  case tups =>
    intro v hv
    obtain ⟨i, hi⟩ := List.mem_iff_getElem?.mp hv
    obtain ⟨q, _, T', t, pv, e, hT, _⟩ := hva.2 i v hi
    exact ⟨T', _, _, e, hT⟩
  case turn =>
    rintro i T' x y m₁ news₁ I oI h tk hv hT ⟨ys, n, o, kvs, D, u, rfl, hdo, hfo, hDl, hlk, hS, hyl, rfl⟩ hno F N
    obtain ⟨q, hq, T2, t, pv, e, hT2, hok, hpv⟩ := hva.2 i _ hv
    cases e
    obtain ⟨rfl, rfl⟩ := tuple_unique hT hT2
    have hil : i < as.length := (List.getElem?_eq_some_iff.mp hq).1
    have hst := stp i q hq
    generalize (as.take i).foldl (stepD fun q => ruleB q.1 q.2 ms ds) (fun _ => none, []) = st at hst hlk hS
    have n1 : @Ne Nat aL I := hno (aL, _) (List.Mem.head _)
    have n2 : @Ne Nat dK I := hno (dK, _) (List.Mem.tail _ (List.Mem.head _))
    have n3 : @Ne Nat dK aL := Nat.ne_of_lt z2
    change Fr s.heap L h _ at F
    change News s.heap L h _ at N
    have hno' : ∀ (o1 o2 : Obj), ∀ p ∈ [(aL, o1), (dK, o2)], p.1 ≠ I := by
      intro o1 o2 p hp
      rcases List.mem_cons.mp hp with rfl | hp
      · exact n1
      · exact (List.mem_singleton.mp hp) ▸ n2
    walk_at "mine"
    refine notin_strTab (TabAt.ofNews (by k_asm) (by k_mem) loK hdo hfo) ?_
    rw [hlk]
    cases hk : st.1 q.1 with
    | none =>
      dsimp only [Option.map, Option.isSome, Bool.not_false]
      walk_at "mine"
      refine law_rule_spec (X.keeps (Fr.keep (by k_asm))) (T.keeps (Fr.keep (by k_asm))) rfl (by show dp + 1 + 5 < recursionLimit; omega) (by show un + 3 + 80 < cLine; omega) (hM.at fun o e => Fr.keep (by k_asm) _ o e) hvm hms (hD.at fun o e => Fr.keep (by k_asm) _ o e) hvd hds hok hpv ?_
      intro t9 h9 tk9 st9
      have F9 := Fr.keeps (by k_asm) st9
      have N9 := News.grown (by k_asm) st9
      k_sweep
      walk_at "mine"
      refine setItem_K PyProof.V.same_str (strKind_is _ _ _ _) (PyProof.V.Flat.int _ _) F9 N9 (by k_updF) hdo hfo ?_ (by rw [sizeLine_eq]; omega)
      intro h8 o8 F8 N8 hd8 hf8
      (try dsimp only at N8)
      k_sweep
      walk_at "mine"
      refine item_strTab (dv := .int (bI (ruleB q.1 q.2 ms ds))) (TabAt.ofNews (by k_asm) (by k_mem) loK hd8 hf8) (PyProof.V.lookup_putK_same PyProof.V.keyEnc_str _ _ _) ?_
      intro v hv
      cases hv h8
      walk_at "mine"
      refine str_bI ?_
      intro t7
      walk_at "mine"
      refine append_K F8 N8 (by k_upd) ?_ (by rw [List.size_toArray, sizeLine_eq]; omega)
      intro h7 F7 N7
      walk_at "mine"
      have hst2 : (stepD (fun q => ruleB q.1 q.2 ms ds) st q) = (fun x => if x = q.1 then some (ruleB q.1 q.2 ms ds) else st.1 x, st.2 ++ [ruleB q.1 q.2 ms ds]) := by unfold stepD; rw [hk]; rfl
      refine PairEnd.intro F7 N7 (hno' _ _) ⟨ys ++ [.str (digit (ruleB q.1 q.2 ms ds)) t7], n + 1, o8, _, _, _, by rw [List.push_toArray], hd8, hf8, ?_, ?_, ?_, by simp [hyl], part_two (by intro z h1 h2; (try simp [h1, h2]); (try rfl))⟩
      · exact Nat.le_trans (PyProof.V.putD_length_le _ _ D) (Nat.succ_le_succ hDl)
      · intro z
        rw [hst, hst2]
        by_cases hz : z = q.1
        · subst hz
          rw [PyProof.V.lookup_putK_same PyProof.V.keyEnc_str]
          simp
        · rw [PyProof.V.lookup_putK_other PyProof.V.keyEnc_str hz, hlk]
          simp only [if_neg hz]
          rfl
      · rw [hst, hst2, List.map_append]
        exact strsSnoc hS _ _
    | some b =>
      dsimp only [Option.map, Option.isSome, Bool.not_true]
      walk_at "mine"
      have hl : lookup (.str q.1) D = some (.int (bI b)) := by rw [hlk, hk]; rfl
      refine item_strTab (dv := .int (bI b)) (TabAt.ofNews (by k_asm) (by k_mem) loK hdo hfo) hl ?_
      intro v hv
      cases hv h
      walk_at "mine"
      refine str_bI ?_
      intro t7
      walk_at "mine"
      refine append_K F N (by k_upd) ?_ (by rw [List.size_toArray, sizeLine_eq]; omega)
      intro h7 F7 N7
      walk_at "mine"
      have hst2 : (stepD (fun q => ruleB q.1 q.2 ms ds) st q) = (fun x => if x = q.1 then some b else st.1 x, st.2 ++ [b]) := by unfold stepD; rw [hk]; rfl
      refine PairEnd.intro F7 N7 (hno' _ _) ⟨ys ++ [.str (digit b) t7], n + 1, o, kvs, D, _, by rw [List.push_toArray], hdo, hfo, Nat.le_succ_of_le hDl, ?_, ?_, by simp [hyl], part_two (by intro z h1 h2; (try simp [h1, h2]); (try rfl))⟩
      · intro z
        rw [hst, hst2, hlk]
        by_cases hz : z = q.1
        · subst hz
          simp [hk]
        · simp only [if_neg hz]
          rfl
      · rw [hst, hst2, List.map_append]
        exact strsSnoc hS _ _
  case done =>
    rintro m₁ news₁ h tk ⟨ys, n, o, kvs, D, u, rfl, hdo, hfo, hDl, hlk, hS, hyl, rfl⟩ F N
    change Fr s.heap L h _ at F
    change News s.heap L h _ at N
    dsimp only
    walk_at "mine"
    refine hret _ _ _ _ F.keep (News.fresh N (by k_mem)) (News.isList N (by k_mem)) ?_
    rw [hva.1, List.take_length] at hS
    exact hS
end Mine

namespace Mine

theorem put_led (t : SetTable) (j : Nat) : (t.put j).1.led = t.led := rfl
theorem orStandIn_led (t : SetTable) (n : Nat) : (t.orStandIn n).led = t.led := by
  unfold SetTable.orStandIn
  split <;> rfl
theorem layNew_led (t : SetTable) (es : Array (Int × Value)) (h : Int) (x : Value) : (layNew t es h x).2.1.led = t.led := by
  unfold layNew
  split
  · exact (orStandIn_led _ _).trans rfl
  · rfl
theorem relayAll_led (t : SetTable) (es : Array (Int × Value)) (n : Nat) : (relayAll t es n).2.1.led = t.led := by
  unfold relayAll SetTable.relaid SetTable.laid
  cases e : SetTable.layClean (SetTable.sizeAbove n - 1) (es.map (·.1)) with
  | none => rfl
  | some owner =>
    simp only [Option.bind_eq_bind, Option.bind_some, Option.pure_def]
    split <;> rfl
theorem relayAll_plain (t : SetTable) (es : Array (Int × Value)) (n : Nat) (h : t.plain = false) : (relayAll t es n).2.1.plain = false := by
  unfold relayAll SetTable.relaid SetTable.laid
  cases e : SetTable.layClean (SetTable.sizeAbove n - 1) (es.map (·.1)) with
  | none => rfl
  | some owner =>
    simp only [Option.bind_eq_bind, Option.bind_some, Option.pure_def]
    split
    · exact h
    · rfl

abbrev byText (w : World) : Bool := w.params.followText "set-order"

/-- a set of texts, whole: what its walk needs besides its elements -/
def SetGood (prog : Program) (w : World) (o : Obj) (S : Str → Bool) (n : Nat) : Prop :=
  ∃ es ep t, o.ExactSet ∧ o.data = .set es ep t ∧ ElemsOf (strKind prog w) es.toList ∧ (∀ k, S k = true ↔ ∃ e ∈ es.toList, (strKind prog w).is k e.2 = true) ∧ es.size < scanBound ∧ t.fits es.size = true ∧ es.size = n ∧
    t.led = !byText w ∧ (es.size = 0 ∨ t.plain = false)
def StrSet (prog : Program) (w : World) (h : Heap) (a : Addr) (S : Str → Bool) (n : Nat) : Prop := ∃ o, h.get? a = some o ∧ SetGood prog w o S n

theorem StrSet.setOf {prog : Program} {w : World} {h : Heap} {a : Addr} {S : Str → Bool} {n : Nat} (x : StrSet prog w h a S n) : h.SetOf (strKind prog w) a S n := by
  obtain ⟨o, ho, es, ep, t, h1, h2, h3, h4, h5, h6, h7, _⟩ := x
  exact ⟨o, es, ep, t, ho, h1, h2, h3, h4, h5, h6, h7⟩

section
variable {prog : Program} {w : World} {A : Around} {E : Value → Shared → Prop} {s : Shared}

theorem store_good {a : Addr} {o : Obj} {es : Array (Int × Value)} {ep : Nat} {t : SetTable} {es' : Array (Int × Value)} {t' : SetTable} {Q : Unit → Shared → Prop} (ho : s.heap.get? a = some o) (hd : o.data = .set es ep t) (hz : es'.size < scanBound)
    (h : ∀ h', Heap.SameBut a s.heap h' → h'.get? a = some { o with data := .set es' (ep + 1) t' } → Q () { s with heap := h' }) : wpAny (model prog w) A (storeSet a es' t') Q E s := by
  refine wpAny_storeSet_of ho hd (h _ (Heap.SameBut.update ..) ?_) (fits_of_scanBound hz)
  have := Heap.get?_update_self (Obj.putSet es' t') ho (by rw [putSet_of es' t' hd]; rfl)
  rwa [putSet_of es' t' hd] at this

theorem setAdd_good {a : Addr} {S : Str → Bool} {n : Nat} {k : Str} {tk : Tok} {Q : Bool → Shared → Prop} (hS : StrSet prog w s.heap a S n) (hroom : n + 1 < scanBound)
    (h : ∀ h' n' b, Heap.SameBut a s.heap h' → StrSet prog w h' a (fun k' => S k' || decide (k' = k)) n' → n' ≤ n + 1 → Q b { s with heap := h' }) :
    wpAny (model prog w) A (setAddHashed a (.str k tk) ((strKind prog w).hash k)) Q E s := by
  obtain ⟨o, ho, es, ep, t, hex, hd, hel, hmem, hb, hf, hn, hled, hpl⟩ := hS
  have hkey : (strKind prog w).is k (.str k tk) = true := strKind_is _ _ _ _
  have hb1 : es.size + 1 < scanBound := by rw [hn]; exact hroom
  unfold setAddHashed setAddHashedIn
  refine wpAny_holding (wpAny_bind (wpAny_setState_of ho hd hf ?_))
  dsimp only
  rw [byScan_of (knd := strKind prog w) rfl hb hel]
  simp only [↓reduceIte]
  unfold setAddByScan
  refine wpAny_bind ?_
  refine wpAny_bind (wpAny_rule ?_)
  refine wpAny_bind (wpAny_setScan_of hkey ho hd hf hel ?_)
  cases hr : List.findIdx? (fun e => (strKind prog w).is k e.2) es.toList with
  | some j =>
    dsimp only
    obtain ⟨hj, hpj, _⟩ := List.findIdx?_eq_some_iff_getElem.mp hr
    have hSk : S k = true := (hmem k).mpr ⟨es.toList[j], List.getElem_mem hj, hpj⟩
    refine wpAny_pure (wpAny_pure ?_)
    have e : s = { s with heap := s.heap } := by cases s; rfl
    rw [e]
    refine h s.heap n _ (Heap.SameBut.refl a s.heap) ⟨o, ho, es, ep, t, hex, hd, hel, fun k' => ?_, hb, hf, hn, hled, hpl⟩ (Nat.le_succ _)
    rw [Bool.or_eq_true, decide_eq_true_eq, ← hmem k']
    exact ⟨fun hk => hk.elim id (fun e => e ▸ hSk), .inl⟩
  | none =>
    dsimp only
    have hgw : ∀ (b : Bool) {s₁ : Shared} {Q' : Unit → Shared → Prop}, Q' () s₁ → wpAny (model prog w) A (match b with | true => rule "set.scan.the-table-gave-way" | false => pure ()) Q' E s₁ :=
      fun b s₁ Q' hq => by cases b <;> first | exact wpAny_pure hq | exact wpAny_rule hq
    have hperm := layNew_perm t es ((strKind prog w).hash k) (.str k tk)
    have hfits := layNew_fits t es ((strKind prog w).hash k) (.str k tk)
    have hled1 := layNew_led t es ((strKind prog w).hash k) (.str k tk)
    generalize hL : layNew t es ((strKind prog w).hash k) (.str k tk) = L at hperm hfits hled1 ⊢
    obtain ⟨es1, t1, wasDummy, gave⟩ := L
    dsimp only at hperm hfits hled1 ⊢
    rw [Array.toList_push] at hperm
    have hel1 : ElemsOf (strKind prog w) es1.toList := (hel.push hkey rfl).perm hperm
    have hmem1 : ∀ k', (S k' || decide (k' = k)) = true ↔ ∃ e ∈ es1.toList, (strKind prog w).is k' e.2 = true := mem_push_iff hkey hmem hperm
    have hsz1 : es1.size = n + 1 := by rw [← Array.length_toList, hperm.length_eq, List.length_append, Array.length_toList, hn]; rfl
    have hb1' : es1.size < scanBound := by rw [hsz1]; exact hroom
    refine wpAny_bind (hgw _ ?_)
    have tail : ∀ t2 : SetTable, t2.fits es1.size = true → t2.led = !byText w → t2.plain = false →
        wpAny (model prog w) A (do
          storeSet a es1 t2
          if (!wasDummy && t2.tooFull) = true then do
              (match (relayAll t2 es1 (SetTable.grown es1.size)).2.2 with | true => rule "set.scan.the-table-gave-way" | false => pure ())
              storeSet a (relayAll t2 es1 (SetTable.grown es1.size)).1 (relayAll t2 es1 (SetTable.grown es1.size)).2.1
              pure (some true)
            else pure (some true)) (fun r s' => wpAny (model prog w) A (match r with | some added => pure added | none => setAddHashedIn a (.str k tk) ((strKind prog w).hash k) 99999) Q E s') E s := by
      intro t2 hf2 hl2 hp2
      refine wpAny_bind (store_good ho hd hb1' fun h1 hs1 ho1 => ?_)
      split
      · have hp := relayAll_perm t2 es1 (SetTable.grown es1.size)
        have hfr := relayAll_fits t2 es1 (SetTable.grown es1.size)
        have hl3 := relayAll_led t2 es1 (SetTable.grown es1.size)
        have hp3 := relayAll_plain t2 es1 (SetTable.grown es1.size) hp2
        generalize hRl : relayAll t2 es1 (SetTable.grown es1.size) = Rl at hp hfr hl3 hp3 ⊢
        obtain ⟨es2, t3, gave2⟩ := Rl
        dsimp only at hp hfr hl3 hp3 ⊢
        have hsz2 : es2.size = es1.size := by rw [← Array.length_toList, hp.length_eq, Array.length_toList]
        refine wpAny_bind (hgw _ ?_)
        refine wpAny_bind (store_good ho1 rfl (by rw [hsz2]; exact hb1') fun h2 hs2 ho2 => ?_)
        refine wpAny_pure (wpAny_pure (h h2 (n + 1) _ (hs1.trans hs2) ⟨_, ho2, es2, _, t3, hex, rfl, hel1.perm hp, fun k' => (hmem1 k').trans ⟨fun ⟨e, he, q⟩ => ⟨e, hp.mem_iff.mpr he, q⟩, fun ⟨e, he, q⟩ => ⟨e, hp.mem_iff.mp he, q⟩⟩, by rw [hsz2]; exact hb1', hfr, by rw [hsz2]; exact hsz1, hl3.trans hl2, .inr hp3⟩ (Nat.le_refl _)))
      · exact wpAny_pure (wpAny_pure (h h1 (n + 1) _ hs1 ⟨_, ho1, es1, _, t2, hex, rfl, hel1, hmem1, hb1', hf2, hsz1, hl2, .inr hp2⟩ (Nat.le_refl _)))
    split
    · refine wpAny_bind ?_
      rw [hashByValue_scannable 8 (x := .str k tk) rfl]
      refine wpAny_pure ?_
      exact tail { t1 with plain := false } (SetTable.fits_plain_off hfits) (hled1.trans hled) rfl
    · rename_i hp1
      refine wpAny_bind (wpAny_pure ?_)
      simp only [↓reduceIte]
      exact tail t1 hfits (hled1.trans hled) (by simpa using hp1)
end
end Mine

namespace Mine

section
variable {prog : Program} {w : World} {A : Around} {R : Result → Shared → Prop}

/-- the loop of set(list): texts alone -/
theorem set_loop {I l S : Addr} {vs : List Value} {ys : List Str} (hh : A.handled = none) (hvs : StrsAre vs ys) (hIl : l ≠ I) (hSI : S ≠ I) (hSl : S ≠ l) (hb : ys.length + 1 < scanBound) :
    ∀ (k i n : Nat) (s : Shared), vs.length - i = k → i ≤ vs.length → n ≤ i → s.heap.IsListIter I l i → s.heap.IsList l vs.toArray → StrSet prog w s.heap S (fun x => decide (x ∈ ys.take i)) n →
      (∀ h' tk n', n' ≤ ys.length → StrSet prog w h' S (fun x => decide (x ∈ ys)) n' → (∀ b o, b ≠ I → b ≠ S → s.heap.get? b = some o → h'.get? b = some o) → R (.ok (.ret .none)) { s with heap := h', toks := tk }) →
      codeAny (model prog w) A (.builtin "set.update.loop" ⟨[.ref S, .ref I], []⟩) R s := by
  have hlen : vs.length = ys.length := hvs.len_eq
  have hh1 : A.in1.handled = none := by simp [hh]
  intro k
  induction k with
  | zero =>
    intro i n s hk hi hn hit hl hS hR
    have hin : i = vs.length := by omega
    subst hin
    refine codeAny_builtin PyProof.Rows.F.entry_set_update_loop ?_
    rw [Around.under_plainId PyProof.Rows.F.plain_set_update_loop _]
    show wpAny _ A.in1 (pyNext (.ref I) >>= _) _ _ s
    refine wpAny_bind (wpAny_pyNext_list_end hh1 hit hl (by simp) fun h' he' => ?_)
    show wpAny _ A.in1 (ret Value.none) _ _ _
    refine wpAny_pure (hR h' _ n (by omega) ?_ fun b o hb _ e => he' b o hb e)
    obtain ⟨o, ho, r⟩ := hS
    rw [hlen, List.take_length] at r
    exact ⟨o, he' S o hSI ho, r⟩
  | succ k ih =>
    intro i n s hk hi hn hit hl hS hR
    have hlt : i < vs.length := by omega
    refine codeAny_builtin PyProof.Rows.F.entry_set_update_loop ?_
    rw [Around.under_plainId PyProof.Rows.F.plain_set_update_loop _]
    show wpAny _ A.in1 (pyNext (.ref I) >>= _) _ _ s
    have hv : vs[i]? = some vs[i] := List.getElem?_eq_getElem hlt
    obtain ⟨y, t, hvy, hy⟩ := StrsAre.item hvs i vs[i] hv
    rw [hvy] at hv
    refine wpAny_bind (wpAny_pyNext_list_item hit hl (x := .str y t) (by simpa using hv) fun h' hit' hs' => ?_)
    show wpAny _ A.in1 (holding [Value.str y t] (setAdd S (.str y t)) >>= _) _ _ _
    refine wpAny_bind (wpAny_holding ?_)
    unfold setAdd
    refine wpAny_holding ?_
    refine wpAny_bind ((strKind prog w).pyHash (k := y) (strKind_is _ _ _ _) ?_)
    have hS' : StrSet prog w h' S (fun x => decide (x ∈ ys.take i)) n := by
      obtain ⟨o, ho, r⟩ := hS
      exact ⟨o, (hs'.2 S hSI).trans ho, r⟩
    refine setAdd_good (s := { s with heap := h', toks := s.toks + 1 }) hS' (by omega) fun h₂ n₂ _ hsb hS₂ hn₂ => ?_
    have hS₃ : StrSet prog w h₂ S (fun x => decide (x ∈ ys.take (i + 1))) n₂ := by
      have e : (fun k' => decide (k' ∈ ys.take i) || decide (k' = y)) = fun x => decide (x ∈ ys.take (i + 1)) := by
        funext x
        rw [List.take_add_one, hy]
        simp [Bool.decide_or]
      rw [← e]; exact hS₂
    obtain ⟨oI, hoI, rI⟩ := hit'
    obtain ⟨ol, hol, rl⟩ := hl
    refine wpAny_pure ⟨plainId_quiet PyProof.Rows.F.plain_set_update_loop _, ih (i + 1) n₂ _ (by omega) hlt (by omega) ⟨oI, (hsb.2 I (Ne.symm hSI)).trans hoI, rI⟩ ⟨ol, (hsb.2 l (Ne.symm hSl)).trans ((hs'.2 l hIl).trans hol), rl⟩ hS₃ fun h'' tk n' hn' hS'' hk'' => ?_⟩
    exact hR h'' tk n' hn' hS'' fun b o hb1 hb2 e => hk'' b o hb1 hb2 ((hsb.2 b hb2).trans ((hs'.2 b hb1).trans e))
end
end Mine

namespace Mine
abbrev freshSet (led : Bool) : Obj := { cls := .type "set", dict := none, data := .set #[] 0 (.fresh 0 0 led) }

section
variable {prog : Program} {w : World} {A : Around} {E : Value → Shared → Prop} {s : Shared}

theorem set_new_led (a : Value) {Q₁ : Value → Shared → Prop}
    (h : Q₁ (.ref s.heap.objs.size) { s with heap := s.heap.push (freshSet (!byText w)) }) :
    codeAny (model prog w) A (.call (.builtin "set.__new__") ⟨[.type "set", a], []⟩) (wants Q₁ E) s := by
  refine codeAny_of_tree ?_
  show wpAny _ A.in1 (do checkBuiltinCall "set.__new__" ⟨[.type "set", a], []⟩; again (.builtin "set.__new__" ⟨[.type "set", a], []⟩)) _ _ s
  refine wpAny_bind (wpAny_of_eq (PySem.F.newCall_set_1 a) (wpAny_pure ⟨plainId_quiet PySem.F.plain_set_new _, codeAny_builtin PySem.F.entry_set_new ?_⟩))
  rw [Around.under_plainId PySem.F.plain_set_new _]
  unfold Builtin.«set.__new__» Builtin.Frozenset.newClass
  have hsub := sub_set_self
  obtain ⟨hp, g, d, tk, os⟩ := s
  dsimp only
  wp_walk
  refine wpAny_askSetting (wpAny_pure ?_)
  dsimp only
  simp only [newObj]
  refine wpAny_bind (wpAny_alloc (wpAny_pure ?_))
  exact wpAny_pure h

set_option maxHeartbeats 4000000 in
theorem call_set_texts {l : Addr} {vs : List Value} {ys : List Str} {Q : Value → Shared → Prop}
    (hh : A.handled = none) (hl : s.heap.IsList l vs.toArray) (hi : StrsAre vs ys) (hb : ys.length + 1 < scanBound)
    (h : ∀ (h' : Heap) (tk n : Nat), StrSet prog w h' s.heap.objs.size (fun x => decide (x ∈ ys)) n →
      (∀ b o, s.heap.get? b = some o → h'.get? b = some o) → Q (.ref s.heap.objs.size) { s with heap := h', toks := tk }) :
    wpAny (model prog w) A (call (.type "set") [.ref l]) Q E s := by
  obtain ⟨c, tl, hmro⟩ := PySem.F.called_set.mro
  have hmade := PySem.F.called_set.made
  have hsub := PySem.F.called_set.sub
  refine wpAny_call (codeAny_of_tree ?_)
  show wpAny _ _ (callAny (.type "set") _) _ _ _
  refine wpAny_pure ⟨Code.quiet_builtin _ (by decide +kernel), codeAny_builtin PySem.F.entry_type_call ?_⟩
  rw [Around.under_plain (weight_type_call_type "set" [.ref l] []) rfl]
  have h1 := PySem.F.called_set.notType
  have h2 := PySem.F.called_set.canCreate
  have hct := PySem.F.typeCall_set_1 (.ref l)
  repeat (any_goals (first | assumption | wp_step))
  refine codeAny_mono (set_new_led (w := w) (.ref l) (E := E) (Q₁ := fun obj s₁ => obj = .ref s.heap.objs.size ∧ s₁ = { s with heap := s.heap.push (freshSet (!byText w)) }) ⟨rfl, rfl⟩) fun r s₁ hr => ?_
  cases r with
  | error e => exact hr
  | ok fl =>
    cases fl with
    | ret obj =>
      obtain ⟨rfl, rfl⟩ := hr
      have hS : (s.heap.push (freshSet (!byText w))).get? s.heap.objs.size = some (freshSet (!byText w)) := Heap.get?_push_size _ rfl
      have hT : Shared.TypeIs { s with heap := s.heap.push (freshSet (!byText w)) } (.ref s.heap.objs.size) "set" := ⟨_, hS, rfl⟩
      have hli := PySem.F.called_set.init.lookup
      have hbi := PySem.F.called_set.init.bind (.ref s.heap.objs.size)
      repeat (any_goals (first | assumption | wp_step))
      refine codeAny_mono (codeAny_call_builtin (R := wants (fun r s₂ => r = .none ∧ ∃ h' tk n, s₂ = { s with heap := h', toks := tk } ∧
          StrSet prog w h' s.heap.objs.size (fun x => decide (x ∈ ys)) n ∧ (∀ b o, s.heap.get? b = some o → h'.get? b = some o)) E) PySem.F.called_set.init.plain PySem.F.entry_set_init (check_set_init_1 hT ?_)) fun r₂ s₂ hr₂ => ?_
      · obtain ⟨ol, hol, hcl, nl, hdl⟩ := hl
        obtain ⟨ocls, odict, odata, oslots⟩ := ol
        simp only at hcl hdl
        subst hcl; subst hdl
        have hol' : (s.heap.push (freshSet (!byText w))).get? l = some { cls := .type "list", dict := odict, data := .seq vs.toArray nl, slots := oslots } := Heap.get?_push_of_some _ hol
        have hsls := PySem.F.sub_list_set
        have hslf := PySem.F.sub_list_frozenset
        have hne : (Value.type "list" == Value.type "dict") = false := by decide
        have hl1 : (s.heap.push (freshSet (!byText w))).IsList l vs.toArray := ⟨_, hol', rfl, nl, rfl⟩
        unfold Builtin.«set.__init__» noKeywords Builtin.Frozenset.updateFrom
        generalize hPI : pyIter = PI
        wp_walk
        subst hPI
        refine wpAny_pyIter_list hl1 ?_
        refine wpAny_bind (wpAny_runValue ?_)
        have hlS : l < s.heap.objs.size := Heap.lt_size hol
        have hh3 : A.in1.in1.handled = none := by simp [hh]
        have hI : (s.heap.push (freshSet (!byText w))).objs.size = s.heap.objs.size + 1 := Heap.size_push ..
        have z1 : l ≠ (s.heap.push (freshSet (!byText w))).objs.size := by rw [hI]; exact Nat.ne_of_lt (Nat.lt_succ_of_lt hlS)
        have z2 : s.heap.objs.size ≠ (s.heap.push (freshSet (!byText w))).objs.size := by rw [hI]; exact Nat.ne_of_lt (Nat.lt_succ_self _)
        have z3 : s.heap.objs.size ≠ l := Nat.ne_of_gt hlS
        refine set_loop (l := l) (vs := vs) (ys := ys) hh3 hi z1 z2 z3 hb (vs.length - 0) 0 0 _ rfl (Nat.zero_le _) (Nat.le_refl _) ⟨_, Heap.get?_push_size _ rfl, rfl, rfl⟩ (hl1.push _) ?hS0 ?hR
        case hS0 =>
          refine ⟨freshSet (!byText w), Heap.get?_push_of_some _ hS, #[], 0, _, ⟨rfl, rfl, rfl⟩, rfl, fun e he => by simp at he, fun k => by simp, by decide, rfl, rfl, rfl, .inl rfl⟩
        case hR =>
          intro h' tk n _ hS' hk'
          refine wpAny_pure ?_
          show wpAny _ _ (ret Value.none) _ _ _
          refine wpAny_pure ⟨rfl, h', tk, n, rfl, hS', fun b o e => ?_⟩
          have hbl := Heap.lt_size e
          exact hk' b o (by rw [hI]; exact Nat.ne_of_lt (Nat.lt_succ_of_lt hbl)) (Nat.ne_of_lt hbl) (Heap.get?_push_of_some _ (Heap.get?_push_of_some _ e))
      · cases r₂ with
        | error e => exact hr₂
        | ok fl₂ =>
          cases fl₂ with
          | ret r =>
            obtain ⟨rfl, h', tk, n, rfl, hS', hk'⟩ := hr₂
            repeat (any_goals (first | assumption | wp_step))
            exact h _ _ _ hS' hk'
          | _ => exact hr₂.elim
    | _ => exact hr.elim
end
end Mine

namespace Mine

theorem perm_eraseIdx {α : Type} : ∀ (l : List α) (i : Nat) (x : α), l[i]? = some x → l.Perm (x :: l.eraseIdx i)
  | [], i, x, h => by simp at h
  | a :: l, 0, x, h => by
    simp at h
    subst h
    exact List.Perm.refl _
  | a :: l, i + 1, x, h => by
    have h1 := perm_eraseIdx l i x (by simpa using h)
    exact (List.Perm.cons a h1).trans (List.Perm.swap x a _)

section
variable {prog : Program} {w : World} {A : Around} {E : Value → Shared → Prop} {s : Shared}

theorem wpAny_chooseAny {M : Model} {src : Source} {n : Nat} {Q : Nat → Shared → Prop} (hn : n ≠ 0) (h : ∀ i d, i < n → Q i { s with drawn := d }) : wpAny M A (choose src n) Q E s := by
  intro Γ p _
  show Sem.wp M Γ (.choose src n .pure) _ _ p s
  rw [Sem.wp_choose]
  exact ⟨hn, h _ _ (Nat.mod_lt _ (Nat.pos_of_ne_zero hn))⟩

theorem drawOrder_perm {α : Type} {M : Model} : ∀ (n : Nat) (xs : List α) (s : Shared) (Q : List α → Shared → Prop), n = xs.length → (∀ ys d, ys.Perm xs → Q ys { s with drawn := d }) → wpAny M A (drawOrder n xs) Q E s
  | 0, xs, s, Q, hn, h => by
    have : xs = [] := List.eq_nil_of_length_eq_zero hn.symm
    subst this
    unfold drawOrder
    exact wpAny_pure (h [] s.drawn (List.Perm.refl _))
  | n + 1, [], s, Q, hn, h => by simp at hn
  | n + 1, x :: r, s, Q, hn, h => by
    unfold drawOrder
    refine wpAny_bind (wpAny_chooseAny (by simp) fun i d hi => ?_)
    have hx : (x :: r)[i]? = some (x :: r)[i] := List.getElem?_eq_getElem hi
    have hp := perm_eraseIdx _ _ _ hx
    rw [hx]
    dsimp only
    have hl : n = ((x :: r).eraseIdx i).length := by
      have := hp.length_eq
      simp only [List.length_cons] at this hn
      omega
    refine wpAny_bind (drawOrder_perm n ((x :: r).eraseIdx i) _ _ hl fun ys d' hys => wpAny_pure ?_)
    exact h _ d' ((List.Perm.cons _ hys).trans hp.symm)

theorem pick_go {α : Type} (next : Nat → Nat) : ∀ (fuel k : Nat) (left : List α) (out : Array α), fuel = left.length → (pickOrder.go next fuel k left out).toList.Perm (out.toList ++ left)
  | 0, k, left, out, h => by
    have : left = [] := List.eq_nil_of_length_eq_zero h.symm
    subst this
    unfold pickOrder.go
    rw [List.append_nil]
  | fuel + 1, k, left, out, h => by
    have hpos : 0 < left.length := by omega
    have hlt : next k % left.length < left.length := Nat.mod_lt _ hpos
    have hx : left[next k % left.length]? = some left[next k % left.length] := List.getElem?_eq_getElem hlt
    have hp := perm_eraseIdx _ _ _ hx
    unfold pickOrder.go
    rw [hx]
    dsimp only
    have hl : fuel = (left.eraseIdx (next k % left.length)).length := by
      have := hp.length_eq
      simp only [List.length_cons] at this
      omega
    refine (pick_go next fuel (k + 1) _ _ hl).trans ?_
    rw [Array.toList_push, List.append_assoc]
    exact List.Perm.append_left _ hp.symm
theorem pick_perm {α : Type} (next : Nat → Nat) (xs : Array α) : (pickOrder next xs).toList.Perm xs.toList := by
  have := pick_go next xs.size 0 xs.toList #[] (by simp)
  simpa [pickOrder] using this

/-- the object of a set's walk -/
abbrev setIt (first : Value) (i : Nat) (a : Addr) (n ep : Nat) : Obj := { cls := .type "set_iterator", data := .fields #[first, .int i 0, .ref a, .int n 0, .int ep 0] }

theorem slot_setit_next : Slot "set_iterator" "__next__" "set_iterator.__next__" :=
  .of (owner := "set_iterator") (n := "__next__") (by rw [typeLookup_type, builtinLookup_eq_fast]; kernel_rfl) (by decide +kernel) (by decide +kernel) (by decide +kernel)
    (by first | exact .inl (by decide +kernel) | exact .inr (by decide +kernel)) (by rw [isSubtype_type]; kernel_rfl)
theorem entry_setit_next : entryFor table "set_iterator.__next__" = some Builtin.«set_iterator.__next__» := entryFor_of_tree (by kernel_rfl)
theorem args_setit_next (a : Value) : argsOk "set_iterator.__next__" ⟨[a], []⟩ := by unfold argsOk; kernel_rfl
theorem entry_set_iter : entryFor table "set.__iter__" = some Builtin.«frozenset.__iter__» :=
  entryFor_alias (id' := "frozenset.__iter__") (by kernel_rfl) rfl (by decide +kernel) (by kernel_rfl)

end
end Mine

namespace Mine

/-- a set of texts, as its walk wants it -/
def SetUse (prog : Program) (w : World) (o : Obj) (S : Str → Bool) : Prop :=
  ∃ es ep t, o.ExactSet ∧ o.data = .set es ep t ∧ ElemsOf (strKind prog w) es.toList ∧ (∀ k, S k = true ↔ ∃ e ∈ es.toList, (strKind prog w).is k e.2 = true) ∧ es.size < scanBound ∧ t.fits es.size = true ∧
    (es.size = 0 ∨ (t.led = !byText w ∧ t.plain = false))
theorem SetGood.use {prog : Program} {w : World} {o : Obj} {S : Str → Bool} {n : Nat} (x : SetGood prog w o S n) : SetUse prog w o S := by
  obtain ⟨es, ep, t, h1, h2, h3, h4, h5, h6, h7, h8, h9⟩ := x
  exact ⟨es, ep, t, h1, h2, h3, h4, h5, h6, h9.imp id fun z => ⟨h8, z⟩⟩
theorem SetUse.setOf {prog : Program} {w : World} {h : Heap} {a : Addr} {o : Obj} {S : Str → Bool} (x : SetUse prog w o S) (ho : h.get? a = some o) : ∃ n, h.SetOf (strKind prog w) a S n := by
  obtain ⟨es, ep, t, h1, h2, h3, h4, h5, h6, _⟩ := x
  exact ⟨_, o, es, ep, t, ho, h1, h2, h3, h4, h5, h6, rfl⟩
theorem fresh_use {prog : Program} {w : World} (led : Bool) : SetUse prog w { cls := .type "set", dict := none, data := .set #[] 0 (.fresh 0 0 led) } (fun _ => false) :=
  ⟨#[], 0, _, ⟨rfl, rfl, rfl⟩, rfl, fun e he => by simp at he, fun k => by simp, by decide, rfl, .inl rfl⟩

/-- how far a walk over a set has come -/
def ItSt (w : World) (fr : Addr → Prop) (I a : Addr) (es : Array (Int × Value)) (ep : Nat) (t : SetTable) (vs : List Value) (i : Nat) (h : Heap) : Prop :=
  (∃ o, h.get? a = some o ∧ o.data = .set es ep t) ∧ t.fits es.size = true ∧ vs.length = es.size ∧
  ((∃ (p : Addr) (ord : List Nat), h.get? I = some (setIt (.ref p) i a es.size ep) ∧ (∃ op n, h.get? p = some op ∧ op.data = .seq (ord.map (fun (k : Nat) => Value.int (k : Int) 0)).toArray n) ∧ p ≠ I ∧ fr p ∧ ord.length = es.size ∧
      ∀ (k place : Nat), ord[k]? = some place → ∃ e : Int × Value, es[place]? = some e ∧ vs[k]? = some e.2)
   ∨ (byText w = true ∧ h.get? I = some (setIt (.int 0 0) i a es.size ep) ∧ vs = (pickOrder (w.params.setOrder a ep) es).toList.map (·.2))
   ∨ (byText w = false ∧ es.size ≤ 1 ∧ (es.size = 0 ∨ t.led = true) ∧ vs = es.toList.map (·.2) ∧ ∃ slot : Nat, h.get? I = some (setIt (.int slot 0) i a es.size ep) ∧ SetTable.below t.place slot = i))

section
variable {prog : Program} {w : World} {A : Around} {E : Value → Shared → Prop} {s : Shared}

theorem fits_size {t : SetTable} {n : Nat} (h : t.fits n = true) : t.place.size = n := by
  simp only [SetTable.fits, Bool.and_eq_true, beq_iff_eq] at h
  exact h.1
theorem below_zero {xs : Array Nat} (h : xs.size ≤ 1) : SetTable.below xs 0 = 0 := by
  unfold SetTable.below
  have : xs.size = 0 ∨ xs.size = 1 := by omega
  rcases this with h | h <;> rw [h] <;> simp [SetTable.below.go]
theorem below_next {xs : Array Nat} {j : Nat} (h : xs.size = 1) (hj : xs[0]? = some j) : SetTable.below xs (j + 1) = 1 := by
  unfold SetTable.below
  have e : xs.getD 0 (j + 1) = j := by simp [Array.getD_eq_getD_getElem?, hj]
  rw [h]
  simp [SetTable.below.go, e]

theorem pyIter_set {a : Addr} {o : Obj} {S : Str → Bool} {Q : Value → Shared → Prop} (ho : s.heap.get? a = some o) (hS : SetUse prog w o S)
    (h : ∀ I h' d es ep t vs, (∀ b x, s.heap.get? b = some x → h'.get? b = some x) → s.heap.get? I = none → o.data = .set es ep t → ItSt w (fun b => s.heap.get? b = none) I a es ep t vs 0 h' →
      (∀ v ∈ vs, ∃ k tk, v = .str k tk ∧ S k = true) → (∀ k, S k = true → ∃ tk, Value.str k tk ∈ vs) → Q (.ref I) { s with heap := h', drawn := d }) :
    wpAny (model prog w) A (pyIter (.ref a)) Q E s := by
  obtain ⟨es, ep, t, hex, hd, hel, hmem, hb, hf, hlp⟩ := hS
  have hT : s.TypeIs (.ref a) "set" := ⟨o, ho, hex.1⟩
  have fresh : s.heap.get? s.heap.objs.size = none := Heap.get?_none_of_le (Nat.le_refl _)
  have hstrs : ∀ e ∈ es.toList, ∃ k tk, e.2 = .str k tk ∧ S k = true := by
    intro e he
    obtain ⟨⟨k, hk, _⟩, _⟩ := hel e he
    have hSk : S k = true := (hmem k).mpr ⟨e, he, hk⟩
    have : ∃ tk, e.2 = .str k tk := by
      have hk' : Value.isStrOf k e.2 = true := hk
      cases hv : e.2 <;> rw [hv] at hk' <;> simp [Value.isStrOf] at hk'
      subst hk'
      exact ⟨_, rfl⟩
    obtain ⟨tk, e2⟩ := this
    exact ⟨k, tk, e2, hSk⟩
  have back : ∀ k, S k = true → ∃ tk, ∃ e ∈ es.toList, e.2 = Value.str k tk := by
    intro k hk
    obtain ⟨e, he, hke⟩ := (hmem k).mp hk
    have hk' : Value.isStrOf k e.2 = true := hke
    cases hv : e.2 <;> rw [hv] at hk' <;> simp [Value.isStrOf] at hk'
    subst hk'
    exact ⟨_, e, he, hv⟩
  refine wpAny_pyIter_slot hT PySem.F.slot_set_iter (wpAny_call_entry PySem.F.slot_set_iter hT entry_set_iter ?_ (PySem.F.args_set_iter_1 _))
  unfold Builtin.«frozenset.__iter__» Builtin.Frozenset.slot0 slotArgs
  simp only [List.isEmpty_nil, Bool.not_true, Bool.false_eq_true, if_false, pure_bind, List.length_nil, bne_self_eq_false, Builtin.Frozenset.addrOf]
  have fin : ∀ (first : Value) (vs : List Value) (s₁ : Shared) (h₁ : Heap) (d : Drawn), s₁ = { s with heap := h₁, drawn := d } → (∀ b x, s.heap.get? b = some x → h₁.get? b = some x) → s.heap.get? h₁.objs.size = none →
      (∀ h' : Heap, (∀ b x, h₁.get? b = some x → h'.get? b = some x) → h'.get? h₁.objs.size = some (setIt first 0 a es.size ep) → ItSt w (fun b => s.heap.get? b = none) h₁.objs.size a es ep t vs 0 h') →
      (∀ v ∈ vs, ∃ k tk, v = .str k tk ∧ S k = true) → (∀ k, S k = true → ∃ tk, Value.str k tk ∈ vs) →
      wpAny (model prog w) A.in1 (do
          let e ← setEpoch a
          let f ← newFields "set_iterator" [first, rawInt 0, Value.ref a, rawInt (es.size : Int), rawInt (e : Int)]
          ret f) (fun fin s' => ∃ v, fin = Fin.done (Flow.ret v) ∧ ∃ T' r, s'.TypeIs v T' ∧ typeLookup (Value.type T') (Str.ofString "__next__") = pure (some r) ∧ Q v s') E s₁ := by
    rintro first vs s₁ h₁ d rfl hk hfr hst hv1 hv2
    refine wpAny_bind (wpAny_setEpoch_of (hk a o ho) hd hf ?_)
    refine wpAny_bind (wpAny_newObj_type ?_ (by size_fits))
    refine wpAny_pure ⟨_, rfl, "set_iterator", _, ⟨_, Heap.get?_push_size _ rfl, rfl⟩, slot_setit_next.lookup, ?_⟩
    exact h _ _ _ es ep t vs (fun b x e => Heap.get?_push_of_some _ (hk b x e)) hfr hd (hst _ (fun b x e => Heap.get?_push_of_some _ e) (Heap.get?_push_size _ rfl)) hv1 hv2
  refine wpAny_bind ?_
  unfold Builtin.Frozenset.sizeOf
  refine wpAny_bind (wpAny_setEntries_of ho hd hf (wpAny_pure ?_))
  refine wpAny_bind ?_
  unfold setDrawn setsByText
  refine wpAny_bind (wpAny_setState_of ho hd hf ?_)
  refine wpAny_bind (wpAny_bind (wpAny_askSetting (wpAny_pure ?_)))
  refine wpAny_pure ?_
  show wpAny (model prog w) A.in1 (if (!(byText w) && (!t.plain && decide (es.size > 1))) = true then _ else _) _ _ s
  by_cases hdr : (!(byText w) && (!t.plain && decide (es.size > 1))) = true
  · rw [if_pos hdr]
    have hbt : byText w = false := by
      simp only [Bool.and_eq_true, Bool.not_eq_true'] at hdr
      exact hdr.1
    refine wpAny_bind (drawOrder_perm es.size (List.range es.size) s _ (by simp) fun ord d hord => ?_)
    refine wpAny_bind (wpAny_newObj_type ?_ (by
      show (List.map (fun i : Nat => rawInt (i : Int)) ord).toArray.size ≤ sizeLine
      rw [List.size_toArray, List.length_map, hord.length_eq, List.length_range]
      exact fits_of_scanBound hb))
    have hlen : ord.length = es.size := by rw [hord.length_eq, List.length_range]
    have hin : ∀ k ∈ ord, k < es.size := fun k hk => List.mem_range.mp (hord.mem_iff.mp hk)
    refine fin (.ref s.heap.objs.size) (ord.map fun k => ((es.toList.map (·.2))[k]?).getD .none) _ _ d rfl (fun b x e => Heap.get?_push_of_some _ e) (Heap.get?_none_of_le (by rw [Heap.size_push]; exact Nat.le_succ _)) ?_ ?_ ?_
    · intro h' hk' hI'
      refine ⟨⟨o, hk' _ _ (Heap.get?_push_of_some _ ho), hd⟩, hf, by simp [hlen], .inl ⟨_, ord, hI', ⟨_, _, hk' _ _ (Heap.get?_push_size _ rfl), rfl⟩, by rw [Heap.size_push]; exact Nat.ne_of_lt (Nat.lt_succ_self _), fresh, hlen, ?_⟩⟩
      intro k place hkp
      have hpl := hin place (List.mem_of_getElem? hkp)
      refine ⟨es[place], by simp [hpl], ?_⟩
      rw [List.getElem?_map, hkp]
      simp [hpl]
    · intro v hv
      obtain ⟨k, hk, rfl⟩ := List.mem_map.mp hv
      have hpl := hin k hk
      have e1 : ((es.toList.map (·.2))[k]?).getD Value.none = es[k].2 := by simp [hpl]
      rw [e1]
      exact hstrs es[k] (by simp)
    · intro k hk
      obtain ⟨tk, e, he, hek⟩ := back k hk
      obtain ⟨j, hj, hje⟩ := List.mem_iff_getElem.mp he
      refine ⟨tk, List.mem_map.mpr ⟨j, hord.mem_iff.mpr (List.mem_range.mpr (by simpa using hj)), ?_⟩⟩
      rw [← hek, ← hje]
      simp at hj
      simp [hj]
  · rw [if_neg hdr]
    cases hbt : byText w with
    | true =>
      refine fin (.int 0 0) ((pickOrder (w.params.setOrder a ep) es).toList.map (·.2)) s s.heap s.drawn (by cases s; rfl) (fun _ _ e => e) fresh ?_ ?_ ?_
      · intro h' hk' hI'
        refine ⟨⟨o, hk' _ _ ho, hd⟩, hf, ?_, .inr (.inl ⟨hbt, hI', rfl⟩)⟩
        rw [List.length_map, (pick_perm _ es).length_eq]
        simp
      · intro v hv
        obtain ⟨e, he, rfl⟩ := List.mem_map.mp hv
        exact hstrs e ((pick_perm _ es).mem_iff.mp he)
      · intro k hk
        obtain ⟨tk, e, he, hek⟩ := back k hk
        exact ⟨tk, List.mem_map.mpr ⟨e, (pick_perm _ es).mem_iff.mpr he, hek⟩⟩
    | false =>
      have hsm : es.size ≤ 1 := by
        rcases hlp with h0 | ⟨_, hp⟩
        · omega
        · rw [hbt, hp] at hdr
          simp at hdr
          omega
      refine fin (.int 0 0) (es.toList.map (·.2)) s s.heap s.drawn (by cases s; rfl) (fun _ _ e => e) fresh ?_ ?_ ?_
      · intro h' hk' hI'
        refine ⟨⟨o, hk' _ _ ho, hd⟩, hf, by simp, .inr (.inr ⟨hbt, hsm, hlp.imp id fun z => by rw [z.1, hbt]; rfl, rfl, 0, hI', below_zero (by rw [fits_size hf]; exact hsm)⟩)⟩
      · intro v hv
        obtain ⟨e, he, rfl⟩ := List.mem_map.mp hv
        exact hstrs e he
      · intro k hk
        obtain ⟨tk, e, he, hek⟩ := back k hk
        exact ⟨tk, List.mem_map.mpr ⟨e, he, hek⟩⟩
end
end Mine

namespace Mine
section
variable {prog : Program} {w : World} {A : Around} {E : Value → Shared → Prop} {s : Shared}

theorem it_obj {fr : Addr → Prop} {I a : Addr} {es : Array (Int × Value)} {ep : Nat} {t : SetTable} {vs : List Value} {i : Nat} {h : Heap} (x : ItSt w fr I a es ep t vs i h) : ∃ first, h.get? I = some (setIt first i a es.size ep) := by
  obtain ⟨_, _, _, ⟨p, ord, hI, _⟩ | ⟨_, hI, _⟩ | ⟨_, _, _, _, slot, hI, _⟩⟩ := x
  · exact ⟨_, hI⟩
  · exact ⟨_, hI⟩
  · exact ⟨_, hI⟩

theorem setNext_text {a : Addr} {o : Obj} {es : Array (Int × Value)} {ep : Nat} {t : SetTable} {slot i : Nat} {Q : Option (Value × Nat) → Shared → Prop} (ho : s.heap.get? a = some o) (hd : o.data = .set es ep t) (hf : t.fits es.size = true) (hbt : byText w = true)
    (h : Q (((pickOrder (w.params.setOrder a ep) es)[i]?).map fun e => (e.2, slot)) s) : wpAny (model prog w) A (setNext a slot i ep) Q E s := by
  have hbt' : (model prog w).w.params.followText "set-order" = true := hbt
  unfold setNext setsByText
  refine wpAny_bind (wpAny_setState_of ho hd hf ?_)
  dsimp only
  refine wpAny_bind (wpAny_bind (wpAny_askSetting (wpAny_pure ?_)))
  dsimp only
  rw [hbt']
  simp only [bne_self_eq_false, Bool.false_eq_true, if_false, if_true]
  unfold setWalk setsByText
  refine wpAny_bind (wpAny_bind (wpAny_setState_of ho hd hf ?_))
  dsimp only
  refine wpAny_bind (wpAny_bind (wpAny_askSetting (wpAny_pure ?_)))
  dsimp only
  rw [hbt']
  simp only [if_true]
  refine wpAny_bind (wpAny_askSetting (wpAny_pure ?_))
  exact wpAny_pure h

theorem setNext_led {a : Addr} {o : Obj} {es : Array (Int × Value)} {ep : Nat} {t : SetTable} {slot i : Nat} {Q : Option (Value × Nat) → Shared → Prop} (ho : s.heap.get? a = some o) (hd : o.data = .set es ep t) (hf : t.fits es.size = true) (hbt : byText w = false)
    (hsm : es.size ≤ 1) (hled : es.size = 0 ∨ t.led = true)
    (h : Q (match es[SetTable.below t.place slot]?, t.place[SetTable.below t.place slot]? with | some (_, x), some j => some (x, j + 1) | _, _ => none) s) : wpAny (model prog w) A (setNext a slot i ep) Q E s := by
  have hbt' : (model prog w).w.params.followText "set-order" = false := hbt
  have hdr : ¬ ((!t.plain && decide (es.size > 1)) = true) := by simp; intro _; omega
  have hml : ¬ ((!t.led && !es.isEmpty) = true) := by
    rcases hled with h0 | h0
    · have : es.isEmpty = true := by simpa [Array.isEmpty] using h0
      simp [this]
    · simp [h0]
  unfold setNext setsByText
  refine wpAny_bind (wpAny_setState_of ho hd hf ?_)
  dsimp only
  refine wpAny_bind (wpAny_bind (wpAny_askSetting (wpAny_pure ?_)))
  dsimp only
  rw [hbt']
  simp only [Bool.false_eq_true, if_false]
  show wpAny (model prog w) A (if (!t.plain && decide (es.size > 1)) = true then _ else _) _ _ s
  rw [if_neg hdr]
  refine wpAny_bind ?_
  show wpAny (model prog w) A (if (!t.led && !es.isEmpty) = true then unsupported "set:maker-not-led" else pure ()) _ _ s
  rw [if_neg hml]
  exact wpAny_pure (wpAny_pure h)

theorem pyNext_set_item {fr : Addr → Prop} {I a : Addr} {es : Array (Int × Value)} {ep : Nat} {t : SetTable} {vs : List Value} {i : Nat} {v : Value} {Q : Option Value → Shared → Prop} (hst : ItSt w fr I a es ep t vs i s.heap) (hi : vs[i]? = some v) (hne : a ≠ I)
    (hQ : ∀ h', ItSt w fr I a es ep t vs (i + 1) h' → Heap.SameBut I s.heap h' → Q (some v) { s with heap := h' }) :
    wpAny (model prog w) A (pyNext (.ref I)) Q E s := by
  obtain ⟨first, hI⟩ := it_obj hst
  have hT : s.TypeIs (.ref I) "set_iterator" := ⟨_, hI, rfl⟩
  have hiv : i < vs.length := (List.getElem?_eq_some_iff.mp hi).1
  unfold pyNext
  refine wpAny_bind (wpAny_attempt (wpAny_callSpecial?_slot (name := Str.ofString "__next__") hT slot_setit_next
    (wpAny_call_entry slot_setit_next hT entry_setit_next ?_ (args_setit_next _))))
  unfold Builtin.«set_iterator.__next__» slotArgs fieldsOf
  simp only [List.isEmpty_nil, Bool.not_true, Bool.false_eq_true, if_false, pure_bind, List.length_nil, bne_self_eq_false]
  refine wpAny_bind (wpAny_bind (wpAny_load hI (wpAny_pure ?_)))
  dsimp only
  obtain ⟨⟨o, ho, hd⟩, hf, hlen, hmode⟩ := hst
  refine wpAny_bind (wpAny_setEntries_of ho hd hf ?_)
  simp only [bne_self_eq_false, Bool.false_eq_true, if_false]
  rcases hmode with ⟨p, ord, hIp, ⟨op, n, hop, hdp⟩, hpI, hfp, hol, hord⟩ | ⟨hbt, hIt, hvs⟩ | ⟨hbt, hsm, hled, hvs, slot, hIs, hbel⟩
  · rw [hI] at hIp
    cases hIp
    dsimp only
    refine wpAny_bind (wpAny_seqItems hop hdp ?_)
    dsimp only
    have hio : i < ord.length := by omega
    obtain ⟨e, he, hve⟩ := hord i ord[i] (List.getElem?_eq_getElem hio)
    rw [hi] at hve
    cases hve
    have e1 : ((List.map (fun k : Nat => Value.int (k : Int) 0) ord).toArray)[(i : Int).toNat]? = some (.int (ord[i] : Int) 0) := by simp [hio]
    rw [e1]
    dsimp only
    unfold setNextDrawn
    refine wpAny_bind (wpAny_bind (wpAny_setState_of ho hd hf ?_))
    simp only [Int.toNat_natCast, bne_self_eq_false, Bool.false_eq_true, if_false, he]
    refine wpAny_pure ?_
    refine wpAny_bind (wpAny_setField_rec hI (by simp) fun h' hI' hs' => ?_)
    refine wpAny_pure ⟨_, rfl, ?_⟩
    refine wpAny_pure (hQ h' ⟨⟨o, (hs'.2 a hne).trans ho, hd⟩, hf, hlen, .inl ⟨p, ord, ?_, ⟨op, n, (hs'.2 p hpI).trans hop, hdp⟩, hpI, hfp, hol, hord⟩⟩ hs')
    rw [hI']
    simp [rawInt]
  · rw [hI] at hIt
    cases hIt
    dsimp only
    simp only [Int.toNat_natCast]
    refine wpAny_bind (setNext_text ho hd hf hbt ?_)
    have e1 : ((pickOrder (w.params.setOrder a ep) es)[i]?).map (fun e => (e.2, (0 : Int).toNat)) = some (v, 0) := by
      rw [hvs, List.getElem?_map] at hi
      rw [← Array.getElem?_toList]
      cases hx : (pickOrder (w.params.setOrder a ep) es).toList[i]? with
      | none => rw [hx] at hi; cases hi
      | some e => rw [hx] at hi; cases hi; rfl
    rw [e1]
    dsimp only
    refine wpAny_bind (wpAny_setField_rec hI (by simp) fun h1 hI1 hs1 => ?_)
    refine wpAny_bind (wpAny_setField_rec hI1 (by simp) fun h' hI' hs' => ?_)
    have hs2 := hs1.trans hs'
    refine wpAny_pure ⟨_, rfl, ?_⟩
    refine wpAny_pure (hQ h' ⟨⟨o, (hs2.2 a hne).trans ho, hd⟩, hf, hlen, .inr (.inl ⟨hbt, ?_, hvs⟩)⟩ hs2)
    rw [hI']
    simp [rawInt]
  · rw [hI] at hIs
    cases hIs
    dsimp only
    simp only [Int.toNat_natCast]
    refine wpAny_bind (setNext_led ho hd hf hbt hsm hled ?_)
    have hi0 : i = 0 := by omega
    have hs1 : es.size = 1 := by omega
    have hp1 : t.place.size = 1 := by rw [fits_size hf]; exact hs1
    subst hi0
    have e1 : es[0]? = some es[0] := by simp [hs1]
    have e2 : t.place[0]? = some t.place[0] := by simp [hp1]
    have e3 : v = es[0].2 := by
      rw [hvs] at hi
      simp [hs1] at hi
      exact hi.symm
    rw [hbel, e1, e2]
    dsimp only
    refine wpAny_bind (wpAny_setField_rec hI (by simp) fun h1 hI1 hs1' => ?_)
    refine wpAny_bind (wpAny_setField_rec hI1 (by simp) fun h' hI' hs' => ?_)
    have hs2 := hs1'.trans hs'
    refine wpAny_pure ⟨_, rfl, ?_⟩
    rw [← e3]
    refine wpAny_pure (hQ h' ⟨⟨o, (hs2.2 a hne).trans ho, hd⟩, hf, hlen, .inr (.inr ⟨hbt, hsm, hled, hvs, t.place[0] + 1, ?_, below_next hp1 e2⟩)⟩ hs2)
    rw [hI']
    simp [rawInt]

theorem stop_now {h1 : Heap} {Q : Option Value → Shared → Prop} (hh : A.handled = none) (h : ∀ h', (∀ b o, h1.get? b = some o → h'.get? b = some o) → Q none { s with heap := h' }) :
    wpAny (model prog w) A.in1 (do let x ← newExc (.type "StopIteration") []; raiseNew x : Sem Fin) (fun fin s' => ∃ v, fin = Fin.done (Flow.ret v) ∧ wpAny (model prog w) A (pure (some v)) Q E s')
      (fun e s' => wpAny (model prog w) A (do if (← isInstance e (.type "StopIteration")) then pure none else throw e) Q E s') { s with heap := h1 } := by
  refine wpAny_bind ?_
  simp only [newExc, newTuple]
  refine wpAny_bind (wpAny_newObj_type ?_ (by size_fits))
  refine wpAny_bind (m := firstArgMember _ _) (wpAny_of_eq (a := Value.none) (by first | rfl | (simp only [firstArgMember]; rfl)) ?_)
  refine wpAny_newObj_type ?_ (by size_fits)
  simp only [raiseNew]
  refine wpAny_bind (wpAny_handled ?_)
  rw [show A.in1.handled = none from hh]
  refine wpAny_bind (wpAny_pure (wpAny_throw ?_))
  refine wpAny_bind (wpAny_isInstance (T := "StopIteration") (b := true) ⟨_, Heap.get?_push_size _ rfl, rfl⟩ isSubtype_stop ?_)
  exact wpAny_pure (h _ fun b o e => Heap.get?_push_of_some _ (Heap.get?_push_of_some _ e))

theorem pyNext_set_end {fr : Addr → Prop} {I a : Addr} {es : Array (Int × Value)} {ep : Nat} {t : SetTable} {vs : List Value} {Q : Option Value → Shared → Prop} (hh : A.handled = none) (hst : ItSt w fr I a es ep t vs vs.length s.heap)
    (hQ : ∀ h', Heap.ExtBut I s.heap h' → Q none { s with heap := h' }) :
    wpAny (model prog w) A (pyNext (.ref I)) Q E s := by
  obtain ⟨first, hI⟩ := it_obj hst
  have hT : s.TypeIs (.ref I) "set_iterator" := ⟨_, hI, rfl⟩
  unfold pyNext
  refine wpAny_bind (wpAny_attempt (wpAny_callSpecial?_slot (name := Str.ofString "__next__") hT slot_setit_next
    (wpAny_call_entry slot_setit_next hT entry_setit_next ?_ (args_setit_next _))))
  unfold Builtin.«set_iterator.__next__» slotArgs fieldsOf
  simp only [List.isEmpty_nil, Bool.not_true, Bool.false_eq_true, if_false, pure_bind, List.length_nil, bne_self_eq_false]
  refine wpAny_bind (wpAny_bind (wpAny_load hI (wpAny_pure ?_)))
  dsimp only
  obtain ⟨⟨o, ho, hd⟩, hf, hlen, hmode⟩ := hst
  refine wpAny_bind (wpAny_setEntries_of ho hd hf ?_)
  simp only [bne_self_eq_false, Bool.false_eq_true, if_false]
  rcases hmode with ⟨p, ord, hIp, ⟨op, n, hop, hdp⟩, hpI, hfp, hol, hord⟩ | ⟨hbt, hIt, hvs⟩ | ⟨hbt, hsm, hled, hvs, slot, hIs, hbel⟩
  · rw [hI] at hIp
    cases hIp
    dsimp only
    refine wpAny_bind (wpAny_seqItems hop hdp ?_)
    dsimp only
    have e1 : ((List.map (fun k : Nat => Value.int (k : Int) 0) ord).toArray)[(vs.length : Int).toNat]? = none := by simp; omega
    rw [e1]
    dsimp only
    refine wpAny_bind (wpAny_setField_rec hI (by simp) fun h1 hI1 hs1 => ?_)
    refine wpAny_bind (wpAny_setField_rec hI1 (by simp) fun h2 hI2 hs2 => ?_)
    refine stop_now hh fun h' hk => hQ h' fun b x hb e => hk b x (((hs1.trans hs2).2 b hb).trans e)
  · rw [hI] at hIt
    cases hIt
    dsimp only
    simp only [Int.toNat_natCast]
    refine wpAny_bind (setNext_text ho hd hf hbt ?_)
    have e1 : ((pickOrder (w.params.setOrder a ep) es)[vs.length]?).map (fun e => (e.2, (0 : Int).toNat)) = none := by
      have hl : (pickOrder (w.params.setOrder a ep) es).toList.length = vs.length := by rw [hvs, List.length_map]
      rw [← Array.getElem?_toList, List.getElem?_eq_none (by omega)]
      rfl
    rw [e1]
    dsimp only
    refine wpAny_bind (wpAny_setField_rec hI (by simp) fun h1 hI1 hs1 => ?_)
    refine stop_now hh fun h' hk => hQ h' fun b x hb e => hk b x ((hs1.2 b hb).trans e)
  · rw [hI] at hIs
    cases hIs
    dsimp only
    simp only [Int.toNat_natCast]
    refine wpAny_bind (setNext_led ho hd hf hbt hsm hled ?_)
    have e1 : es[vs.length]? = none := by simp [hlen]
    rw [hbel, e1]
    dsimp only
    refine wpAny_bind (wpAny_setField_rec hI (by simp) fun h1 hI1 hs1 => ?_)
    refine stop_now hh fun h' hk => hQ h' fun b x hb e => hk b x ((hs1.2 b hb).trans e)
end
end Mine

namespace Mine

/-- what a walk over a set owns -/
theorem it_own {w : World} {fr : Addr → Prop} {I a : Addr} {es : Array (Int × Value)} {ep : Nat} {t : SetTable} {vs : List Value} {i : Nat} {h : Heap} (hI : fr I) (x : ItSt w fr I a es ep t vs i h) :
    ∃ own : List (Addr × Obj), (∀ q ∈ own, h.get? q.1 = some q.2 ∧ fr q.1) ∧ ∀ h' : Heap, (∀ o, h.get? a = some o → h'.get? a = some o) → (∀ q ∈ own, h'.get? q.1 = some q.2) → ItSt w fr I a es ep t vs i h' := by
  obtain ⟨⟨o, ho, hd⟩, hf, hlen, ⟨p, ord, hIp, ⟨op, n, hop, hdp⟩, hpI, hfp, hol, hord⟩ | ⟨hbt, hIt, hvs⟩ | ⟨hbt, hsm, hled, hvs, slot, hIs, hbel⟩⟩ := x
  · refine ⟨[(I, _), (p, op)], ?_, fun h' ha hq => ⟨⟨o, ha o ho, hd⟩, hf, hlen, .inl ⟨p, ord, hq (I, _) (.head _), ⟨op, n, hq (p, op) (.tail _ (.head _)), hdp⟩, hpI, hfp, hol, hord⟩⟩⟩
    intro q hq
    rcases List.mem_cons.mp hq with rfl | hq
    · exact ⟨hIp, hI⟩
    · rw [List.mem_singleton.mp hq]; exact ⟨hop, hfp⟩
  · refine ⟨[(I, _)], ?_, fun h' ha hq => ⟨⟨o, ha o ho, hd⟩, hf, hlen, .inr (.inl ⟨hbt, hq (I, _) (.head _), hvs⟩)⟩⟩
    intro q hq
    rw [List.mem_singleton.mp hq]; exact ⟨hIt, hI⟩
  · refine ⟨[(I, _)], ?_, fun h' ha hq => ⟨⟨o, ha o ho, hd⟩, hf, hlen, .inr (.inr ⟨hbt, hsm, hled, hvs, slot, hq (I, _) (.head _), hbel⟩)⟩⟩
    intro q hq
    rw [List.mem_singleton.mp hq]; exact ⟨hIs, hI⟩

def SetEnd (h₀ : Heap) (L : Addr) (own : List (Addr × Obj)) (adr : List Addr) (J : (Str → Option Value) → List (Addr × Obj) → Prop) (s s₂ : Shared) : Prop :=
  ∃ h' tk' m' news', s₂ = { s with heap := h', toks := tk' } ∧ Fr h₀ L h' m' ∧ News h₀ L h' (news' ++ own) ∧ news'.map (·.1) = adr ∧ J m' news'
theorem SetEnd.intro {h₀ : Heap} {L : Addr} {own : List (Addr × Obj)} {adr : List Addr} {J : (Str → Option Value) → List (Addr × Obj) → Prop} {s : Shared} {h' : Heap} {tk' : Nat} {m' : Str → Option Value} {news' : List (Addr × Obj)}
    (F : Fr h₀ L h' m') (N : News h₀ L h' (news' ++ own)) (hno : news'.map (·.1) = adr) (hJ : J m' news') : SetEnd h₀ L own adr J s { s with heap := h', toks := tk' } := ⟨h', tk', m', news', rfl, F, N, hno, hJ⟩

/-- a loop over a set of texts that stands in the base: what must be shown -/
def SetLoop (prog : Program) (w : World) (A : Around) (h₀ : Heap) (env : Env) (x : Str) (body : List Stmt) (Q : Flow → Shared → Prop) (xv : Value) (s : Shared) : Prop :=
  ∃ (a : Addr) (o : Obj) (S : Str → Bool) (m₀ : Str → Option Value) (news₀ : List (Addr × Obj)) (J : List Value → (Str → Option Value) → List (Addr × Obj) → Prop),
    xv = .ref a ∧ A.handled = none ∧ h₀.get? a = some o ∧ SetUse prog w o S ∧ Fr h₀ env.locals s.heap m₀ ∧ News h₀ env.locals s.heap news₀ ∧ J [] m₀ news₀ ∧
    (∀ pre k t m₁ news₁ own h tk d, S k = true → J pre m₁ news₁ → news₁.map (·.1) = news₀.map (·.1) → (∀ p ∈ news₁, ∀ q ∈ own, p.1 ≠ q.1) → Fr h₀ env.locals h (fun z => if z = x then some (.str k t) else m₁ z) → News h₀ env.locals h (news₁ ++ own) →
      wpAny (model prog w) A (execs body env) (fun f s₂ => match f with
        | .ret v => Q (.ret v) s₂
        | .brk => Q .next s₂
        | _ => SetEnd h₀ env.locals own (news₀.map (·.1)) (J (pre ++ [.str k t])) { s with drawn := d } s₂) (fun _ _ => False) { s with heap := h, toks := tk, drawn := d }) ∧
    (∀ vs m₁ news₁ h tk d, (∀ k, S k = true → ∃ t, Value.str k t ∈ vs) → J vs m₁ news₁ → Fr h₀ env.locals h m₁ → News h₀ env.locals h news₁ → Q .next { s with heap := h, toks := tk, drawn := d })

section
variable {prog : Program} {w : World} {A : Around} {s : Shared} {env : Env} {h₀ : Heap} {x : Str} {body : List Stmt} {Q : Flow → Shared → Prop}
theorem codeAny_forLoopF {R : Result → Shared → Prop} {px : Pos} {it : Value} (I : Nat → Shared → Prop)
    (turn : ∀ n s, I n s → wpAny (model prog w) A (pyNext it) (fun r s₁ => match r with
      | none => R (.ok .next) s₁
      | some v => wpAny (model prog w) A (assign (.Name x px) env v) (fun _ s₂ => wpAny (model prog w) A (execs body env) (fun f s₃ => match f with
          | .next | .cont => ∃ m, m < n ∧ I m s₃
          | .brk => R (.ok .next) s₃
          | .ret v => R (.ok (.ret v)) s₃) (fun _ _ => False) s₂) (fun _ _ => False) s₁) (fun _ _ => False) s)
    (n : Nat) (h : I n s) : codeAny (model prog w) A (.forLoop (.Name x px) it body [] env) R s := by
  refine codeAny_forLoop I (fun n s hI => ?_) n h
  refine wpAny_noRaise (wpAny_mono (turn n s hI) (fun r s₁ h₁ => ?_) fun _ _ e => e)
  cases r with
  | none => exact wpAny_execs_nil h₁
  | some v => exact wpAny_noRaise (wpAny_mono h₁ (fun _ s₂ h₂ => wpAny_noRaise h₂) fun _ _ e => e)

theorem For_set {px pos : Pos} {iter : Expr} {E : Value → Shared → Prop} (h₀ : Heap) (hx : env.kindOf x = some .local)
    (hp : (env.scope.kind == .class || (env.scope.kind == .module && env.locals != env.globals)) = false)
    (h : wpAny (model prog w) A (eval iter env) (fun xv s₁ => SetLoop prog w A h₀ env x body Q xv s₁) E s)
    (hs : ∀ x, foldedSetIterable iter env x = pure x := by intro _; rfl) :
    wpAny (model prog w) A (exec (.For (.Name x px) iter body [] pos) env) Q E s := by
  refine wpAny_For (wpAny_mono h (fun xv s₁ h₁ => ?_) fun _ _ e => e) hs
  obtain ⟨a, o, S, m₀, news₀, J, rfl, hh, ha, hS, F, N, hj, turn, done⟩ := h₁
  refine pyIter_set (F.keep a o ha) hS fun I h' d es ep t vs hk hI hdo hst hv1 hv2 => ?_
  have hfr : ∀ b, s₁.heap.get? b = none → h₀.get? b = none := fun b hb => by
    cases e : h₀.get? b with
    | none => rfl
    | some x => have := F.keep b x e; rw [hb] at this; cases this
  obtain ⟨oL, _, _, hoL, _⟩ := id F.ns
  have hfL : ∀ b, s₁.heap.get? b = none → b ≠ env.locals := fun b hb e => by rw [e, hoL] at hb; cases hb
  have hne : a ≠ I := fun e => by rw [e, hfr I hI] at ha; cases ha
  have hnw : ∀ b, s₁.heap.get? b = none → ∀ p ∈ news₀, p.1 ≠ b := fun b hb p hp e => by have := (N p hp).1; rw [e, hb] at this; cases this
  refine codeAny_forLoopF (s := { s₁ with heap := h', drawn := d }) (fun n s' => ∃ h' tk m' news' i, s' = { s₁ with heap := h', toks := tk, drawn := d } ∧ ItSt w (fun b => s₁.heap.get? b = none) I a es ep t vs i h' ∧ Fr h₀ env.locals h' m' ∧ News h₀ env.locals h' news' ∧
      news'.map (·.1) = news₀.map (·.1) ∧ J (vs.take i) m' news' ∧ i ≤ vs.length ∧ n = vs.length + 1 - i) ?_ (vs.length + 1)
    ⟨h', s₁.toks, m₀, news₀, 0, rfl, hst, F.keeps hk, N.grown hk, rfl, by simpa using hj, Nat.zero_le _, rfl⟩
  rintro n s' ⟨h₂, tk, m', news', i, rfl, hst₂, F₂, N₂, hadr, hJ, hi, rfl⟩
  have hnw₂ : ∀ b, s₁.heap.get? b = none → ∀ p ∈ news', p.1 ≠ b := by
    intro b hb p hp e
    have h1 : p.1 ∈ news₀.map (·.1) := by rw [← hadr]; exact List.mem_map_of_mem hp
    obtain ⟨q, hq, hqe⟩ := List.mem_map.mp h1
    exact hnw b hb q hq (hqe.trans e)
  by_cases hlt : i < vs.length
  · have hv : vs[i]? = some vs[i] := List.getElem?_eq_getElem hlt
    obtain ⟨k, tt, hvk, hSk⟩ := hv1 vs[i] (List.getElem_mem hlt)
    rw [hvk] at hv
    refine pyNext_set_item hst₂ hv hne fun h₃ hst₃ hs₃ => ?_
    dsimp only
    have keep₃ : ∀ c x, c ≠ I → h₂.get? c = some x → h₃.get? c = some x := fun c x hc e => (hs₃.2 c hc).trans e
    have hn₃ : h₃.Ns env.locals m' := F₂.ns.at' fun x e => keep₃ _ x (Ne.symm (hfL I hI)) e
    refine wpAny_assign_Name (wpAny_storeName_local hx hn₃ (fun h₄ hn₄ hs₄ => ?_) hp)
    have F₄ : Fr h₀ env.locals h₄ (fun z => if z = x then some (.str k tt) else m' z) :=
      ⟨hn₄, fun c y e => hs₄.extBut c y (fun q => by rw [q, Heap.get?_none_of_le F.above] at e; cases e) (keep₃ c y (fun q => by rw [q, hfr I hI] at e; cases e) (F₂.keep c y e)), F.above⟩
    have hst₄ : ItSt w (fun b => s₁.heap.get? b = none) I a es ep t vs (i + 1) h₄ := by
      obtain ⟨own, ho1, ho2⟩ := it_own hI hst₃
      exact ho2 h₄ (fun y e => hs₄.extBut a y (fun q => by rw [q, Heap.get?_none_of_le F.above] at ha; cases ha) e) fun q hq => hs₄.extBut _ _ (hfL _ (ho1 q hq).2) (ho1 q hq).1
    obtain ⟨own, ho1, ho2⟩ := it_own hI hst₄
    have N₄ : News h₀ env.locals h₄ (news' ++ own) := fun p hp => by
      rcases List.mem_append.mp hp with hp | hp
      · exact ⟨hs₄.extBut _ _ (N₂ p hp).2.1 (keep₃ _ _ (hnw₂ I hI p hp) (N₂ p hp).1), (N₂ p hp).2⟩
      · exact ⟨(ho1 p hp).1, hfL _ (ho1 p hp).2, hfr _ (ho1 p hp).2⟩
    refine wpAny_mono (turn (vs.take i) k tt m' news' own h₄ _ d hSk hJ hadr (fun p hp q hq => hnw₂ q.1 (ho1 q hq).2 p hp) F₄ N₄) (fun f s₅ h₅ => ?_) fun _ _ e => e
    have fin : SetEnd h₀ env.locals own (news₀.map (·.1)) (J (vs.take i ++ [.str k tt])) { s₁ with drawn := d } s₅ →
        ∃ n', n' < vs.length + 1 - i ∧ ∃ h' tk m' news' i, s₅ = { s₁ with heap := h', toks := tk, drawn := d } ∧ ItSt w (fun b => s₁.heap.get? b = none) I a es ep t vs i h' ∧ Fr h₀ env.locals h' m' ∧ News h₀ env.locals h' news' ∧
          news'.map (·.1) = news₀.map (·.1) ∧ J (vs.take i) m' news' ∧ i ≤ vs.length ∧ n' = vs.length + 1 - i := by
      rintro ⟨h₆, tk₆, m₆, news₆, rfl, F₆, N₆, hno₆, hJ₆⟩
      refine ⟨vs.length + 1 - (i + 1), by omega, h₆, tk₆, m₆, news₆, i + 1, rfl, ?_, F₆, fun p hp => N₆ p (List.mem_append_left _ hp), hno₆, ?_, hlt, rfl⟩
      · refine ho2 h₆ (fun y e => ?_) fun q hq => (N₆ q (List.mem_append_right _ hq)).1
        have e1 := F₄.keep a o ha
        rw [e] at e1
        cases e1
        exact F₆.keep a o ha
      · rw [List.take_add_one, hv]
        exact hJ₆
    cases f with
    | ret v => exact h₅
    | brk => exact h₅
    | next => exact fin h₅
    | cont => exact fin h₅
  · have hin : i = vs.length := by omega
    subst hin
    refine pyNext_set_end hh hst₂ fun h₃ he₃ => ?_
    rw [List.take_length] at hJ
    have keep₃ : ∀ c x, c ≠ I → h₂.get? c = some x → h₃.get? c = some x := fun c x hc e => he₃ c x hc e
    exact done vs m' news' h₃ tk d hv2 hJ ⟨F₂.ns.at' fun x e => keep₃ _ x (Ne.symm (hfL I hI)) e, fun c y e => keep₃ c y (fun q => by rw [q, hfr I hI] at e; cases e) (F₂.keep c y e), F.above⟩ fun p hp => ⟨keep₃ _ _ (hnw₂ I hI p hp) (N₂ p hp).1, (N₂ p hp).2⟩
end
end Mine

namespace Mine
set_option maxHeartbeats 8000000

theorem callPN {prog : Program} {w : World} {A : Around} {s : Shared} {K : Frag} {p : Program} {loose : List Str} {mean : ExcName → Option Value} {mg mb : Str → Option Value}
    {name qual : Str} {params : Arguments} {body : List Stmt} {scope : Scope} {dV kV doc pm cdv ct oc : Value} {an od : Option Addr} {osl : Array (Option Value)} {f : Addr} {args : Args} {binds : List (Str × Value)} {R : Result → Shared → Prop}
    {g : Heap} {news : List (Addr × Obj)} (hg : ∀ b o, g.get? b = some o → s.heap.get? b = some o) (hsz : g.objs.size ≤ s.heap.objs.size) (N : ∀ p ∈ news, s.heap.get? p.1 = some p.2 ∧ g.get? p.1 = none)
    (X : K.In g) (T : Top p loose mean mg mb g)
    (ho : K.lookup f = some ⟨oc, od, .func (fnOf name qual params body scope dV kV doc pm an cdv ct), osl⟩) (hcd : codeIn K cdv qual = true) (hroom : A.depth < recursionLimit)
    (hbind : BindsTo s (fnOf name qual params body scope dV kV doc pm an cdv ct) args binds) (hloc : ∀ y ∈ binds, scope.names.lookup y.1 = some .local)
    (h : ∀ L h₁ tk, L = s.heap.objs.size → Fr g L h₁ (fun y => binds.reverse.lookup y) → News g L h₁ news →
      wpAny (model prog w) (A.deeper (envOf qual scope L f cdv)) (execs body (envOf qual scope L f cdv))
        (fun fl s' => R (.ok (.ret (match fl with | .ret v => v | _ => .none))) s') (fun _ _ => False)
        { s with heap := h₁, toks := tk })
    (hco : scope.isCoroutine = false) (hgen : scope.isGenerator = false) (hk : scope.kind = .function)
    (hcell : ∀ x ∈ scope.names, x.2 ≠ .cell) : codeAny (model prog w) A (.call (.ref f) args) R s := by
  refine codeAny_call_def (fd := fnOf name qual params body scope dV kV doc pm an cdv ct) (body := body) (binds := binds) hroom ((X.keeps hg) _ _ ho) rfl (T.nolimit.keeps hg) (codeRec_of (X.keeps hg) hcd) rfl hbind hcell hloc (fun h₁ hns hk₁ => ?_) hco hgen hk
  exact wpAny_noRaise (h _ h₁ _ rfl ⟨hns, fun b o e => hk₁ b o (hg b o e), hsz⟩ fun p hp => ⟨hk₁ _ _ (N p hp).1, Nat.ne_of_lt (Heap.lt_size (N p hp).1), (N p hp).2⟩)

/-- the entries of an _Ignore's own dict -/
abbrev ignEs (P : Params) (t1 t2 t3 : Tok) (aS aD aI : Addr) : List DictEntry :=
  [⟨PyData.keyHash P (Str.ofString "_mods"), .str (Str.ofString "_mods") t1, .ref aS⟩, ⟨PyData.keyHash P (Str.ofString "_dirs"), .str (Str.ofString "_dirs") t2, .ref aD⟩, ⟨PyData.keyHash P (Str.ofString "_ignore"), .str (Str.ofString "_ignore") t3, .ref aI⟩]
def IgnAt (P : Params) (h : Heap) (x aS aD aI : Addr) : Prop := ∃ dx t1 t2 t3, h.get? x = some (instObj 79 dx) ∧ h.get? dx = some (dictOf (ignEs P t1 t2 t3 aS aD aI) 3)
def hitB (ms ds : List Str) (q : Str × Option Str) : Bool :=
  decide (q.1 ∈ ms) || ms.any (fun m => Txt.startswith q.1 (m ++ ".")) || q.2.isNone || (match q.2 with | some y => ds.any (fun d => Txt.startswith y (d ++ "/")) | none => false)

section
variable {w : World} {A : Around} {E : Value → Shared → Prop} {s : Shared} {g : Heap} {L : Addr} {m : Str → Option Value} {x aS aD aI : Addr} {expr : Bool} {Q : Value → Shared → Prop}
theorem attr_mods : Fr g L s.heap m → (hd.heap_39 w.params).In g → IgnAt w.params g x aS aD aI → Q (.ref aS) { s with toks := s.toks + 1 } →
    wpAny (model Challenge.rw_ki0097_01.row.prog w) A (getAttr (.ref x) (Str.ofString "_mods") expr) Q E s := by
  k_fill
  intro F X I h
  obtain ⟨dx, t1, t2, t3, hx, hdx⟩ := I
  refine' get_own (C := 79) F X ⟨F.keep _ _ hx, rfl, rfl, F.keep _ _ hdx⟩ ?k4 ?k5 ?k6 ?k7 ?k8 rfl h
  (case k4 => k_is); (case k5 => k_is); (case k6 => k_is); (case k7 => k_is); (case k8 => k_get)
theorem attr_dirs : Fr g L s.heap m → (hd.heap_39 w.params).In g → IgnAt w.params g x aS aD aI → Q (.ref aD) { s with toks := s.toks + 1 } →
    wpAny (model Challenge.rw_ki0097_01.row.prog w) A (getAttr (.ref x) (Str.ofString "_dirs") expr) Q E s := by
  k_fill
  intro F X I h
  obtain ⟨dx, t1, t2, t3, hx, hdx⟩ := I
  refine' get_own (C := 79) F X ⟨F.keep _ _ hx, rfl, rfl, F.keep _ _ hdx⟩ ?k4 ?k5 ?k6 ?k7 ?k8 rfl h
  (case k4 => k_is); (case k5 => k_is); (case k6 => k_is); (case k7 => k_is); (case k8 => k_get)
theorem attr_ignore : Fr g L s.heap m → (hd.heap_39 w.params).In g → IgnAt w.params g x aS aD aI → Q (.ref aI) { s with toks := s.toks + 1 } →
    wpAny (model Challenge.rw_ki0097_01.row.prog w) A (getAttr (.ref x) (Str.ofString "_ignore") expr) Q E s := by
  k_fill
  intro F X I h
  obtain ⟨dx, t1, t2, t3, hx, hdx⟩ := I
  refine' get_own (C := 79) F X ⟨F.keep _ _ hx, rfl, rfl, F.keep _ _ hdx⟩ ?k4 ?k5 ?k6 ?k7 ?k8 rfl h
  (case k4 => k_is); (case k5 => k_is); (case k6 => k_is); (case k7 => k_is); (case k8 => k_get)
end

/-- the dict of what is known, as the walk keeps it -/
def TabOk (w : World) (o : Obj) (ig : Str → Option Bool) (n : Nat) : Prop :=
  ∃ (kvs : List (Str × Value)) (D : List (PyData × PyData)), o.IsDictOf (PySem.strKind Challenge.rw_ki0097_01.row.prog w) kvs ∧ PyProof.V.FlatPairs PyData.str kvs D ∧ D.length ≤ n ∧ ∀ z, lookup (.str z) D = (ig z).map (fun b => PyData.int (bI b))

local macro_rules | `(tactic| walk_at "getAttr ref") => `(tactic| (k_here; first | refine attr_ignore (by k_asm) (by k_asm) (by k_asm) ?_ | refine attr_mods (by k_asm) (by k_asm) (by k_asm) ?_ | refine attr_dirs (by k_asm) (by k_asm) (by k_asm) ?_))
local macro_rules | `(tactic| walk_at "stop") => `(tactic| ((fail_if_success (with_reducible show wpAny _ _ (setItem _ _ _) _ _ _)); (fail_if_success (with_reducible show wpAny _ _ (exec (Stmt.For _ _ _ _ _) _) _ _ _)); (fail_if_success (with_reducible show InvEnd _ _ _ _ _ _)); (fail_if_success (with_reducible show wpAny _ _ (subscriptTail _ _ _ _) _ _ _)); (fail_if_success (with_reducible show wpAny _ _ (pyIter _) _ _ _)); (fail_if_success (with_reducible show wpAny _ _ (compareOp _ (Value.ref _) (Value.ref _)) _ _ _)); (fail_if_success (with_reducible show wpAny _ _ (compareOp _ (Value.str _ _) (Value.ref _)) _ _ _)); (fail_if_success (with_reducible show wpAny _ _ (call (Value.ref _) _) _ _ _)); (fail_if_success (with_reducible show wpAny _ _ (call (Value.builtin "str.startswith") _) _ _ _))))
local macro_rules | `(tactic| walk_at "mine") => `(tactic| repeat' (first | (k_unfold; (try dsimp only)) | (walk_at "stop"; walk1) | (walk_at "stop"; dsimp only; walk1)))

theorem item_strTab' {prog : Program} {w : World} {A : Around} {E : Value → Shared → Prop} {s : Shared} {d : Addr} {D : List (PyData × PyData)} {value slice : Expr} {x : Str} {t : Tok} {dv : PyData} {Q : Value → Shared → Prop} (T : StrTab prog w s.heap d D) (hl : lookup (.str x) D = some dv)
    (h : ∀ v, PyProof.V.Flat v dv → Q v { s with toks := s.toks + 1 })
    (hs : subscripted slice false (.ref d) (.str x t) = operate [.ref d, .str x t] (getItem (.ref d) (.str x t)) := by with_unfolding_all rfl) :
    wpAny (model prog w) A (subscriptTail value slice (.ref d) (.str x t)) Q E s :=
  kba_turn (value' := PySem.Expr.Name (PySem.Str.ofString "_") ⟨0, 0, 0, 0⟩) (fun _ => rfl) (item_strTab T hl h hs (fun _ => rfl))

theorem part_one {m m₀ : Str → Option Value} {x : Str} (h : ∀ z, z ≠ x → m z = m₀ z) : m = fun z => if z = x then m z else m₀ z := by
  funext z
  by_cases h1 : z = x
  · simp [h1]
  · simp [h1, h z h1]

theorem names_spec {w : World} {A : Around} {s : Shared} {g : Heap} {Q E : Value → Shared → Prop} {mean : ExcName → Option Value} {mg mb : Str → Option Value} {name : Str} {path : Option Str} {pv : Value} {tn : Tok} {x aS aD aI : Addr} {oS oI : Obj} {vd : List Value} {ms ds : List Str} {ig : Str → Option Bool} {n : Nat} :
    (∀ b o, g.get? b = some o → s.heap.get? b = some o) → g.objs.size ≤ s.heap.objs.size → s.heap.get? aI = some oI → g.get? aI = none → (aI == sysModules) = false →
    (hd.heap_39 w.params).In g → Top hd.view_39 (looseW hd.view_39 []) mean mg mb g → A.handled = none → A.depth + 5 < recursionLimit → A.units + 80 < cLine →
    IgnAt w.params g x aS aD aI → g.get? aS = some oS → SetUse Challenge.rw_ki0097_01.row.prog w oS (fun k => decide (k ∈ ms)) → (∀ x ∈ ms, TOk 64 x) → g.IsList aD vd.toArray → StrsAre vd ds → (∀ x ∈ ds, TOk 64 x) → TOk 64 name → PathV 64 path pv →
    TabOk w oI ig n → n ≤ 100000 →
    (∀ t' h' tk' d' oI', (∀ b o, g.get? b = some o → h'.get? b = some o) → h'.get? aI = some oI' → TabOk w oI' (fun z => if z = name then some ((ig name).getD (hitB ms ds (name, path))) else ig z) (n + 1) →
      Q (.int (bI ((ig name).getD (hitB ms ds (name, path)))) t') { s with heap := h', toks := tk', drawn := d' }) →
    wpAny (model Challenge.rw_ki0097_01.row.prog w) A (call (.ref 76) [.ref x, pv, .str name tn]) Q E s := by
  k_fill
  intro hg hsz haI hgI hlo X T hh hroom hun hI haS hS hms hD hvd hds hname hp htab hn hret
  obtain ⟨ha9, dp, fr9, gd9, un⟩ := A
  dsimp only at hh hroom hun
  subst hh
  refine wpAny_call ?_
  k_dflt (refine' callPN hg hsz (news := [(aI, oI)]) ?kn X T ?k6 ?k7 ?k8 ?k9 ?kB ?_ ?c2 ?c3 ?c4 ?c5; (case kn => (intro p hp; rw [List.mem_singleton.mp hp]; exact ⟨haI, hgI⟩)); (case k6 => k_is); (case k7 => k_is); (case k8 => (show dp < recursionLimit; omega)); (case k9 => exact BindsTo.of_eq rfl); (case kB => exact locs rfl); (case c5 => decide); (case c2 => exact rfl); (case c3 => exact rfl); (case c4 => exact rfl); k_whole)
  intro L h₁ tk hL F N
  try dsimp only
  obtain ⟨kvs, D, hdo, hfo, hDl, hlk⟩ := htab
  walk_at "mine"
  refine in_strTab (TabAt.ofNews (by k_asm) (by k_mem) hlo hdo hfo) ?_
  rw [hlk]
  cases hk : ig name with
  | some b =>
    dsimp only [Option.map, Option.isSome]
    walk_at "mine"
    have hl : lookup (.str name) D = some (.int (bI b)) := by rw [hlk, hk]; rfl
    refine item_strTab' (dv := .int (bI b)) (TabAt.ofNews (by k_asm) (by k_mem) hlo hdo hfo) hl ?_
    intro v hv
    cases hv h₁
    walk_at "mine"
    dsimp only
    rw [hk] at hret
    refine hret _ _ _ _ oI F.keep (News.get N (by k_mem)) ⟨kvs, D, hdo, hfo, Nat.le_succ_of_le hDl, fun z => ?_⟩
    rw [hlk]
    by_cases hz : z = name
    · subst hz; simp [hk]
    · simp only [if_neg hz]
  | none =>
    dsimp only [Option.map, Option.isSome]
    rw [hk] at hret
    have hfin : ∀ b, hitB ms ds (name, path) = b → ∀ t' t8 h' tk' d' o8, (∀ b o, g.get? b = some o → h'.get? b = some o) → h'.get? aI = some o8 → o8.IsDictOf (PySem.strKind Challenge.rw_ki0097_01.row.prog w) (stored kvs name (.int (bI b) t8)) →
        PyProof.V.FlatPairs PyData.str (stored kvs name (.int (bI b) t8)) (PyProof.V.putD (.str name) (.int (bI b)) D) → Q (.int (bI b) t') { s with heap := h', toks := tk', drawn := d' } := by
      rintro b rfl t' t8 h' tk' d' o8 hk' hg' h1 h2
      refine hret t' h' tk' d' o8 hk' hg' ⟨_, _, h1, h2, Nat.le_trans (PyProof.V.putD_length_le _ _ D) (Nat.succ_le_succ hDl), fun z => ?_⟩
      by_cases hz : z = name
      · subst hz
        rw [PyProof.V.lookup_putK_same PyProof.V.keyEnc_str]
        simp
      · rw [PyProof.V.lookup_putK_other PyProof.V.keyEnc_str hz, hlk]
        simp only [if_neg hz]
    have hszD : D.length ≤ sizeLine := by rw [sizeLine_eq]; omega
    have hnl := hname.1
    walk_at "mine"
    obtain ⟨nS, hSO⟩ := hS.setOf (F.keep _ _ haS)
    refine wpAny_inSet_of (knd := PySem.strKind Challenge.rw_ki0097_01.row.prog w) (strKind_is _ _ _ _) rfl hSO ?_
    walk_at "mine"
    · refine setItem_K PyProof.V.same_str (strKind_is _ _ _ _) (PyProof.V.Flat.int _ _) (by k_asm) (by k_asm) (UpdF.head (by simp)) hdo hfo ?_ hszD
      intro h8 o8 F8 N8 hd8 hf8
      walk_at "mine"
      dsimp only
      refine hfin true ?_ _ _ _ _ _ _ F8.keep (News.get N8 (by k_mem)) hd8 hf8
      unfold hitB
      simp [*]
    · have hnm : name ∉ ms := by assumption
      refine For_set g rfl rfl ?_
      walk_at "mine"
      refine ⟨aS, oS, _, _, [(aI, oI)], fun pre m₁ news₁ => (∃ u : Str → Option Value, m₁ = fun z => if z = Str.ofString "mod" then u z else mOf F z) ∧ news₁ = [(aI, oI)] ∧ ∀ k t, Value.str k t ∈ pre → Txt.startswith name (k ++ Str.ofString ".") = false,
        rfl, rfl, haS, hS, F, N, ⟨⟨_, part_one fun _ _ => rfl⟩, rfl, by simp⟩, ?turn, ?done⟩
      case turn =>
        rintro pre k t m₁ news₁ own h tk d hk1 ⟨⟨u, rfl⟩, rfl, hpre⟩ _ hown F2 N2
        have hkm : k ∈ ms := of_decide_eq_true hk1
        have hkl := (hms k hkm).1
        change Fr g L h _ at F2
        change News g L h ((aI, oI) :: own) at N2
        walk_at "mine"
        refine SC.startswith ?_
        walk_at "mine"
        · have hU : ∀ p ∈ own, p.1 ≠ aI := fun p hp e => hown (aI, oI) (List.Mem.head _) p hp e.symm
          refine setItem_K PyProof.V.same_str (strKind_is _ _ _ _) (PyProof.V.Flat.int _ _) (by k_asm) (by k_asm) (UpdF.head hU) hdo hfo ?_ hszD
          intro h8 o8 F8 N8 hd8 hf8
          walk_at "mine"
          refine hfin true ?_ _ _ _ _ _ _ F8.keep (News.get N8 (by k_mem)) hd8 hf8
          have hz : ms.any (fun m => Txt.startswith name (m ++ Str.ofString ".")) = true := List.any_eq_true.mpr ⟨k, hkm, by assumption⟩
          unfold hitB
          dsimp only
          rw [show ms.any (fun m => Txt.startswith name (m ++ (".": Str))) = true from hz]
          simp
        · refine SetEnd.intro (news' := [(aI, oI)]) F2 N2 rfl ⟨⟨_, part_one (by intro z h1; (try simp [h1]); (try rfl))⟩, rfl, ?_⟩
          intro k' t' hk'
          rcases List.mem_append.mp hk' with hk' | hk'
          · exact hpre k' t' hk'
          · cases List.mem_singleton.mp hk'
            assumption
      case done =>
        rintro vs m₁ news₁ h tk d hall ⟨⟨u, rfl⟩, rfl, hpre⟩ F2 N2
        change Fr g L h _ at F2
        change News g L h _ at N2
        have hz1 : ms.any (fun m => Txt.startswith name (m ++ (".": Str))) = false := by
          rw [List.any_eq_false]
          intro m hm
          obtain ⟨t, ht⟩ := hall m (decide_eq_true hm)
          rw [hpre m t ht]
          exact Bool.false_ne_true
        dsimp only
        cases path with
        | none =>
          cases hp
          walk_at "mine"
          refine setItem_K PyProof.V.same_str (strKind_is _ _ _ _) (PyProof.V.Flat.int _ _) (by k_asm) (by k_asm) (UpdF.head (by simp)) hdo hfo ?_ hszD
          intro h8 o8 F8 N8 hd8 hf8
          walk_at "mine"
          dsimp only
          refine hfin true ?_ _ _ _ _ _ _ F8.keep (News.get N8 (by k_mem)) hd8 hf8
          unfold hitB
          simp
        | some y =>
          obtain ⟨hy, ty, rfl⟩ := hp
          have hyl := hy.1
          walk_at "mine"
          refine For_invV g rfl rfl ?_ (by intro _; rfl) PassesOwn.never
          walk_at "mine"
          refine iter_vals (fun i m₁ => (∃ u' : Str → Option Value, m₁ = fun z => if z = Str.ofString "d" then u' z else mOf F2 z) ∧ (ds.take i).any (fun d => Txt.startswith y (d ++ ("/" : Str))) = false) rfl hD F2 N2 ⟨⟨_, part_one fun _ _ => rfl⟩, rfl⟩ ?turn2 ?done2
          case turn2 =>
            rintro i v m₁ h tk own hv ⟨⟨u', rfl⟩, hany⟩ hoff F3 N3
            have hU : ∀ p ∈ own, p.1 ≠ aI := fun p hp => hoff p hp (aI, oI) (List.Mem.head _)
            obtain ⟨dd, td, rfl, hdd⟩ := StrsAre.item hvd i v hv
            have hdm := List.mem_of_getElem? hdd
            have hdl := (hds dd hdm).1
            change Fr g L h _ at F3
            change News g L h _ at N3
            have N4 : News g L h ((aI, oI) :: own) := fun p hp => N3 p (by simp only [List.mem_cons, List.mem_append, List.not_mem_nil, or_false] at hp ⊢; exact hp.symm)
            clear N3
            walk_at "mine"
            refine SC.startswith ?_
            walk_at "mine"
            · refine setItem_K PyProof.V.same_str (strKind_is _ _ _ _) (PyProof.V.Flat.int _ _) (by k_asm) (by k_asm) (UpdF.head hU) hdo hfo ?_ hszD
              intro h8 o8 F8 N8 hd8 hf8
              walk_at "mine"
              refine hfin true ?_ _ _ _ _ _ _ F8.keep (News.get N8 (by k_mem)) hd8 hf8
              have hz : ds.any (fun d => Txt.startswith y (d ++ ("/" : Str))) = true := List.any_eq_true.mpr ⟨dd, hdm, by assumption⟩
              unfold hitB
              dsimp only
              rw [hz]
              simp
            · refine InvEnd.intro (by k_asm) (by k_asm) (by intro p hp; simp only [List.mem_cons, List.mem_append, List.not_mem_nil, or_false] at hp ⊢; exact hp.symm) ⟨⟨_, part_one (by intro z h1; (try simp [h1]); (try rfl))⟩, ?_⟩
              have hz : Txt.startswith y (dd ++ ("/" : Str)) = false := by assumption
              rw [List.take_add_one, hdd, List.any_append, hany]
              simp [hz]
          case done2 =>
            rintro m₁ h tk ⟨⟨u', rfl⟩, hany⟩ F3 N3
            change Fr g L h _ at F3
            change News g L h _ at N3
            have hz2 : ds.any (fun d => Txt.startswith y (d ++ ("/" : Str))) = false := by
              have e : vd.length = ds.length := hvd.len_eq
              rwa [e, List.take_length] at hany
            dsimp only
            walk_at "mine"
            refine setItem_K PyProof.V.same_str (strKind_is _ _ _ _) (PyProof.V.Flat.int _ _) (by k_asm) (by k_asm) (UpdF.head (by simp)) hdo hfo ?_ hszD
            intro h8 o8 F8 N8 hd8 hf8
            walk_at "mine"
            refine hfin false ?_ _ _ _ _ _ _ F8.keep (News.get N8 (by k_mem)) hd8 hf8
            unfold hitB
            dsimp only
            rw [hz1, hz2]
            simp [hnm]
end Mine

namespace Mine

/-- joined lists, over plain lists of numbers -/
noncomputable def jn (c : Nat) : List (List Nat) → List Nat
  | [] => []
  | [x] => x
  | x :: y :: r => x ++ c :: jn c (y :: r)

theorem jn_append (c : Nat) : ∀ (a b : List (List Nat)), a ≠ [] → b ≠ [] → jn c (a ++ b) = jn c a ++ c :: jn c b
  | [], _, h, _ => absurd rfl h
  | [x], [], _, h => absurd rfl h
  | [x], y :: r, _, _ => rfl
  | x :: y :: r, b, _, hb => by
    have ih := jn_append c (y :: r) b (by simp) hb
    show x ++ c :: jn c ((y :: r) ++ b) = (x ++ c :: jn c (y :: r)) ++ c :: jn c b
    rw [ih]
    simp

theorem cut_inj {c : Nat} {p q : List Nat} : ∀ {x y : List Nat}, x ++ c :: p = y ++ c :: q → c ∉ x → c ∉ y → x = y ∧ p = q
  | [], [], h, _, _ => ⟨rfl, by simpa using h⟩
  | [], b :: y, h, _, hy => by
    have : c = b := by simpa using congrArg List.head? h
    exact absurd (by rw [this]; exact List.mem_cons_self) hy
  | a :: x, [], h, hx, _ => by
    have : a = c := by simpa using congrArg List.head? h
    exact absurd (by rw [this]; exact List.mem_cons_self) hx
  | a :: x, b :: y, h, hx, hy => by
    have h1 : a = b := by simpa using congrArg List.head? h
    subst h1
    have h2 : x ++ c :: p = y ++ c :: q := by simpa using h
    have := cut_inj h2 (fun m => hx (List.mem_cons_of_mem _ m)) (fun m => hy (List.mem_cons_of_mem _ m))
    exact ⟨by rw [this.1], this.2⟩

/-- two splittings of one text into free parts are one -/
theorem jn_inj (c : Nat) : ∀ (a b : List (List Nat)), a ≠ [] → b ≠ [] → (∀ x ∈ a, c ∉ x) → (∀ x ∈ b, c ∉ x) → jn c a = jn c b → a = b
  | [], _, h, _, _, _, _ => absurd rfl h
  | _, [], _, h, _, _, _ => absurd rfl h
  | [x], [y], _, _, _, _, h => by rw [show x = y from h]
  | [x], y :: z :: r, _, _, hx, _, h => by
    exfalso
    have h' : x = y ++ c :: jn c (z :: r) := h
    exact hx x List.mem_cons_self (by rw [h']; simp)
  | x :: z :: r, [y], _, _, _, hy, h => by
    exfalso
    have h' : x ++ c :: jn c (z :: r) = y := h
    exact hy y List.mem_cons_self (by rw [← h']; simp)
  | x :: z :: r, y :: u :: t, _, _, hx, hy, h => by
    have h' : x ++ c :: jn c (z :: r) = y ++ c :: jn c (u :: t) := h
    have hxc := hx x List.mem_cons_self
    have hyc := hy y List.mem_cons_self
    have e := cut_inj h' hxc hyc
    have ih := jn_inj c (z :: r) (u :: t) (by simp) (by simp) (fun q hq => hx q (List.mem_cons_of_mem _ hq)) (fun q hq => hy q (List.mem_cons_of_mem _ hq)) e.2
    rw [e.1, ih]

theorem join_jn (c : Nat) : ∀ l : List Str, (Str.join ⟨#[c]⟩ l).cps.toList = jn c (l.map fun x => x.cps.toList)
  | [] => rfl
  | [x] => rfl
  | x :: y :: r => by
    have ih := join_jn c (y :: r)
    show (x ++ ⟨#[c]⟩ ++ Str.join ⟨#[c]⟩ (y :: r)).cps.toList = x.cps.toList ++ c :: jn c ((y :: r).map fun x => x.cps.toList)
    rw [Str.cps_append, Str.cps_append, Array.toList_append, Array.toList_append, ih]
    simp

theorem split_ne (x : Str) (c : Nat) : Txt.split x ⟨#[c]⟩ ≠ [] := by
  unfold Txt.split
  split
  · simp
  · split
    · simp
    · unfold Builtin.Str.partsBetween
      generalize Builtin.Str.occurrences x ⟨#[c]⟩ 0 x.length (x.length + 1) = cuts
      cases cuts <;> simp

abbrev ls (x : Str) : List Nat := x.cps.toList
def sp (x : Str) (c : Nat) : List (List Nat) := (Txt.split x ⟨#[c]⟩).map ls
theorem sp_jn (x : Str) (c : Nat) : jn c (sp x c) = ls x := by
  have h := join_jn c (Txt.split x ⟨#[c]⟩)
  rw [StrLaws.join_split] at h
  exact h.symm
theorem sp_ne (x : Str) (c : Nat) : sp x c ≠ [] := by
  unfold sp
  simp [split_ne]
theorem sp_free (x : Str) (c : Nat) : ∀ p ∈ sp x c, c ∉ p := by
  intro p hp
  obtain ⟨q, hq, rfl⟩ := List.mem_map.mp hp
  exact StrLaws.split_free x c q hq
theorem ls_inj {x y : Str} (h : ls x = ls y) : x = y := by
  obtain ⟨⟨a⟩⟩ := x
  obtain ⟨⟨b⟩⟩ := y
  have h' : a = b := h
  rw [h']
theorem map_ls_inj : ∀ {a b : List Str}, a.map ls = b.map ls → a = b
  | [], [], _ => rfl
  | [], _ :: _, h => by cases h
  | _ :: _, [], h => by cases h
  | x :: r, y :: t, h => by
    have h1 : ls x = ls y ∧ r.map ls = t.map ls := by simpa using h
    rw [ls_inj h1.1, map_ls_inj h1.2]

/-- a text begins with another and a sign more: by parts -/
theorem sp_under {x m : Str} {c : Nat} {rest : List Nat} (h : ls x = ls m ++ c :: rest) : ∃ q : List (List Nat), q ≠ [] ∧ sp x c = sp m c ++ q := by
  let y : Str := ⟨rest.toArray⟩
  have hy : ls y = rest := by simp [y, ls]
  refine ⟨sp y c, sp_ne y c, ?_⟩
  refine jn_inj c _ _ (sp_ne x c) (by simp [sp_ne]) (sp_free x c) ?_ ?_
  · intro p hp
    rcases List.mem_append.mp hp with hp | hp
    · exact sp_free m c p hp
    · exact sp_free y c p hp
  · rw [jn_append c _ _ (sp_ne m c) (sp_ne y c), sp_jn, sp_jn, sp_jn, hy, h]

theorem take_sp_iff (x m : Str) (c : Nat) : ((sp x c).take (sp m c).length = sp m c) ↔ (x = m ∨ ∃ rest, ls x = ls m ++ c :: rest) := by
  constructor
  · intro h
    have e : sp x c = sp m c ++ (sp x c).drop (sp m c).length := by
      conv => lhs; rw [← List.take_append_drop (sp m c).length (sp x c)]
      rw [h]
    by_cases hd : (sp x c).drop (sp m c).length = []
    · left
      rw [hd, List.append_nil] at e
      exact ls_inj (by rw [← sp_jn x c, ← sp_jn m c, e])
    · right
      refine ⟨jn c ((sp x c).drop (sp m c).length), ?_⟩
      rw [← sp_jn x c, e, jn_append c _ _ (sp_ne m c) hd, sp_jn]
      congr 3
      rw [← e]
  · rintro (rfl | ⟨rest, h⟩)
    · simp
    · obtain ⟨q, _, e⟩ := sp_under h
      rw [e]
      simp

theorem longer_iff (x m : Str) (c : Nat) : ((sp m c).length < (sp x c).length ∧ (sp x c).take (sp m c).length = sp m c) ↔ ∃ rest, ls x = ls m ++ c :: rest := by
  constructor
  · rintro ⟨h1, h2⟩
    rcases (take_sp_iff x m c).mp h2 with rfl | h
    · exact absurd h1 (Nat.lt_irrefl _)
    · exact h
  · rintro ⟨rest, h⟩
    obtain ⟨q, hq, e⟩ := sp_under h
    refine ⟨?_, (take_sp_iff x m c).mpr (.inr ⟨rest, h⟩)⟩
    rw [e, List.length_append]
    have : 0 < q.length := List.length_pos_iff.mpr hq
    omega

theorem starts_iff (x m : Str) (c : Nat) : Txt.startswith x (m ++ ⟨#[c]⟩) = true ↔ ∃ rest, ls x = ls m ++ c :: rest := by
  unfold Txt.startswith
  rw [Bool.and_eq_true, decide_eq_true_eq, StrLaws.subAt_eq, beq_iff_eq]
  have e1 : (m ++ (⟨#[c]⟩ : Str)).cps.toList = ls m ++ [c] := by rw [Str.cps_append, Array.toList_append]
  have e2 : (m ++ (⟨#[c]⟩ : Str)).length = (ls m).length + 1 := by
    rw [Str.length_append]; simp [ls, Str.length]
  rw [e1, e2]
  simp only [List.drop_zero, Nat.zero_add]
  constructor
  · rintro ⟨h1, h2⟩
    refine ⟨(ls x).drop ((ls m).length + 1), ?_⟩
    conv => lhs; rw [← List.take_append_drop ((ls m).length + 1) (ls x)]
    rw [h2]
    simp
  · rintro ⟨rest, h⟩
    have hx : ls x = (ls m ++ [c]) ++ rest := by rw [h]; simp
    refine ⟨?_, ?_⟩
    · have : x.length = (ls x).length := by simp [ls, Str.length]
      rw [this, hx]
      simp
    · show (ls x).take _ = _
      rw [hx]
      exact List.take_left' (by simp)

theorem dot_is : (Str.ofString ".") = ⟨#[46]⟩ := by decide
theorem slash_is : (Str.ofString "/") = ⟨#[47]⟩ := by decide

theorem modHit_is (x m : Str) : modHit x m = (decide (x = m) || Txt.startswith x (m ++ Str.ofString ".")) := by
  rw [Bool.eq_iff_iff, Bool.or_eq_true, decide_eq_true_eq, dot_is, starts_iff, ← take_sp_iff]
  unfold modHit
  rw [decide_eq_true_eq]
  show (Txt.split x (Str.ofString ".")).take (Txt.split m (Str.ofString ".")).length = Txt.split m (Str.ofString ".") ↔ _
  rw [dot_is]
  unfold sp
  rw [← List.map_take, List.length_map]
  exact ⟨fun h => by rw [h], fun h => map_ls_inj h⟩
theorem dirHit_is (x m : Str) : dirHit x m = Txt.startswith x (m ++ Str.ofString "/") := by
  rw [Bool.eq_iff_iff, slash_is, starts_iff, ← longer_iff]
  unfold dirHit
  rw [Bool.and_eq_true, decide_eq_true_eq, decide_eq_true_eq]
  show ((Txt.split m (Str.ofString "/")).length < (Txt.split x (Str.ofString "/")).length ∧ (Txt.split x (Str.ofString "/")).take (Txt.split m (Str.ofString "/")).length = Txt.split m (Str.ofString "/")) ↔ _
  rw [slash_is]
  unfold sp
  rw [← List.map_take, List.length_map, List.length_map]
  exact ⟨fun h => ⟨h.1, by rw [h.2]⟩, fun h => ⟨h.1, map_ls_inj h.2⟩⟩

theorem rule_hit (ms ds : List Str) (q : Str × Option Str) (h : q.1 ≠ Str.ofString "<string>") : ruleB q.1 q.2 ms ds = hitB ms ds q := by
  have h1 : (q.1 == ("<string>" : Str)) = false := by
    rw [beq_eq_false_iff_ne]; exact h
  have e1 : ms.any (modHit q.1) = (decide (q.1 ∈ ms) || ms.any (fun m => Txt.startswith q.1 (m ++ Str.ofString "."))) := by
    rw [Bool.eq_iff_iff, Bool.or_eq_true, decide_eq_true_eq, List.any_eq_true, List.any_eq_true]
    constructor
    · rintro ⟨m, hm, hh⟩
      rw [modHit_is, Bool.or_eq_true, decide_eq_true_eq] at hh
      rcases hh with hh | hh
      · exact .inl (hh ▸ hm)
      · exact .inr ⟨m, hm, hh⟩
    · rintro (hh | ⟨m, hm, hh⟩)
      · exact ⟨q.1, hh, by rw [modHit_is]; simp⟩
      · exact ⟨m, hm, by rw [modHit_is, hh]; simp⟩
  unfold ruleB hitB
  rw [h1, e1]
  cases q.2 with
  | none => simp
  | some y =>
    have e2 : ds.any (dirHit y) = ds.any (fun d => Txt.startswith y (d ++ Str.ofString "/")) := by
      congr 1
      funext d
      exact dirHit_is y d
    simp only [e2, Option.isNone_some, Bool.false_or, Bool.or_false]
theorem rule_string (ms ds : List Str) (p : Option Str) : ruleB (Str.ofString "<string>") p ms ds = true := by
  unfold ruleB
  have : (Str.ofString "<string>" == ("<string>" : Str)) = true := by simp
  rw [this]
  simp

/-- the answers that a reader gives to the asks in turn -/
def ig0 : Str → Option Bool := fun z => if z = Str.ofString "<string>" then some true else none
def answers (ms ds : List Str) (as : List (Str × Option Str)) : List Bool := (as.foldl (stepD (hitB ms ds)) (ig0, [])).2

theorem fold_same (ms ds : List Str) : ∀ (as : List (Str × Option Str)) (k ig : Str → Option Bool) (acc : List Bool), (∀ z, z ≠ Str.ofString "<string>" → k z = ig z) → ig (Str.ofString "<string>") = some true → (k (Str.ofString "<string>") = none ∨ k (Str.ofString "<string>") = some true) →
    (as.foldl (stepD fun q => ruleB q.1 q.2 ms ds) (k, acc)).2 = (as.foldl (stepD (hitB ms ds)) (ig, acc)).2
  | [], _, _, _, _, _, _ => rfl
  | q :: r, k, ig, acc, h1, h2, h3 => by
    have e : (k q.1).getD (ruleB q.1 q.2 ms ds) = (ig q.1).getD (hitB ms ds q) := by
      by_cases hq : q.1 = Str.ofString "<string>"
      · rw [hq, h2, rule_string]
        rcases h3 with h3 | h3 <;> rw [h3] <;> rfl
      · rw [h1 q.1 hq, rule_hit ms ds q hq]
    rw [List.foldl_cons, List.foldl_cons]
    unfold stepD
    dsimp only
    rw [e]
    refine fold_same ms ds r _ _ _ ?_ ?_ ?_
    · intro z hz
      by_cases hzq : z = q.1
      · simp [hzq]
      · simp [hzq, h1 z hz]
    · by_cases hq : Str.ofString "<string>" = q.1
      · rw [if_pos hq, ← hq, h2]; rfl
      · rw [if_neg hq, h2]
    · by_cases hq : Str.ofString "<string>" = q.1
      · right; rw [if_pos hq, ← hq, h2]; rfl
      · rw [if_neg hq]; exact h3
theorem due_answers (ms ds : List Str) (as : List (Str × Option Str)) : dueB ms ds as = answers ms ds as :=
  fold_same ms ds as _ _ [] (fun z hz => by unfold ig0; rw [if_neg hz]) (by unfold ig0; rw [if_pos rfl]) (.inl rfl)
end Mine

namespace Mine
set_option maxHeartbeats 8000000
local macro_rules | `(tactic| walk_at "stop") => `(tactic| ((fail_if_success (with_reducible show wpAny _ _ (exec (Stmt.For _ _ _ _ _) _) _ _ _)); (fail_if_success (with_reducible show wpAny _ _ (subscriptTail _ _ _ _) _ _ _)); (fail_if_success (with_reducible show wpAny _ _ (pyIter _) _ _ _)); (fail_if_success (with_reducible show wpAny _ _ (call (Value.ref _) _) _ _ _)); (fail_if_success (with_reducible show wpAny _ _ (truthy (Value.ref _)) _ _ _)); (fail_if_success (with_reducible show wpAny _ _ (call (Value.type "set") _) _ _ _))))
local macro_rules | `(tactic| walk_at "mine") => `(tactic| repeat' (first | (k_unfold; (try dsimp only)) | (walk_at "stop"; walk1) | (walk_at "stop"; dsimp only; walk1)))

section
variable {prog : Program} {w : World} {A : Around} {E : Value → Shared → Prop} {s : Shared} {g : Heap} {L : Addr} {m : Str → Option Value} {news : List (Addr × Obj)} {Q : Value → Shared → Prop}
theorem newSet0 (F : Fr g L s.heap m) (N : News g L s.heap news)
    (h : ∀ a o h', Fr g L h' m → News g L h' ((a, o) :: news) → (∀ p ∈ news, p.1 < a) → SetUse prog w o (fun _ => false) → Q (.ref a) { s with heap := h' }) :
    wpAny (model prog w) A (call (.type "set") []) Q E s :=
  call_set_0 fun led => h _ _ _ (F.push _) (N.push F _) (fun p hp => Heap.lt_size (N p hp).1) (fresh_use led)
theorem newSet1 {l : Addr} {vs : List Value} {ys : List Str} (F : Fr g L s.heap m) (N : News g L s.heap news) (hh : A.handled = none) (hl : s.heap.IsList l vs.toArray) (hi : StrsAre vs ys) (hb : ys.length + 1 < scanBound)
    (h : ∀ a o h' tk, Fr g L h' m → News g L h' ((a, o) :: news) → (∀ p ∈ news, p.1 < a) → SetUse prog w o (fun x => decide (x ∈ ys)) → Q (.ref a) { s with heap := h', toks := tk }) :
    wpAny (model prog w) A (call (.type "set") [.ref l]) Q E s := by
  refine call_set_texts hh hl hi hb fun h' tk n hS hk => ?_
  obtain ⟨o, ho, hg⟩ := hS
  have hL : L < s.heap.objs.size := F.ns.lt
  refine h _ o h' tk (F.keeps hk) (fun p hp => ?_) (fun p hp => Heap.lt_size (N p hp).1) hg.use
  rcases List.mem_cons.mp hp with rfl | hp
  · exact ⟨ho, Nat.ne_of_gt hL, next_is_new F⟩
  · exact ⟨hk _ _ (N p hp).1, (N p hp).2⟩
end

theorem tab_one (z : Str) : lookup (.str z) [(PyData.str (Str.ofString "<string>"), PyData.int 1)] = (ig0 z).map (fun b => PyData.int (bI b)) := by
  unfold ig0
  by_cases h : z = Str.ofString "<string>"
  · subst h
    simp [Spec.lookup, PyProof.V.same_str, bI]
  · have h' : ¬ (Str.ofString "<string>" = z) := fun e => h e.symm
    simp [Spec.lookup, PyProof.V.same_str, h, h']

theorem init1_spec {w : World} {A : Around} {s : Shared} {g : Heap} {R : Result → Shared → Prop} {mean : ExcName → Option Value} {mg mb : Str → Option Value} {x dx aG : Addr} {vG : List Value} {ys : List Str} :
    (∀ b o, g.get? b = some o → s.heap.get? b = some o) → g.objs.size ≤ s.heap.objs.size → s.heap.get? x = some (instObj 79 dx) → g.get? x = none → s.heap.get? dx = some (dictOf [] 0) → g.get? dx = none → @LT.lt Nat _ dx x →
    (hd.heap_39 w.params).In g → Top hd.view_39 (looseW hd.view_39 []) mean mg mb g → A.handled = none → A.depth + 5 < recursionLimit → A.units + 80 < cLine →
    g.IsList aG vG.toArray → StrsAre vG ys → ys.length ≤ 200 →
    (∀ h' tk' aS aD aI oS oI t1 t2 t3, (∀ b o, g.get? b = some o → h'.get? b = some o) → h'.get? x = some (instObj 79 dx) → h'.get? dx = some (dictOf (ignEs w.params t1 t2 t3 aS aD aI) 3) → h'.get? aS = some oS → SetUse Challenge.rw_ki0097_01.row.prog w oS (fun k => decide (k ∈ ys)) →
      h'.get? aD = some (W.listOf #[] 0) → h'.get? aI = some oI → TabOk w oI ig0 1 → (aI == sysModules) = false → g.get? aS = none → g.get? aD = none → g.get? aI = none → [x, dx, aS, aD, aI].Nodup → R (.ok (.ret .none)) { s with heap := h', toks := tk' }) →
    codeAny (model Challenge.rw_ki0097_01.row.prog w) A (.call (.ref 69) ⟨[.ref x, .ref aG], []⟩) R s := by
  k_fill
  intro hg hsz hx hgx hdx hgd hlt X T hh hroom hun hG hvG hyl hret
  obtain ⟨ha9, dp, fr9, gd9, un⟩ := A
  dsimp only at hh hroom hun
  subst hh
  have Xs := X.keeps hg
  k_dflt (refine' callPN hg hsz (news := [(x, instObj 79 dx), (dx, dictOf [] 0)]) ?kn X T ?k6 ?k7 ?k8 ?k9 ?kB ?_ ?c2 ?c3 ?c4 ?c5; (case kn => (intro p hp; rcases List.mem_cons.mp hp with rfl | hp; exact ⟨hx, hgx⟩; rw [List.mem_singleton.mp hp]; exact ⟨hdx, hgd⟩)); (case k6 => k_is); (case k7 => k_is); (case k8 => (show dp < recursionLimit; omega)); (case k9 => exact binds_K Xs rfl (by k_is) rfl rfl rfl); (case kB => exact locs rfl); (case c5 => decide); (case c2 => exact rfl); (case c3 => exact rfl); (case c4 => exact rfl); k_whole)
  clear Xs
  intro L h₁ tk hL F N
  try dsimp only
  walk_at "mine"
  have hG1 : h₁.IsList aG vG.toArray := hG.at fun o e => F.keep _ o e
  have hGl : vG.length = ys.length := hvG.len_eq
  cases vG with
  | nil =>
    have hys : ys = [] := List.eq_nil_of_length_eq_zero hGl.symm
    subst hys
    refine wpAny_truthy_list hG1 (by decide) ?_
    dsimp only
    refine ite_pos (by decide) ?_
    walk_at "mine"
    refine newSet0 (by k_asm) (by k_asm) ?_
    intro aS oS h2 F2 N2 lt2 hU0
    have hU : SetUse Challenge.rw_ki0097_01.row.prog w oS (fun k => decide (k ∈ ([] : List Str))) := by simpa using hU0
    k_lt lt2
    walk_at "mine"
    rename_i aL hA l1 hA2 hA1 o' lo hdI hfI ap l2 h' F' N'
    dsimp only
    refine hret _ _ aS aL _ oS o' _ _ _ F'.keep (News.get N' (by k_mem)) (News.get N' (by k_mem)) (News.get N' (by k_mem)) hU (News.get N' (by k_mem)) (News.get N' (by k_mem)) ⟨_, _, hdI, hfI, Nat.le_refl 1, tab_one⟩ lo (News.fresh N' (by k_mem)) (News.fresh N' (by k_mem)) (News.fresh N' (by k_mem)) ?_
    simp only [List.nodup_cons, List.mem_cons, List.not_mem_nil, or_false, not_or, not_false_eq_true, List.nodup_nil, and_true]
    refine ⟨⟨?_, ?_, ?_, ?_⟩, ⟨?_, ?_, ?_⟩, ⟨?_, ?_⟩, ?_⟩ <;> (refine neN ?_; omega)
  | cons v r =>
    refine wpAny_truthy_list hG1 (by rw [List.size_toArray]; omega) ?_
    dsimp only
    refine ite_neg (by simp) ?_
    walk_at "mine"
    refine newSet1 (by k_asm) (by k_asm) rfl (hG.at fun o e => Fr.keep (by k_asm) _ o e) hvG (by unfold scanBound; omega) ?_
    intro aS oS h2 tk2 F2 N2 lt2 hU
    k_lt lt2
    walk_at "mine"
    rename_i aL hA l1 hA2 hA1 o' lo hdI hfI ap l2 h' F' N'
    dsimp only
    refine hret _ _ aS aL _ oS o' _ _ _ F'.keep (News.get N' (by k_mem)) (News.get N' (by k_mem)) (News.get N' (by k_mem)) hU (News.get N' (by k_mem)) (News.get N' (by k_mem)) ⟨_, _, hdI, hfI, Nat.le_refl 1, tab_one⟩ lo (News.fresh N' (by k_mem)) (News.fresh N' (by k_mem)) (News.fresh N' (by k_mem)) ?_
    simp only [List.nodup_cons, List.mem_cons, List.not_mem_nil, or_false, not_or, not_false_eq_true, List.nodup_nil, and_true]
    refine ⟨⟨?_, ?_, ?_, ?_⟩, ⟨?_, ?_, ?_⟩, ⟨?_, ?_⟩, ?_⟩ <;> (refine neN ?_; omega)
theorem init0_spec {w : World} {A : Around} {s : Shared} {g : Heap} {R : Result → Shared → Prop} {mean : ExcName → Option Value} {mg mb : Str → Option Value} {x dx : Addr} :
    (∀ b o, g.get? b = some o → s.heap.get? b = some o) → g.objs.size ≤ s.heap.objs.size → s.heap.get? x = some (instObj 79 dx) → g.get? x = none → s.heap.get? dx = some (dictOf [] 0) → g.get? dx = none → @LT.lt Nat _ dx x →
    (hd.heap_39 w.params).In g → Top hd.view_39 (looseW hd.view_39 []) mean mg mb g → A.handled = none → A.depth + 5 < recursionLimit → A.units + 80 < cLine →
    (∀ h' tk' aS aD aI oS oI t1 t2 t3, (∀ b o, g.get? b = some o → h'.get? b = some o) → h'.get? x = some (instObj 79 dx) → h'.get? dx = some (dictOf (ignEs w.params t1 t2 t3 aS aD aI) 3) → h'.get? aS = some oS → SetUse Challenge.rw_ki0097_01.row.prog w oS (fun k => decide (k ∈ ([] : List Str))) →
      h'.get? aD = some (W.listOf #[] 0) → h'.get? aI = some oI → TabOk w oI ig0 1 → (aI == sysModules) = false → g.get? aS = none → g.get? aD = none → g.get? aI = none → [x, dx, aS, aD, aI].Nodup → R (.ok (.ret .none)) { s with heap := h', toks := tk' }) →
    codeAny (model Challenge.rw_ki0097_01.row.prog w) A (.call (.ref 69) ⟨[.ref x], []⟩) R s := by
  k_fill
  intro hg hsz hx hgx hdx hgd hlt X T hh hroom hun hret
  obtain ⟨ha9, dp, fr9, gd9, un⟩ := A
  dsimp only at hh hroom hun
  subst hh
  have Xs := X.keeps hg
  k_dflt (refine' callPN hg hsz (news := [(x, instObj 79 dx), (dx, dictOf [] 0)]) ?kn X T ?k6 ?k7 ?k8 ?k9 ?kB ?_ ?c2 ?c3 ?c4 ?c5; (case kn => (intro p hp; rcases List.mem_cons.mp hp with rfl | hp; exact ⟨hx, hgx⟩; rw [List.mem_singleton.mp hp]; exact ⟨hdx, hgd⟩)); (case k6 => k_is); (case k7 => k_is); (case k8 => (show dp < recursionLimit; omega)); (case k9 => exact binds_K Xs rfl (by k_is) rfl rfl rfl); (case kB => exact locs rfl); (case c5 => decide); (case c2 => exact rfl); (case c3 => exact rfl); (case c4 => exact rfl); k_whole)
  clear Xs
  intro L h₁ tk hL F N
  try dsimp only
  walk_at "mine"
  refine newSet0 (by k_asm) (by k_asm) ?_
  intro aS oS h2 F2 N2 lt2 hU0
  have hU : SetUse Challenge.rw_ki0097_01.row.prog w oS (fun k => decide (k ∈ ([] : List Str))) := by simpa using hU0
  k_lt lt2
  walk_at "mine"
  rename_i aL hA l1 hA2 hA1 o' lo hdI hfI ap l2 h' F' N'
  dsimp only
  refine hret _ _ aS aL _ oS o' _ _ _ F'.keep (News.get N' (by k_mem)) (News.get N' (by k_mem)) (News.get N' (by k_mem)) hU (News.get N' (by k_mem)) (News.get N' (by k_mem)) ⟨_, _, hdI, hfI, Nat.le_refl 1, tab_one⟩ lo (News.fresh N' (by k_mem)) (News.fresh N' (by k_mem)) (News.fresh N' (by k_mem)) ?_
  simp only [List.nodup_cons, List.mem_cons, List.not_mem_nil, or_false, not_or, not_false_eq_true, List.nodup_nil, and_true]
  refine ⟨⟨?_, ?_, ?_, ?_⟩, ⟨?_, ?_, ?_⟩, ⟨?_, ?_⟩, ?_⟩ <;> (refine neN ?_; omega)

section
variable {w : World} {A : Around} {E : Value → Shared → Prop} {s : Shared} {h₀ : Heap} {L : Addr} {m : Str → Option Value} {news : List (Addr × Obj)} {Q : Value → Shared → Prop} {mean : ExcName → Option Value} {mg mb : Str → Option Value}

/-- what a call of the class gives back -/
def IgnNew (w : World) (h₀ : Heap) (L : Addr) (m : Str → Option Value) (news : List (Addr × Obj)) (ys : List Str) (s : Shared) (Q : Value → Shared → Prop) : Prop :=
  ∀ h' tk' x dx aS aD aI oS oI t1 t2 t3, Fr h₀ L h' m → News h₀ L h' ((x, instObj 79 dx) :: (dx, dictOf (ignEs w.params t1 t2 t3 aS aD aI) 3) :: (aS, oS) :: (aD, W.listOf #[] 0) :: (aI, oI) :: news) →
    SetUse Challenge.rw_ki0097_01.row.prog w oS (fun k => decide (k ∈ ys)) → TabOk w oI ig0 1 → (aI == sysModules) = false → [x, dx, aS, aD, aI].Nodup → (∀ b ∈ [x, dx, aS, aD, aI], ∀ p ∈ news, p.1 ≠ b) →
    Q (.ref x) { s with heap := h', toks := tk' }

theorem ign_back {h1 h' : Heap} {x dx aS aD aI : Addr} {oS oI : Obj} {es : List DictEntry} (F1 : Fr h₀ L h1 m) (N1 : News h₀ L h1 ((x, instObj 79 dx) :: (dx, dictOf [] 0) :: news))
    (l1 : ∀ p ∈ news, p.1 < dx) (l2 : dx < x) (hk : ∀ b o, (hideAll h1 [x, dx]).get? b = some o → h'.get? b = some o)
    (hx : h'.get? x = some (instObj 79 dx)) (hdx : h'.get? dx = some (dictOf es 3)) (hS : h'.get? aS = some oS) (hD : h'.get? aD = some (W.listOf #[] 0)) (hI : h'.get? aI = some oI)
    (gS : (hideAll h1 [x, dx]).get? aS = none) (gD : (hideAll h1 [x, dx]).get? aD = none) (gI : (hideAll h1 [x, dx]).get? aI = none) :
    Fr h₀ L h' m ∧ News h₀ L h' ((x, instObj 79 dx) :: (dx, dictOf es 3) :: (aS, oS) :: (aD, W.listOf #[] 0) :: (aI, oI) :: news) ∧ (∀ b ∈ [x, dx, aS, aD, aI], ∀ p ∈ news, p.1 ≠ b) := by
  have nx := N1 (x, instObj 79 dx) (List.Mem.head _)
  have nd := N1 (dx, dictOf [] 0) (List.Mem.tail _ (List.Mem.head _))
  have N0 : News h₀ L h1 news := fun p hp => N1 p (List.mem_cons_of_mem _ (List.mem_cons_of_mem _ hp))
  have far : ∀ p ∈ news, p.1 ∉ [x, dx] := by
    intro p hp hb
    have h3 := l1 p hp
    rcases List.mem_cons.mp hb with e | hb
    · rw [e] at h3; exact absurd (Nat.lt_trans h3 l2) (Nat.lt_irrefl _)
    · rw [List.mem_singleton.mp hb] at h3; exact absurd h3 (Nat.lt_irrefl _)
  have oldN : ∀ p ∈ news, (hideAll h1 [x, dx]).get? p.1 = some p.2 := fun p hp => hideAll_get _ (N0 p hp).1 (far p hp)
  have oldB : ∀ b o, h₀.get? b = some o → (hideAll h1 [x, dx]).get? b = some o := by
    intro b o e
    refine hideAll_get _ (F1.keep b o e) ?_
    intro hb
    rcases List.mem_cons.mp hb with q | hb
    · rw [q, nx.2.2] at e; cases e
    · rw [List.mem_singleton.mp hb, nd.2.2] at e; cases e
  obtain ⟨oL, e1, e2, hoL, rL⟩ := id F1.ns
  have oldL : (hideAll h1 [x, dx]).get? L = some oL := by
    refine hideAll_get _ hoL ?_
    intro hb
    rcases List.mem_cons.mp hb with q | hb
    · exact nx.2.1 q.symm
    · exact nd.2.1 (List.mem_singleton.mp hb).symm
  have F' : Fr h₀ L h' m := ⟨⟨oL, e1, e2, hk _ _ oldL, rL⟩, fun b o e => hk b o (oldB b o e), F1.above⟩
  have fresh : ∀ b o, (hideAll h1 [x, dx]).get? b = none → h'.get? b = some o → h'.get? b = some o ∧ b ≠ L ∧ h₀.get? b = none := by
    intro b o hn e
    refine ⟨e, fun q => ?_, ?_⟩
    · rw [q, oldL] at hn; cases hn
    · cases q : h₀.get? b with
      | none => rfl
      | some o' => rw [oldB b o' q] at hn; cases hn
  refine ⟨F', fun p hp => ?_, fun b hb p hp e => ?_⟩
  · simp only [List.mem_cons] at hp
    rcases hp with rfl | rfl | rfl | rfl | rfl | hp
    · exact ⟨hx, nx.2⟩
    · exact ⟨hdx, nd.2⟩
    · exact fresh _ _ gS hS
    · exact fresh _ _ gD hD
    · exact fresh _ _ gI hI
    · exact ⟨hk _ _ (oldN p hp), (N0 p hp).2⟩
  · have h3 := oldN p hp
    simp only [List.mem_cons, List.not_mem_nil, or_false] at hb
    rcases hb with rfl | rfl | rfl | rfl | rfl
    · exact far p hp (by rw [e]; simp)
    · exact far p hp (by rw [e]; simp)
    · rw [e, gS] at h3; cases h3
    · rw [e, gD] at h3; cases h3
    · rw [e, gI] at h3; cases h3

theorem ign_new1 {aG : Addr} {vG : List Value} {ys : List Str} : (hd.heap_39 w.params).In h₀ → Fr h₀ L s.heap m → Top hd.view_39 (looseW hd.view_39 []) mean mg mb h₀ → News h₀ L s.heap news → A.handled = none → A.depth + 10 < recursionLimit → A.units + 100 < cLine →
    (∃ o, (aG, o) ∈ news ∧ o.cls = .type "list" ∧ ∃ n, o.data = .seq vG.toArray n) → StrsAre vG ys → ys.length ≤ 200 → IgnNew w h₀ L m news ys s Q →
    wpAny (model Challenge.rw_ki0097_01.row.prog w) A (call (.ref 79) [.ref aG]) Q E s := by
  k_fill
  intro X F T N hh hroom hun hG hvG hyl hret
  k_dflt (refine' call_cls F X N ?k4 ?k5 ?k6 ?_; (case k4 => k_is); (case k5 => k_is); (case k6 => k_is); k_whole)
  intro x dx h1 F1 N1 l1 l2
  have nx := N1 (x, instObj 79 dx) (List.Mem.head _)
  have nd := N1 (dx, dictOf [] 0) (List.Mem.tail _ (List.Mem.head _))
  have up : ∀ b o, h₀.get? b = some o → (hideAll h1 [x, dx]).get? b = some o := by
    intro b o e
    refine hideAll_get _ (F1.keep b o e) ?_
    intro hb
    rcases List.mem_cons.mp hb with q | hb
    · rw [q, nx.2.2] at e; cases e
    · rw [List.mem_singleton.mp hb, nd.2.2] at e; cases e
  obtain ⟨oG, hGm, hGr⟩ := hG
  have hG1 : (hideAll h1 [x, dx]).get? aG = some oG := by
    refine hideAll_get _ (N1 (aG, oG) (List.mem_cons_of_mem _ (List.mem_cons_of_mem _ hGm))).1 ?_
    have h3 : aG < dx := l1 (aG, oG) hGm
    intro hb
    rcases List.mem_cons.mp hb with e | hb
    · rw [e] at h3; exact absurd (Nat.lt_trans h3 l2) (Nat.lt_irrefl _)
    · rw [List.mem_singleton.mp hb] at h3; exact absurd h3 (Nat.lt_irrefl _)
  refine init1_spec (s := { s with heap := h1 }) (g := hideAll h1 [x, dx]) (fun b o e => of_hideAll _ e) (Nat.le_of_eq (hideAll_size _ _)) nx.1 (hideAll_none _ (by simp)) nd.1 (hideAll_none _ (by simp)) l2 (X.keeps up) (T.keeps up) hh
    (by rw [depth_under_make]; omega) (by rw [units_under_make]; omega) ⟨oG, hG1, hGr⟩ hvG hyl ?_
  intro h' tk' aS aD aI oS oI t1 t2 t3 hk hx hdx hS hU hD hI htab hlo gS gD gI nod
  obtain ⟨F', N', hno⟩ := ign_back F1 N1 l1 l2 hk hx hdx hS hD hI gS gD gI
  exact ⟨rfl, hret h' tk' x dx aS aD aI oS oI t1 t2 t3 F' N' hU htab hlo nod hno⟩

theorem ign_new0 : (hd.heap_39 w.params).In h₀ → Fr h₀ L s.heap m → Top hd.view_39 (looseW hd.view_39 []) mean mg mb h₀ → News h₀ L s.heap news → A.handled = none → A.depth + 10 < recursionLimit → A.units + 100 < cLine →
    IgnNew w h₀ L m news [] s Q →
    wpAny (model Challenge.rw_ki0097_01.row.prog w) A (call (.ref 79) []) Q E s := by
  k_fill
  intro X F T N hh hroom hun hret
  k_dflt (refine' call_cls F X N ?k4 ?k5 ?k6 ?_; (case k4 => k_is); (case k5 => k_is); (case k6 => k_is); k_whole)
  intro x dx h1 F1 N1 l1 l2
  have nx := N1 (x, instObj 79 dx) (List.Mem.head _)
  have nd := N1 (dx, dictOf [] 0) (List.Mem.tail _ (List.Mem.head _))
  have up : ∀ b o, h₀.get? b = some o → (hideAll h1 [x, dx]).get? b = some o := by
    intro b o e
    refine hideAll_get _ (F1.keep b o e) ?_
    intro hb
    rcases List.mem_cons.mp hb with q | hb
    · rw [q, nx.2.2] at e; cases e
    · rw [List.mem_singleton.mp hb, nd.2.2] at e; cases e
  refine init0_spec (s := { s with heap := h1 }) (g := hideAll h1 [x, dx]) (fun b o e => of_hideAll _ e) (Nat.le_of_eq (hideAll_size _ _)) nx.1 (hideAll_none _ (by simp)) nd.1 (hideAll_none _ (by simp)) l2 (X.keeps up) (T.keeps up) hh
    (by rw [depth_under_make]; omega) (by rw [units_under_make]; omega) ?_
  intro h' tk' aS aD aI oS oI t1 t2 t3 hk hx hdx hS hU hD hI htab hlo gS gD gI nod
  obtain ⟨F', N', hno⟩ := ign_back F1 N1 l1 l2 hk hx hdx hS hD hI gS gD gI
  exact ⟨rfl, hret h' tk' x dx aS aD aI oS oI t1 t2 t3 F' N' hU htab hlo nod hno⟩
end
end Mine

namespace Mine
def ValsEnd (h₀ : Heap) (L : Addr) (I : Addr) (own : List (Addr × Obj)) (J : (Str → Option Value) → List (Addr × Obj) → Prop) (s s₂ : Shared) : Prop :=
  ∃ h' tk' m' news', s₂ = { s with heap := h', toks := tk' } ∧ Fr h₀ L h' m' ∧ News h₀ L h' (own ++ news') ∧ (∀ p ∈ news', p.1 ≠ I) ∧ J m' news'
theorem ValsEnd.intro {h₀ : Heap} {L I : Addr} {own : List (Addr × Obj)} {J : (Str → Option Value) → List (Addr × Obj) → Prop} {s : Shared} {h' : Heap} {tk' : Nat} {m' : Str → Option Value} {news' : List (Addr × Obj)}
    (F : Fr h₀ L h' m') (N : News h₀ L h' (own ++ news')) (hno : ∀ p ∈ news', p.1 ≠ I) (hJ : J m' news') : ValsEnd h₀ L I own J s { s with heap := h', toks := tk' } := ⟨h', tk', m', news', rfl, F, N, hno, hJ⟩

section
variable {prog : Program} {w : World} {A : Around} {E : Value → Shared → Prop} {s : Shared} {env : Env} {h₀ : Heap} {x : Str} {body : List Stmt} {Q : Flow → Shared → Prop}
/-- a loop over a list that stands in the base; the ledger may change -/
theorem iter_valsN {l : Addr} {vs : List Value} {m₀ : Str → Option Value} {news : List (Addr × Obj)} (J : Nat → (Str → Option Value) → List (Addr × Obj) → Prop)
    (hh : A.handled = none) (hl : h₀.IsList l vs.toArray) (F : Fr h₀ env.locals s.heap m₀) (N : News h₀ env.locals s.heap news) (hj : J 0 m₀ news)
    (turn : ∀ i v m₁ news₁ I h tk own, vs[i]? = some v → J i m₁ news₁ → (∀ p ∈ news₁, p.1 ≠ I) → (∀ p ∈ own, ∀ q ∈ news₁, p.1 ≠ q.1) → Fr h₀ env.locals h (fun y => if y = x then some v else m₁ y) → News h₀ env.locals h (own ++ news₁) →
      wpAny (model prog w) A (execs body env) (fun f s₂ => match f with
        | .ret v => Q (.ret v) s₂
        | .brk => Q .next s₂
        | _ => ValsEnd h₀ env.locals I own (J (i + 1)) { s with heap := h, toks := tk } s₂) E { s with heap := h, toks := tk })
    (done : ∀ m₁ news₁ h tk, J vs.length m₁ news₁ → Fr h₀ env.locals h m₁ → News h₀ env.locals h news₁ → Q .next { s with heap := h, toks := tk }) :
    wpAny (model prog w) A (pyIter (.ref l)) (fun it s₂ => LoopAtV prog w A h₀ env x body Q E it s₂) E s := by
  have hls : s.heap.IsList l vs.toArray := hl.at fun o e => F.keep l o e
  obtain ⟨ol, hol, _⟩ := id hl
  have hlt : l < h₀.objs.size := Heap.lt_size hol
  have hne : l ≠ s.heap.objs.size := Nat.ne_of_lt (Nat.lt_trans (Nat.lt_of_lt_of_le hlt F.above) F.ns.lt)
  refine wpAny_pyIter_list hls ?_
  have W := Walks.list (prog := prog) (w := w) hh s.heap.objs.size l hne vs.toArray
  rw [List.size_toArray] at W
  refine ⟨_, _, _, vs.length, _, _, m₀, news, J, rfl, W, ?_, ?_, ?_, ⟨⟨_, Heap.get?_push_size _ rfl, rfl, rfl⟩, hls.at fun o e => Heap.get?_push_of_some _ e⟩, F.push _, (fun p hp => ⟨Heap.get?_push_of_some _ (N p hp).1, (N p hp).2⟩), hj, ?_, ?_⟩
  · intro hm
    rcases List.mem_cons.mp hm with e | hm
    · exact absurd F.ns.lt (e ▸ Nat.lt_irrefl _)
    · exact absurd (Nat.lt_of_lt_of_le hlt F.above) ((List.mem_singleton.mp hm) ▸ Nat.lt_irrefl _)
  · intro b hb
    rw [List.mem_singleton.mp hb]
    exact next_is_new F
  · intro p hp hI
    exact absurd (Heap.lt_size (N p hp).1) ((List.mem_singleton.mp hI) ▸ Nat.lt_irrefl _)
  · rintro i v m₁ news₁ s₁ own ⟨hh', tk', rfl⟩ hin hP hJ hoff hown _ _ _ F₁ N₁
    have hP' : vs[i]? = some v := by simpa using hP
    have hoff' : ∀ p ∈ news₁, p.1 ≠ s.heap.objs.size := fun p hp e => hoff p hp (List.mem_singleton.mpr e)
    have hsep : ∀ p ∈ own, ∀ q ∈ news₁, p.1 ≠ q.1 := by
      intro p hp q hq e
      rcases List.mem_cons.mp (hown p hp) with h1 | h1
      · exact hoff' q hq (e.symm.trans h1)
      · have h2 := List.mem_singleton.mp h1
        have h3 := (N₁ q (List.mem_append_right _ hq)).2.2
        rw [← e, h2, hol] at h3
        cases h3
    refine wpAny_mono (turn i v m₁ news₁ s.heap.objs.size hh' tk' own hP' hJ hoff' hsep F₁ N₁) (fun f s₂ p => ?_) fun _ _ e => e
    have fin : ValsEnd h₀ env.locals s.heap.objs.size own (J (i + 1)) { s with heap := hh', toks := tk' } s₂ → LoopStepU h₀ env.locals [s.heap.objs.size] own (J (i + 1)) { s with heap := hh', toks := tk' } .next s₂ := by
      rintro ⟨h', tk, m', news', e, F', N', hn, hm⟩
      exact ⟨rfl, h', tk, m', news', e, F', N', fun p hp hb => hn p hp (List.mem_singleton.mp hb), hm⟩
    cases f with
    | ret v => exact .ret p
    | brk => exact .brk p
    | next => exact .next (fin p)
    | cont => exact .cont (fin p)
  · rintro h' tk m' news' F' N' _ hJ
    exact done m' news' h' tk hJ F' N'
end
end Mine

namespace Mine
set_option maxHeartbeats 8000000
local macro_rules | `(tactic| walk_at "stop") => `(tactic| ((fail_if_success (with_reducible show wpAny _ _ (exec (Stmt.For _ _ _ _ _) _) _ _ _)); (fail_if_success (with_reducible show wpAny _ _ (subscriptTail _ _ _ _) _ _ _)); (fail_if_success (with_reducible show wpAny _ _ (pyIter _) _ _ _)); (fail_if_success (with_reducible show wpAny _ _ (call (Value.ref _) _) _ _ _)); (fail_if_success (with_reducible show wpAny _ _ (binaryOp _ (Value.ref _) (Value.ref _)) _ _ _)); (fail_if_success (with_reducible show wpAny _ _ (call (Value.builtin "list.clear") _) _ _ _)); (fail_if_success (with_reducible show wpAny _ _ (call (Value.builtin "list.append") _) _ _ _))))
local macro_rules | `(tactic| walk_at "mine") => `(tactic| repeat' (first | (k_unfold; (try dsimp only)) | (walk_at "stop"; walk1) | (walk_at "stop"; dsimp only; walk1)))

section
variable {prog : Program} {w : World} {A : Around} {E : Value → Shared → Prop} {s : Shared} {h₀ : Heap} {L : Addr} {m : Str → Option Value} {news : List (Addr × Obj)} {Q : Value → Shared → Prop}
theorem add_two {l b : Addr} {vs ws : List Value} (F : Fr h₀ L s.heap m) (N : News h₀ L s.heap news) (hl : s.heap.IsList l vs.toArray) (hb : s.heap.IsList b ws.toArray) (hsz : vs.length + ws.length ≤ sizeLine)
    (h : ∀ D h', Fr h₀ L h' m → News h₀ L h' ((D, W.listOf (vs ++ ws).toArray 0) :: news) → (∀ p ∈ news, p.1 < D) → Q (.ref D) { s with heap := h' }) :
    wpAny (model prog w) A (binaryOp .Add (.ref l) (.ref b)) Q E s :=
  add_lists F N hl hb (fun h' F' N' => h _ h' F' N' (fun p hp => Heap.lt_size (N p hp).1)) hsz
theorem clear_drop {D : Addr} {its : Array Value} {n : Nat} (F : Fr h₀ L s.heap m) (N : News h₀ L s.heap ((D, W.listOf its n) :: news)) (hno : ∀ p ∈ news, p.1 ≠ D) (hz : its.size ≤ sizeLine)
    (h : ∀ h', Fr h₀ L h' m → News h₀ L h' news → Q .none { s with heap := h' }) : wpAny (model prog w) A (call (.builtin "list.clear") [.ref D]) Q E s := by
  have z := N (D, listOf its n) (List.Mem.head _)
  refine call_meets PySem.F.slot_list_clear ⟨_, z.1, rfl⟩ PySem.F.entry_list_clear (PySem.F.args_list_clear_1 _) (PySem.AutoSeq1.list_clear_list_0 D its n hz) ⟨z.1, h _ (F.change (Heap.SameBut.update ..) z.2.1 z.2.2) (fun p hp => ?_)⟩
  have y := N p (List.mem_cons_of_mem _ hp)
  exact ⟨(Heap.SameBut.update ..).extBut _ _ (hno p hp) y.1, y.2⟩
end

theorem strsApp : ∀ {vs us : List Value} {ys zs : List Str}, StrsAre vs ys → StrsAre us zs → StrsAre (vs ++ us) (ys ++ zs)
  | _, _, _, _, .nil, h => h
  | _, _, _, _, .cons x t r, h => .cons x t (strsApp r h)

theorem law_made_spec {w : World} {A : Around} {s : Shared} {Q E : Value → Shared → Prop} {mean : ExcName → Option Value} {mg mb : Str → Option Value} {aM aD : Addr} {vm vd : List Value} {ms ds : List Str} :
    (hd.heap_39 w.params).In s.heap → Top hd.view_39 (looseW hd.view_39 []) mean mg mb s.heap → A.handled = none → A.depth + 20 < recursionLimit → A.units + 120 < cLine →
    s.heap.IsList aM vm.toArray → StrsAre vm ms → ms.length ≤ 100 → s.heap.IsList aD vd.toArray → StrsAre vd ds → ds.length ≤ 100 →
    (∀ x dx aS aL aI oS oI t1 t2 t3 n h' tk', s.heap.StaysIn h' → s.heap.get? x = none → s.heap.get? dx = none → s.heap.get? aS = none → s.heap.get? aL = none → s.heap.get? aI = none →
      h'.get? x = some (instObj 79 dx) → h'.get? dx = some (dictOf (ignEs w.params t1 t2 t3 aS aL aI) 3) → h'.get? aS = some oS → h'.get? aL = some (W.listOf vd.toArray n) → h'.get? aI = some oI →
      SetUse Challenge.rw_ki0097_01.row.prog w oS (fun k => decide (k ∈ ms)) → TabOk w oI ig0 1 → (aI == sysModules) = false → [x, dx, aS, aL, aI].Nodup → Q (.ref x) { s with heap := h', toks := tk' }) →
    wpAny (model Challenge.rw_ki0097_01.row.prog w) A (call (.ref 121) [.ref aM, .ref aD]) Q E s := by
  k_fill
  intro X T hh hroom hun hM hvm hml hD hvd hdl hret
  obtain ⟨ha9, dp, fr9, gd9, un⟩ := A
  dsimp only at hh hroom hun
  subst hh
  refine wpAny_call ?_
  k_dflt (refine' callP X T ?k6 ?k7 ?k8 ?k9 ?kB ?_ ?c2 ?c3 ?c4 ?c5; (case k6 => k_is); (case k7 => k_is); (case k8 => (show dp < recursionLimit; omega)); (case k9 => exact BindsTo.of_eq rfl); (case kB => exact locs rfl); (case c5 => decide); (case c2 => exact rfl); (case c3 => exact rfl); (case c4 => exact rfl); k_whole)
  intro L h₁ tk hL F N
  try dsimp only
  have hml' : vm.length = ms.length := hvm.len_eq
  have hdl' : vd.length = ds.length := hvd.len_eq
  walk_at "mine"
  refine slice_upto (by k_asm) (by k_asm) (hM.at fun o e => Fr.keep (by k_asm) _ o e) (by decide) (by rw [sizeLine_eq]; omega) ?_
  intro a1 h2 F2 N2 l2
  walk_at "mine"
  refine add_two F2 N2 (hM.at fun o e => F2.keep _ o e) (News.isList N2 (by k_mem)) (by rw [List.length_take, sizeLine_eq]; omega) ?_
  intro aG h3 F3 N3 l3
  k_lt l3
  have hvG : StrsAre (vm ++ vm.take ((1 : Int).toNat)) (ms ++ ms.take 1) := strsApp hvm (strsTake 1 hvm)
  walk_at "mine"
  refine ign_new1 X (by k_asm) T (by k_asm) rfl (by show dp + 1 + 10 < recursionLimit; omega) (by show un + 3 + 100 < cLine; omega) ⟨_, List.Mem.head _, rfl, _, rfl⟩ hvG (by rw [List.length_append, List.length_take]; omega) ?_
  intro h4 tk4 x dx aS aL aI oS oI t1 t2 t3 F4 N4 hU htab hlo hnod hno
  have hU' : SetUse Challenge.rw_ki0097_01.row.prog w oS (fun k => decide (k ∈ ms)) := by
    have e : (fun k => decide (k ∈ ms ++ ms.take 1)) = (fun k => decide (k ∈ ms)) := by
      funext k
      have : (k ∈ ms ++ ms.take 1) ↔ k ∈ ms := by
        rw [List.mem_append]
        exact ⟨fun h => h.elim id List.mem_of_mem_take, Or.inl⟩
      simp [this]
    rw [e] at hU
    exact hU
  walk_at "mine"
  rename_i h5 F5 N5
  obtain ⟨hx_, hd_, hS_, hL_, -⟩ : (x ≠ dx ∧ x ≠ aS ∧ x ≠ aL ∧ x ≠ aI) ∧ (dx ≠ aS ∧ dx ≠ aL ∧ dx ≠ aI) ∧ (aS ≠ aL ∧ aS ≠ aI) ∧ aL ≠ aI ∧ True := by
    simpa [List.nodup_cons, not_or] using hnod
  have N6 : News s.heap L h5 [(aG, W.listOf (vm ++ vm.take ((1 : Int).toNat)).toArray 0), (aL, W.listOf #[] 0), (x, instObj 79 dx), (dx, dictOf (ignEs w.params t1 t2 t3 aS aL aI) 3), (aS, oS), (aI, oI)] := by
    intro p hp
    refine N5 p ?_
    simp only [List.mem_cons, List.not_mem_nil, or_false] at hp ⊢
    rcases hp with h | h | h | h | h | h <;> simp [h]
  have hnG : ∀ b ∈ [x, dx, aS, aL, aI], b ≠ aG := fun b hb e => hno b hb (aG, _) (List.Mem.head _) e.symm
  clear N5
  refine clear_drop F5 N6 ?_ ?_ ?_
  · intro p hp
    simp only [List.mem_cons, List.not_mem_nil, or_false] at hp
    rcases hp with rfl | rfl | rfl | rfl | rfl <;> (refine hnG _ ?_; simp)
  · rw [List.size_toArray, List.length_append, List.length_take, sizeLine_eq]; omega
  clear N6
  intro h6 F6 N6
  dsimp only
  walk_at "mine"
  refine For_invV s.heap rfl rfl ?_ (by intro _; rfl) PassesOwn.never
  walk_at "mine"
  refine iter_valsN (fun i m₁ news₁ => (∃ u : Str → Option Value, m₁ = fun z => if z = Str.ofString "place" then u z else mOf F6 z) ∧ ∃ n, news₁ = [(aL, W.listOf (vd.take i).toArray n), (x, instObj 79 dx), (dx, dictOf (ignEs w.params t1 t2 t3 aS aL aI) 3), (aS, oS), (aI, oI)])
    rfl hD F6 N6 ⟨⟨_, part_one fun _ _ => rfl⟩, 0, rfl⟩ ?turn ?done
  case turn =>
    rintro i v m₁ news₁ I h tk own hv ⟨⟨u, rfl⟩, n, rfl⟩ hI hoff F7 N7
    have hiv : i < vd.length := (List.getElem?_eq_some_iff.mp hv).1
    change Fr s.heap L h _ at F7
    have N8 : News s.heap L h ((aL, W.listOf (vd.take i).toArray n) :: (x, instObj 79 dx) :: (dx, dictOf (ignEs w.params t1 t2 t3 aS aL aI) 3) :: (aS, oS) :: (aI, oI) :: own) := by
      intro p hp
      refine N7 p ?_
      simp only [List.mem_cons, List.mem_append, List.not_mem_nil, or_false] at hp ⊢
      rcases hp with h | h | h | h | h | h <;> simp [h]
    clear N7
    walk_at "mine"
    refine append_K F7 N8 (Upd.head ?_) ?_ (by rw [List.size_toArray, List.length_take, sizeLine_eq]; omega)
    · intro p hp
      simp only [List.mem_cons] at hp
      rcases hp with rfl | rfl | rfl | rfl | hp
      · exact hx_.2.2.1
      · exact hd_.2.1
      · exact hS_.1
      · exact hL_.symm
      · exact hoff p hp (aL, _) (List.Mem.head _)
    intro h8 F8 N9
    walk_at "mine"
    refine ValsEnd.intro (news' := [(aL, W.listOf (vd.take (i + 1)).toArray (n + 1)), (x, instObj 79 dx), (dx, dictOf (ignEs w.params t1 t2 t3 aS aL aI) 3), (aS, oS), (aI, oI)]) F8 ?_ ?_ ⟨⟨_, part_one (by intro z h1; (try simp [h1]); (try rfl))⟩, n + 1, rfl⟩
    · intro p hp
      refine N9 p ?_
      rw [List.take_add_one, hv] at hp
      simp only [List.mem_cons, List.mem_append, List.not_mem_nil, or_false] at hp ⊢
      rcases hp with h | h | h | h | h | h <;> simp [h]
    · intro p hp
      simp only [List.mem_cons, List.not_mem_nil, or_false] at hp
      rcases hp with rfl | rfl | rfl | rfl | rfl
      · exact hI (aL, W.listOf (vd.take i).toArray n) (List.Mem.head _)
      · exact hI (x, instObj 79 dx) (by simp)
      · exact hI (dx, dictOf (ignEs w.params t1 t2 t3 aS aL aI) 3) (by simp)
      · exact hI (aS, oS) (by simp)
      · exact hI (aI, oI) (by simp)
  case done =>
    rintro m₁ news₁ h tk ⟨⟨u, rfl⟩, n, rfl⟩ F7 N7
    change Fr s.heap L h _ at F7
    change News s.heap L h _ at N7
    rw [List.take_length] at N7
    dsimp only
    walk_at "mine"
    exact hret x dx aS aL aI oS oI t1 t2 t3 n _ _ F7.keep (News.fresh N7 (by k_mem)) (News.fresh N7 (by k_mem)) (News.fresh N7 (by k_mem)) (News.fresh N7 (by k_mem)) (News.fresh N7 (by k_mem))
      (News.get N7 (by k_mem)) (News.get N7 (by k_mem)) (News.get N7 (by k_mem)) (News.get N7 (by k_mem)) (News.get N7 (by k_mem)) hU' htab hlo hnod
end Mine

namespace Mine
open LCg LCt

def PEnd (h₀ : Heap) (L : Addr) (m : Str → Option Value) (s : Shared) (I : Addr) (oI : Obj) (C : Addr) (oC : Obj) (D : Addr) (oD : Obj) (J : Value → List (Addr × Obj) → Prop) (y : Value) (s₂ : Shared) : Prop :=
  ∃ h' tk' d' news', s₂ = { s with heap := h', toks := tk', drawn := d' } ∧ Fr h₀ L h' m ∧ News h₀ L h' ((I, oI) :: (C, oC) :: (D, oD) :: news') ∧ Off3 I C D news' ∧ J y news'
theorem PEnd.intro {h₀ : Heap} {L : Addr} {m : Str → Option Value} {s : Shared} {I C D : Addr} {oI oC oD : Obj} {J : Value → List (Addr × Obj) → Prop} {y : Value} {h' : Heap} {tk' : Nat} {d' : Drawn} {news' : List (Addr × Obj)}
    (F : Fr h₀ L h' m) (N : News h₀ L h' ((I, oI) :: (C, oC) :: (D, oD) :: news')) (off : Off3 I C D news') (hJ : J y news') : PEnd h₀ L m s I oI C oC D oD J y { s with heap := h', toks := tk', drawn := d' } := ⟨h', tk', d', news', rfl, F, N, off, hJ⟩

/-- a list comprehension over a list of pairs of the ledger: what must be shown -/
def PairSrc (prog : Program) (w : World) (A : Around) (h₀ : Heap) (L : Addr) (m : Str → Option Value) (env : Env) (elt : PySem.Expr) (a b : Str) (scope : Scope) (cl : List (Str × Addr)) (Q : Value → Shared → Prop) (xv : Value) (s : Shared) : Prop :=
  ∃ (l : Addr) (vs : List Value) (news₀ : List (Addr × Obj)) (J : Nat → List Value → List (Addr × Obj) → Prop),
    xv = .ref l ∧ A.handled = none ∧ Fr h₀ L s.heap m ∧ News h₀ L s.heap news₀ ∧ J 0 [] news₀ ∧ vs.length ≤ sizeLine ∧
    (∀ i ys news, J i ys news → ∃ o, (l, o) ∈ news ∧ o.cls = .type "list" ∧ ∃ n, o.data = .seq vs.toArray n) ∧
    (∀ (i : Nat) v ys news, vs[i]? = some v → J i ys news → ∃ T x y, v = Value.ref T ∧ ∃ o, (T, o) ∈ news ∧ ∀ h : Heap, h.get? T = some o → h.IsTuple T #[x, y]) ∧
    (∀ i T x y ys news I oI C oC D m₂ h tk d (E' : Value → Shared → Prop), vs[i]? = some (.ref T) → h.IsTuple T #[x, y] → J i ys news → ys.length = i → NsObj oC m₂ → m₂ a = some x → m₂ b = some y → Fr h₀ L h m → News h₀ L h ((I, oI) :: (C, oC) :: (D, lst ys) :: news) → Off3 I C D news → ((@Ne Nat I C) ∧ (@Ne Nat I D) ∧ (@Ne Nat C D)) →
      wpAny (model prog w) A (eval elt (compEnvC scope cl C env)) (PEnd h₀ L m s I oI C oC D (lst ys) (fun y news' => J (i + 1) (ys ++ [y]) news')) E' { s with heap := h, toks := tk, drawn := d }) ∧
    (∀ ys news D h tk d, J vs.length ys news → Fr h₀ L h m → News h₀ L h ((D, lst ys) :: news) → Off1 D news → Q (.ref D) { s with heap := h, toks := tk, drawn := d })

section
variable {prog : Program} {w : World} {A : Around} {E : Value → Shared → Prop} {s : Shared} {h₀ : Heap} {L : Addr} {m : Str → Option Value} {env : Env}
theorem pairs_block {elt iter : PySem.Expr} {a b : Str} {pa pb tp : Pos} {kk : Nat} {scope : Scope} {cl : List (Str × Addr)} {pos : Pos} {s₂ : Shared} {I l : Addr} {vs : List Value} {news : List (Addr × Obj)} {J : Nat → List Value → List (Addr × Obj) → Prop} {RR : Value → Addr → Result → Shared → Prop}
    (hh : A.handled = none) (hsz : vs.length ≤ sizeLine) (hit : s₂.heap.IsListIter I l 0)
    (hlist : ∀ i ys news, J i ys news → ∃ o, (l, o) ∈ news ∧ o.cls = .type "list" ∧ ∃ n, o.data = .seq vs.toArray n)
    (htup : ∀ (i : Nat) v ys news, vs[i]? = some v → J i ys news → ∃ T x y, v = Value.ref T ∧ ∃ o, (T, o) ∈ news ∧ ∀ h : Heap, h.get? T = some o → h.IsTuple T #[x, y])
    (hcell : ∀ y ∈ scope.names, y.2 ≠ .cell) (hkind : scope.kind = .function) (hxa : scope.names.lookup a = some .local) (hxb : scope.names.lookup b = some .local) (hab : ¬ a = b)
    (F : Fr h₀ L s₂.heap m) (N : News h₀ L s₂.heap news) (hIL : L ≠ I) (hI₀ : h₀.get? I = none) (off : ∀ p ∈ news, p.1 ≠ I) (hj : J 0 [] news)
    (turn : ∀ i T x y ys news I oI C oC D m₂ h tk d (E' : Value → Shared → Prop), vs[i]? = some (.ref T) → h.IsTuple T #[x, y] → J i ys news → ys.length = i → NsObj oC m₂ → m₂ a = some x → m₂ b = some y → Fr h₀ L h m → News h₀ L h ((I, oI) :: (C, oC) :: (D, lst ys) :: news) → Off3 I C D news → ((@Ne Nat I C) ∧ (@Ne Nat I D) ∧ (@Ne Nat C D)) →
      wpAny (model prog w) A (eval elt (compEnvC scope cl C env)) (PEnd h₀ L m s₂ I oI C oC D (lst ys) (fun y news' => J (i + 1) (ys ++ [y]) news')) E' { s₂ with heap := h, toks := tk, drawn := d })
    (hRR : ∀ D C h tk d m' ys news', Fr h₀ L h m → News h₀ L h ((D, lst ys) :: news') → Off1 D news' → h.Ns C m' → h₀.get? C = none → h₀.get? D = none → C ≠ L → D ≠ L → C ≠ D → (∀ p ∈ news', p.1 ≠ C) → J vs.length ys news' → RR (.ref D) C (.ok .next) { s₂ with heap := h, toks := tk, drawn := d }) :
    wpAny (model prog w) A (newList []) (fun acc s₃ => wpAny (model prog w) A (newFunctionEnv scope env.globals cl [] env.qual none .none (some env)) (fun cenv s₄ =>
      codeAny (model prog w) A (.compStart (.ListComp elt [⟨.Tuple [.Name a pa, .Name b pb] kk tp, iter, [], 0⟩] scope pos) 0 (.ref I) acc { cenv with scope := relabel scope env }) (RR acc cenv.locals) s₄) E s₃) E s₂ := by
  refine wpAny_newObj_type (wpAny_newFunctionEnv hcell (by intro y hy; simp at hy) (fun h₁ hns₁ hsb₁ => ?_) hkind)
  dsimp only at hns₁ hsb₁ ⊢
  generalize hH2 : s₂.heap.push { cls := .type "list", dict := none, data := .seq ([] : List Value).toArray } = H2 at hns₁ hsb₁ ⊢
  have hC : H2.objs.size = s₂.heap.objs.size + 1 := by rw [← hH2, Heap.size_push]
  have hDC : s₂.heap.objs.size ≠ H2.objs.size := by rw [hC]; exact Nat.ne_of_lt (Nat.lt_succ_self _)
  have below : ∀ b, b < s₂.heap.objs.size → b ≠ H2.objs.size ∧ b ≠ s₂.heap.objs.size := fun b hb => ⟨by rw [hC]; exact Nat.ne_of_lt (Nat.lt_succ_of_lt hb), Nat.ne_of_lt hb⟩
  have hIlt : I < s₂.heap.objs.size := by obtain ⟨o, e, _⟩ := hit; exact Heap.lt_size e
  have old : ∀ b o, s₂.heap.get? b = some o → h₁.get? b = some o := fun b o e => hsb₁.extBut b o (below b (Heap.lt_size e)).1 (Heap.get?_push_of_some _ (hH2 ▸ Heap.get?_push_of_some _ e))
  have hacc : h₁.get? s₂.heap.objs.size = some (lst []) := hsb₁.extBut _ _ hDC (Heap.get?_push_of_some _ (hH2 ▸ Heap.get?_push_size _ rfl))
  have hit₁ : h₁.IsListIter I l 0 := by obtain ⟨o, e, r⟩ := hit; exact ⟨o, old _ _ e, r⟩
  have fresh : ∀ a, s₂.heap.objs.size ≤ a → s₂.heap.get? a = none := fun a ha => by
    cases e : s₂.heap.get? a with
    | none => rfl
    | some o' => exact absurd (Heap.lt_size e) (Nat.not_lt.mpr ha)
  have fresh₀ : ∀ a, s₂.heap.objs.size ≤ a → h₀.get? a = none := fun a ha => by
    cases e : h₀.get? a with
    | none => rfl
    | some o' => have := F.keep a o' e; rw [fresh a ha] at this; cases this
  have hD₀ : h₀.get? s₂.heap.objs.size = none := fresh₀ _ (Nat.le_refl _)
  have hC₀ : h₀.get? H2.objs.size = none := fresh₀ _ (by rw [hC]; exact Nat.le_succ _)
  have hLlt : L < s₂.heap.objs.size := F.ns.lt
  have hDL : s₂.heap.objs.size ≠ L := Ne.symm (below L hLlt).2
  have hCL : H2.objs.size ≠ L := Ne.symm (below L hLlt).1
  have hCI : I ≠ H2.objs.size := (below I hIlt).1
  have hDI : I ≠ s₂.heap.objs.size := (below I hIlt).2
  have off₀ : Off3 I H2.objs.size s₂.heap.objs.size news := Off3.of fun p hp => ⟨off p hp, (below _ (Heap.lt_size (N p hp).1)).1, (below _ (Heap.lt_size (N p hp).1)).2⟩
  have loop : ∀ s₃ : Shared, s₃ = { s₂ with heap := h₁, toks := s₂.toks + ([] : List (Str × Value)).length } →
      codeAny (model prog w) A (.compLoop (.ListComp elt [⟨.Tuple [.Name a pa, .Name b pb] kk tp, iter, [], 0⟩] scope pos) 0 (.ref I) (.ref s₂.heap.objs.size) (compEnvC scope cl H2.objs.size env))
        (RR (.ref s₂.heap.objs.size) H2.objs.size) s₃ := by
    rintro s₃ rfl
    refine kcp_loop
      (fun k s' => ∃ h' tk d i ys m' news', s' = { s₂ with heap := h', toks := tk, drawn := d } ∧ i ≤ vs.length ∧ k = vs.length + 1 - i ∧ ys.length = i ∧ h'.IsListIter I l i ∧ Fr h₀ L h' m ∧ h'.Ns H2.objs.size m' ∧
        News h₀ L h' ((s₂.heap.objs.size, lst ys) :: news') ∧ Off3 I H2.objs.size s₂.heap.objs.size news' ∧ J i ys news') ?_ (vs.length + 1)
      ⟨h₁, _, s₂.drawn, 0, [], _, news, rfl, Nat.zero_le _, rfl, rfl, hit₁, F.keeps old, hns₁, fun p hp => ?_, off₀, hj⟩
    · rintro k s' ⟨h', tk, d, i, ys, m', news', rfl, hi, rfl, hyl, hit', F', hn', N', off', hJ⟩
      have off3 := off'.mem
      obtain ⟨ol, hlm, hlc, nl, hld⟩ := hlist i ys news' hJ
      have hl' : h'.IsList l vs.toArray := ⟨ol, (N' _ (List.mem_cons_of_mem _ hlm)).1, hlc, nl, hld⟩
      by_cases hlt : i < vs.length
      · have hv : vs[i]? = some vs[i] := List.getElem?_eq_getElem hlt
        obtain ⟨T, x, y, hvT, oT, hTm, hTT⟩ := htup i _ ys news' hv hJ
        rw [hvT] at hv
        refine wpAny_pyNext_list_item (x := .ref T) hit' hl' (by simpa using hv) fun h₃ hit₃ hs₃ => ?_
        dsimp only
        refine letOwned_list hit₃ ?_
        have up₃ : ∀ c o, c ≠ I → h'.get? c = some o → h₃.get? c = some o := fun c o hc e => (hs₃.2 c hc).trans e
        have hT₃ : h₃.get? T = some oT := up₃ _ _ (off3 _ hTm).1 (N' _ (List.mem_cons_of_mem _ hTm)).1
        refine kcp_assign (s := { s₂ with heap := h₃, toks := tk, drawn := d }) (env := compEnvC scope cl H2.objs.size env) hh (hTT _ hT₃) (lookup_relabel_local hxa) (lookup_relabel_local hxb) (by simp [compEnvC, relabel, hkind]) (hn'.at' fun o e => up₃ _ o (Ne.symm hCI) e) fun h₄ tk₄ hn₄ hs₄ => ?_
        have up : ∀ c o, c ≠ I → c ≠ H2.objs.size → h'.get? c = some o → h₄.get? c = some o := fun c o h1 h2 e => hs₄ c o h2 (up₃ c o h1 e)
        obtain ⟨oI, hoI₃, hcI, hdI⟩ := hit₃
        have heI : h₄.get? I = some oI := hs₄ I _ hCI hoI₃
        obtain ⟨oC, heC, hoC⟩ := ns_obj hn₄
        have F₄ : Fr h₀ L h₄ m := ⟨F'.ns.at' fun o e => up _ o hIL (Ne.symm hCL) e, fun c o e => up c o (fun q => by rw [q, hI₀] at e; cases e) (fun q => by rw [q, hC₀] at e; cases e) (F'.keep c o e), F'.above⟩
        have N₄ : News h₀ L h₄ ((I, oI) :: (H2.objs.size, oC) :: (s₂.heap.objs.size, lst ys) :: news') := fun q hq => by
          rcases List.mem_cons.mp hq with rfl | hq
          · exact ⟨heI, Ne.symm hIL, hI₀⟩
          · rcases List.mem_cons.mp hq with rfl | hq
            · exact ⟨heC, hCL, hC₀⟩
            · have z := N' q hq
              refine ⟨up _ _ ?_ ?_ z.1, z.2⟩
              · rcases List.mem_cons.mp hq with rfl | hq
                · exact Ne.symm hDI
                · exact (off3 q hq).1
              · rcases List.mem_cons.mp hq with rfl | hq
                · exact hDC
                · exact (off3 q hq).2.1
        have hT₄ : h₄.IsTuple T #[x, y] := hTT _ (N₄ _ (List.mem_cons_of_mem _ (List.mem_cons_of_mem _ (List.mem_cons_of_mem _ hTm)))).1
        refine wpAny_mono (turn i T x y ys news' I oI H2.objs.size oC s₂.heap.objs.size _ h₄ _ d _ hv hT₄ hJ hyl hoC (by simp [hab]) (by simp) F₄ N₄ off' ⟨hCI, hDI, Ne.symm hDC⟩) (fun y s₅ h₅ => ?_) fun _ _ e => e
        obtain ⟨h₅, tk₅, d₅, news₅, rfl, F₅, N₅, off₅, hJ₅⟩ := h₅
        have zI := (N₅ (I, oI) List.mem_cons_self).1
        have zC := (N₅ (H2.objs.size, oC) (List.mem_cons_of_mem _ List.mem_cons_self)).1
        have zD := (N₅ (s₂.heap.objs.size, lst ys) (List.mem_cons_of_mem _ (List.mem_cons_of_mem _ List.mem_cons_self))).1
        have N₅' : News h₀ L h₅ news₅ := fun q hq => N₅ q (List.mem_cons_of_mem _ (List.mem_cons_of_mem _ (List.mem_cons_of_mem _ hq)))
        refine append_at (hsz := by show ys.toArray.size ≤ sizeLine; rw [List.size_toArray, hyl]; exact Nat.le_trans hi hsz) zD fun h₆ hs₆ hD₆ => ?_
        have off5 := off₅.mem
        refine ⟨vs.length + 1 - (i + 1), by omega, h₆, tk₅, d₅, i + 1, ys ++ [y], _, news₅, rfl, hlt, rfl, by rw [List.length_append, List.length_singleton, hyl], ⟨oI, hs₆.extBut I oI hDI zI, hcI, hdI⟩, F₅.change hs₆ hDL hD₀,
          (hoC.ns zC).sameBut hs₆ (Ne.symm hDC), fun q hq => ?_, off₅, hJ₅⟩
        rcases List.mem_cons.mp hq with rfl | hq
        · exact ⟨hD₆.trans (congrArg some (lst_snoc ys y)), hDL, hD₀⟩
        · exact ⟨hs₆.extBut _ _ (off5 q hq).2.2 (N₅' q hq).1, (N₅' q hq).2⟩
      · have hin : i = vs.length := Nat.le_antisymm hi (Nat.not_lt.mp hlt)
        subst hin
        refine wpAny_pyNext_list_end hh hit' hl' (by simp) fun h₂ he₂ => ?_
        have hk₂ : ∀ c o, c ∉ [I] → h'.get? c = some o → h₂.get? c = some o := fun c o hc e => he₂ c o (fun q => hc (List.mem_singleton.mpr q)) e
        exact hRR _ _ h₂ tk d _ ys news' (fr_but F' hk₂ hIL hI₀) (news_but N' hk₂ fun p hp => by
          rcases List.mem_cons.mp hp with rfl | hp
          · exact Ne.symm hDI
          · exact (off3 p hp).1) off'.one (hn'.at' fun o e => hk₂ _ o (by simpa using Ne.symm hCI) e) hC₀ hD₀ hCL hDL (Ne.symm hDC) (fun p hp => (off3 p hp).2.1) hJ
    · rcases List.mem_cons.mp hp with rfl | hp
      · exact ⟨hacc, hDL, hD₀⟩
      · exact ⟨old _ _ (N p hp).1, (N p hp).2⟩
  exact codeAny_compStart_list (loop _ rfl) (wpAny_pyIter_listiter hit₁ (loop _ rfl))

theorem comp_pairs {elt iter : PySem.Expr} {a b : Str} {pa pb tp : Pos} {kk : Nat} {scope : Scope} {cl : List (Str × Addr)} {pos : Pos} {Q : Value → Shared → Prop} (Fu : Fr h₀ L s.heap m)
    (hclos : closureFor scope env = pure cl) (hcell : ∀ y ∈ scope.names, y.2 ≠ .cell) (hkind : scope.kind = .function)
    (hnames : ∀ y ∈ scope.names, y.2 = .local → scope.names.lookup y.1 = some .local) (hxa : scope.names.lookup a = some .local) (hxb : scope.names.lookup b = some .local) (hab : ¬ a = b)
    (h : wpAny (model prog w) A (eval iter env) (PairSrc prog w A h₀ L m env elt a b scope cl Q) E s)
    (hs : ∀ x, foldedSetIterable iter env x = pure x := by intro _; rfl) :
    wpAny (model prog w) A (eval (.ListComp elt [⟨.Tuple [.Name a pa, .Name b pb] kk tp, iter, [], 0⟩] scope pos) env) Q E s := by
  rw [eval_ListComp]
  refine wpAny_comprehension_free (use := none) rfl hs hclos hkind hnames (wpAny_mono h (fun xv s₁ h₁ => ?_) fun _ _ e => e)
  obtain ⟨l, vs, news₀, J, rfl, hh, F, N, hj, hsz, hlist, htup, turn, done⟩ := h₁
  obtain ⟨ol, hlm, hlc, nl, hld⟩ := hlist 0 [] news₀ hj
  have hls : s₁.heap.IsList l vs.toArray := ⟨ol, (N _ hlm).1, hlc, nl, hld⟩
  refine wpAny_pyIter_list hls ?_
  refine pairs_block hh hsz ⟨_, Heap.get?_push_size _ rfl, rfl, rfl⟩ hlist htup hcell hkind hxa hxb hab (F.push _) (fun p hp => ⟨Heap.get?_push_of_some _ (N p hp).1, (N p hp).2⟩) (Nat.ne_of_lt F.ns.lt) (next_is_new F) (fun p hp => Nat.ne_of_lt (Heap.lt_size (N p hp).1)) hj turn ?_
  intro D C h tk d m' ys news' F' N' o1 hn hC₀ hD₀ hCL hDL hCD offC hJ
  refine ⟨m', hn, fun h'' hs'' => done ys news' D h'' tk d hJ (F'.change hs'' hCL hC₀) (fun p hp => ?_) o1⟩
  refine ⟨hs''.extBut _ _ ?_ (N' p hp).1, (N' p hp).2⟩
  rcases List.mem_cons.mp hp with rfl | hp
  · exact Ne.symm hCD
  · exact offC p hp
end
end Mine

namespace Mine
set_option maxHeartbeats 8000000
theorem names_turn {w : World} {A : Around} {s : Shared} {Q E : Value → Shared → Prop} {mean : ExcName → Option Value} {mg mb : Str → Option Value} {h₀ : Heap} {L : Addr} {m : Str → Option Value} (pre rest : List (Addr × Obj)) {x dx aS aL aI : Addr} {oS oI : Obj} {t1 t2 t3 : Tok} {vd : List Value} {nD : Nat} {ms ds : List Str} {ig : Str → Option Bool} {n : Nat} {name : Str} {path : Option Str} {pv : Value} {tn : Tok} :
    (hd.heap_39 w.params).In h₀ → Top hd.view_39 (looseW hd.view_39 []) mean mg mb h₀ → Fr h₀ L s.heap m → News h₀ L s.heap (pre ++ (aI, oI) :: rest) → (∀ p ∈ pre ++ rest, p.1 ≠ aI) → (aI == sysModules) = false → A.handled = none → A.depth + 5 < recursionLimit → A.units + 80 < cLine →
    (x, instObj 79 dx) ∈ rest → (dx, dictOf (ignEs w.params t1 t2 t3 aS aL aI) 3) ∈ rest → (aS, oS) ∈ rest → (aL, W.listOf vd.toArray nD) ∈ rest → SetUse Challenge.rw_ki0097_01.row.prog w oS (fun k => decide (k ∈ ms)) → (∀ x ∈ ms, TOk 64 x) → StrsAre vd ds → (∀ x ∈ ds, TOk 64 x) → TOk 64 name → PathV 64 path pv → TabOk w oI ig n → n ≤ 100000 →
    (∀ t' h' tk' d' oI', Fr h₀ L h' m → News h₀ L h' (pre ++ (aI, oI') :: rest) → TabOk w oI' (fun z => if z = name then some ((ig name).getD (hitB ms ds (name, path))) else ig z) (n + 1) →
      Q (.int (bI ((ig name).getD (hitB ms ds (name, path)))) t') { s with heap := h', toks := tk', drawn := d' }) →
    wpAny (model Challenge.rw_ki0097_01.row.prog w) A (call (.ref 76) [.ref x, pv, .str name tn]) Q E s := by
  intro X T F N hno hlo hh hroom hun mx mdx mS mL hU hms hvd hds hname hp htab hn hret
  have nI := N (aI, oI) (List.mem_append_right _ (List.Mem.head _))
  have up : ∀ b o, b ≠ aI → s.heap.get? b = some o → (hideAll s.heap [aI]).get? b = some o := fun b o hb e => hideAll_get _ e (fun q => hb (List.mem_singleton.mp q))
  have up0 : ∀ b o, h₀.get? b = some o → (hideAll s.heap [aI]).get? b = some o := fun b o e => up b o (fun q => by rw [q, nI.2.2] at e; cases e) (F.keep b o e)
  have inR : ∀ p ∈ rest, (hideAll s.heap [aI]).get? p.1 = some p.2 := fun p hp => up _ _ (hno p (List.mem_append_right _ hp)) (N p (List.mem_append_right _ (List.mem_cons_of_mem _ hp))).1
  obtain ⟨oL, e1, e2, hoL, rL⟩ := id F.ns
  refine names_spec (g := hideAll s.heap [aI]) (fun b o e => of_hideAll _ e) (Nat.le_of_eq (hideAll_size _ _)) nI.1 (hideAll_none _ (by simp)) hlo (X.keeps up0) (T.keeps up0) hh hroom hun ⟨dx, t1, t2, t3, inR _ mx, inR _ mdx⟩ (inR _ mS) hU hms ⟨_, inR _ mL, rfl, _, rfl⟩ hvd hds hname hp htab hn ?_
  intro t' h' tk' d' oI' hk hg' htab'
  refine hret t' h' tk' d' oI' ⟨⟨oL, e1, e2, hk _ _ (up _ _ (Ne.symm nI.2.1) hoL), rL⟩, fun b o e => hk b o (up0 b o e), F.above⟩ (fun p hp => ?_) htab'
  rcases List.mem_append.mp hp with hp' | hp'
  · have z := N p (List.mem_append_left _ hp')
    exact ⟨hk _ _ (up _ _ (hno p (List.mem_append_left _ hp')) z.1), z.2⟩
  · rcases List.mem_cons.mp hp' with rfl | hp'
    · exact ⟨hg', nI.2⟩
    · exact ⟨hk _ _ (inR p hp'), (N p (List.mem_append_right _ (List.mem_cons_of_mem _ hp'))).2⟩
end Mine

namespace Mine
set_option maxHeartbeats 8000000
local macro_rules | `(tactic| walk_at "stop") => `(tactic| ((fail_if_success (with_reducible show wpAny _ _ (eval (PySem.Expr.BoolOp _ _ _) _) _ _ _)); (fail_if_success (with_reducible show wpAny _ _ (exec (Stmt.Assign _ (PySem.Expr.ListComp _ _ _ _) _) _) _ _ _)); (fail_if_success (with_reducible show wpAny _ _ (eval (PySem.Expr.ListComp _ _ _ _) _) _ _ _)); (fail_if_success (with_reducible show wpAny _ _ (truthy (Value.ref _)) _ _ _)); (fail_if_success (with_reducible show wpAny _ _ (subscriptTail _ _ _ _) _ _ _)); (fail_if_success (with_reducible show wpAny _ _ (pyIter _) _ _ _)); (fail_if_success (with_reducible show wpAny _ _ (call (Value.ref _) _) _ _ _)); (fail_if_success (with_reducible show wpAny _ _ (binaryOp _ (Value.ref _) (Value.ref _)) _ _ _)); (fail_if_success (with_reducible show wpAny _ _ (compareOp _ (Value.ref _) (Value.ref _)) _ _ _)); (fail_if_success (with_reducible show wpAny _ _ (call (Value.builtin "len") _) _ _ _)); (fail_if_success (with_reducible show wpAny _ _ (call (Value.type "str") _) _ _ _)); (fail_if_success (with_reducible show wpAny _ _ (call (Value.builtin "list.append") _) _ _ _)); (fail_if_success (with_reducible show LCt.CompSrcT _ _ _ _ _ _ _ _ _ _ _ _ _ _ _)); (fail_if_success (with_reducible show LCg.CompSrc _ _ _ _ _ _ _ _ _ _ _ _ _ _)); (fail_if_success (with_reducible show LCg.CompEnd _ _ _ _ _ _ _ _ _ _ _ _ _ _))))
local macro_rules | `(tactic| walk_at "mine") => `(tactic| repeat' (first | (k_unfold; (try dsimp only)) | (walk_at "stop"; walk1) | (walk_at "stop"; dsimp only; walk1)))
def NumsEnd (h₀ : Heap) (L : Addr) (m : Str → Option Value) (news : List (Addr × Obj)) (s : Shared) (v : Value) (s' : Shared) : Prop :=
  ∃ l h' tk vs ns, v = .ref l ∧ s' = { s with heap := h', toks := tk } ∧ Fr h₀ L h' m ∧ News h₀ L h' news ∧ h'.IsList l vs.toArray ∧ IntsAre vs ns ∧ ns.length ≤ 63
theorem NumsEnd.intro {h₀ : Heap} {L : Addr} {m : Str → Option Value} {news news' : List (Addr × Obj)} {s : Shared} {l : Addr} {h' : Heap} {tk : Nat} {vs : List Value} {ns : List Int} (F : Fr h₀ L h' m) (N : News h₀ L h' news') (hn : ∀ p ∈ news, p ∈ news') (hl : h'.IsList l vs.toArray) (hi : IntsAre vs ns) (hb : ns.length ≤ 63) :
    NumsEnd h₀ L m news s (.ref l) { s with heap := h', toks := tk } := ⟨l, h', tk, vs, ns, rfl, rfl, F, fun p hp => N p (hn p hp), hl, hi, hb⟩
theorem nums_cut {M : Model} {A : Around} {x : Sem Value} {Q E : Value → Shared → Prop} {s : Shared} {h₀ : Heap} {L : Addr} {m : Str → Option Value} {news : List (Addr × Obj)} (Fu : Fr h₀ L s.heap m) (Nu : News h₀ L s.heap news) (p1 : wpAny M A x (NumsEnd h₀ L m news s) E s)
    (p2 : ∀ l h' tk vs ns, Fr h₀ L h' m → News h₀ L h' news → h'.IsList l vs.toArray → IntsAre vs ns → ns.length ≤ 63 → Q (.ref l) { s with heap := h', toks := tk }) : wpAny M A x Q E s :=
  wpAny_mono p1 (fun v s' hv => by obtain ⟨l, h', tk, vs, ns, rfl, rfl, F', N', hl, hi, hb⟩ := hv; exact p2 l h' tk vs ns F' N' hl hi hb) (fun _ _ e => e)
theorem ints_item {vs : List Value} {ns : List Int} (h : IntsAre vs ns) {i : Nat} {v : Value} (hv : vs[i]? = some v) : ∃ n t, v = Value.int n t := by
  have hi : i < ns.length := by rw [← h.length]; exact (List.getElem?_eq_some_iff.mp hv).1
  obtain ⟨t, ht⟩ := h.get i _ (List.getElem?_eq_getElem hi)
  rw [hv] at ht
  exact ⟨_, t, Option.some.inj ht⟩
theorem texts_are {n : Nat} : ∀ (ys : List Value), (∀ y ∈ ys, IsText n y) → ∃ zs : List Str, StrsAre ys zs ∧ zs.length = ys.length ∧ ∀ z ∈ zs, TOk n z
  | [], _ => ⟨[], .nil, rfl, by simp⟩
  | y :: r, h => by
    obtain ⟨zs, h1, h2, h3⟩ := texts_are r (fun z hz => h z (List.mem_cons_of_mem _ hz))
    obtain ⟨x, t, rfl, hx⟩ := h y List.mem_cons_self
    refine ⟨x :: zs, .cons x t h1, by simp [h2], ?_⟩
    intro z hz
    rcases List.mem_cons.mp hz with rfl | hz
    · exact hx
    · exact h3 z hz
theorem snoc_len {α : Type} {l : List α} {x : α} {i : Nat} (h : l.length ≤ i) : (l ++ [x]).length ≤ i + 1 := by
  rw [List.length_append, List.length_singleton]
  exact Nat.succ_le_succ h
theorem snoc_text {n : Nat} {ys : List Value} {x : Str} {t : Tok} (h : ∀ y ∈ ys, IsText n y) (hx : TOk n x) : ∀ y ∈ ys ++ [.str x t], IsText n y := by
  intro y hy
  rcases List.mem_append.mp hy with q | q
  · exact h y q
  · exact ⟨x, t, List.mem_singleton.mp q, hx⟩
/-- one ask: its tuple, its name, its file -/
abbrev Rec := Addr × Str × Tok × Value
def pOf : Value → Option Str
  | .str y _ => some y
  | _ => none
def rV (r : Rec) : Value := .ref r.1
def rQ (r : Rec) : Str × Option Str := (r.2.1, pOf r.2.2.2)
def rO (r : Rec) : Addr × Obj := (r.1, tupO [.str r.2.1 r.2.2.1, r.2.2.2])
def ROk (r : Rec) : Prop := TOk 64 r.2.1 ∧ PathV 64 (pOf r.2.2.2) r.2.2.2
theorem pathV_of {p : Value} (h : p = Value.none ∨ IsText 64 p) : PathV 64 (pOf p) p := by
  rcases h with rfl | ⟨x, t, rfl, hx⟩
  · rfl
  · exact ⟨hx, t, rfl⟩
theorem ask_more {h₀ : Heap} {L : Addr} {h h9 : Heap} {m : Str → Option Value} {I C D : Addr} {oI oC oD : Obj} {known : List (Addr × Obj)} {rs : List Rec} (r : Rec) (F : Fr h₀ L h m)
    (P : News h₀ L h ((I, oI) :: (C, oC) :: (D, oD) :: (known ++ rs.map rO)) ∧ LCg.Off3 I C D (known ++ rs.map rO)) (st : h.StaysIn h9) (hn : h.get? r.1 = none) (hg : h9.get? r.1 = some (rO r).2) :
    News h₀ L h9 ((I, oI) :: (C, oC) :: (D, oD) :: (known ++ (rs ++ [r]).map rO)) ∧ LCg.Off3 I C D (known ++ (rs ++ [r]).map rO) := by
  obtain ⟨N, off⟩ := P
  have far : ∀ p ∈ (I, oI) :: (C, oC) :: (D, oD) :: (known ++ rs.map rO), r.1 ≠ p.1 := fun p hp e => by
    have := (N p hp).1
    rw [← e, hn] at this
    cases this
  have off' := off.mem
  constructor
  · intro p hp
    by_cases hr : p = rO r
    · subst hr
      refine ⟨hg, fun e => ?_, ?_⟩
      · obtain ⟨oL, _, _, hoL, _⟩ := id F.ns
        rw [show L = r.1 from e.symm, hn] at hoL
        cases hoL
      · show h₀.get? r.1 = none
        cases q : h₀.get? r.1 with
        | none => rfl
        | some o => rw [F.keep _ _ q] at hn; cases hn
    · have hp' : p ∈ (I, oI) :: (C, oC) :: (D, oD) :: (known ++ rs.map rO) := by
        simp only [List.map_append, List.map_cons, List.map_nil, List.mem_cons, List.mem_append, List.not_mem_nil, or_false] at hp ⊢
        rcases hp with h | h | h | h | h | h
        · exact Or.inl h
        · exact Or.inr (Or.inl h)
        · exact Or.inr (Or.inr (Or.inl h))
        · exact Or.inr (Or.inr (Or.inr (Or.inl h)))
        · exact Or.inr (Or.inr (Or.inr (Or.inr h)))
        · exact absurd h hr
      exact ⟨st _ _ (N p hp').1, (N p hp').2⟩
  · refine LCg.Off3.of fun p hp => ?_
    rw [List.map_append, ← List.append_assoc] at hp
    rcases List.mem_append.mp hp with hp | hp
    · exact off' p hp
    · rw [show p = rO r from by simpa using hp]
      exact ⟨far (I, oI) (by simp), far (C, oC) (by simp), far (D, oD) (by simp)⟩
theorem asks_four {h₀ : Heap} {L : Addr} {h : Heap} {aQ aJ D1 D2 D3 D4 aO : Addr} {oJ oO : Obj} {x1 x2 x3 x4 y1 y2 y3 y4 : Str} {t1 t2 t3 t4 u1 u2 u3 u4 : Tok} {known : List (Addr × Obj)} {rs : List Rec}
    (N : News h₀ L h ((aQ, W.listOf (rs.map rV ++ [Value.ref D1, Value.ref D2, Value.ref D3, Value.ref D4]).toArray 0) :: (aJ, oJ) :: (D4, tupO [.str x4 t4, .str y4 u4]) :: (D3, tupO [.str x3 t3, .str y3 u3]) :: (D2, tupO [.str x2 t2, .str y2 u2]) :: (D1, tupO [.str x1 t1, .str y1 u1]) :: (aO, oO) :: (known ++ rs.map rO)))
    (hrs : ∀ r ∈ rs, ROk r) (hl : rs.length ≤ 18) (h1 : TOk 64 x1) (h2 : TOk 64 x2) (h3 : TOk 64 x3) (h4 : TOk 64 x4) (g1 : TOk 64 y1) (g2 : TOk 64 y2) (g3 : TOk 64 y3) (g4 : TOk 64 y4) :
    ∃ R1 : List Rec, R1.length ≤ 22 ∧ (∀ r ∈ R1, ROk r) ∧ News h₀ L h ((aQ, W.listOf (R1.map rV).toArray 0) :: (known ++ R1.map rO)) := by
  refine ⟨rs ++ [(D1, x1, t1, .str y1 u1), (D2, x2, t2, .str y2 u2), (D3, x3, t3, .str y3 u3), (D4, x4, t4, .str y4 u4)], by simp only [List.length_append, List.length_cons, List.length_nil]; omega, ?_, ?_⟩
  · intro r hr
    rcases List.mem_append.mp hr with h | h
    · exact hrs r h
    · simp only [List.mem_cons, List.not_mem_nil, or_false] at h
      rcases h with rfl | rfl | rfl | rfl
      · exact ⟨h1, g1, _, rfl⟩
      · exact ⟨h2, g2, _, rfl⟩
      · exact ⟨h3, g3, _, rfl⟩
      · exact ⟨h4, g4, _, rfl⟩
  · intro p hp
    refine N p ?_
    simp only [List.map_append, List.map_cons, List.map_nil, List.mem_cons, List.mem_append, List.not_mem_nil, or_false, rV, rO] at hp ⊢
    rcases hp with h | h | h | h | h | h | h
    · exact Or.inl h
    · simp [h]
    · simp [h]
    · simp [h]
    · simp [h]
    · simp [h]
    · simp [h]
theorem ask_more2 {h₀ : Heap} {L : Addr} {h9 : Heap} {I C D : Addr} {oI oC oD : Obj} {known : List (Addr × Obj)} {rs : List Rec} (r : Rec) (N : News h₀ L h9 (rO r :: (I, oI) :: (C, oC) :: (D, oD) :: (known ++ rs.map rO)))
    (off : LCg.Off3 I C D (known ++ rs.map rO)) (hI : @Ne Nat r.1 I) (hC : @Ne Nat r.1 C) (hD : @Ne Nat r.1 D) :
    News h₀ L h9 ((I, oI) :: (C, oC) :: (D, oD) :: (known ++ (rs ++ [r]).map rO)) ∧ LCg.Off3 I C D (known ++ (rs ++ [r]).map rO) := by
  have off' := off.mem
  constructor
  · intro p hp
    refine N p ?_
    simp only [List.map_append, List.map_cons, List.map_nil, List.mem_cons, List.mem_append, List.not_mem_nil, or_false] at hp ⊢
    rcases hp with h | h | h | h | h | h <;> simp [h]
  · refine LCg.Off3.of fun p hp => ?_
    rw [List.map_append, ← List.append_assoc] at hp
    rcases List.mem_append.mp hp with hp | hp
    · exact off' p hp
    · rw [show p = rO r from by simpa using hp]
      exact ⟨hI, hC, hD⟩
section
variable {M : Model} {A : Around} {E : Value → Shared → Prop} {s : Shared} {h₀ : Heap} {L : Addr} {m : Str → Option Value} {rest : List (Addr × Obj)}
/-- a name of the block that closures read -/
theorem store_cell {env : Env} {x : Str} {c : Addr} {v : Value} {v₀ : Option Value} {o : Obj} {Q : Unit → Shared → Prop} (F : Fr h₀ L s.heap m) (N : News h₀ L s.heap ((c, o) :: rest)) (hd : o.data = .cell v₀) (hno : ∀ p ∈ rest, p.1 ≠ c ∨ ∀ v, p.2.data ≠ .cell v)
    (hk : env.scope.kind = .function) (hl : env.kindOf x = some .cell) (hc : env.cells.lookup x = some c)
    (h : ∀ h' o', Fr h₀ L h' m → News h₀ L h' ((c, o') :: rest) → o'.data = .cell (some v) → Q () { s with heap := h' }) : wpAny M A (storeName env x v) Q E s := by
  have hm := N (c, o) (List.Mem.head _)
  refine wpAny_storeName_cell hk hl hc ⟨o, hm.1, hd⟩ fun h' hv hs => ?_
  obtain ⟨o', ho', hd'⟩ := hv
  refine h h' o' (F.change hs hm.2.1 hm.2.2) (fun p hp => ?_) hd'
  rcases List.mem_cons.mp hp with rfl | hp
  · exact ⟨ho', hm.2⟩
  · have z := N p (List.mem_cons_of_mem _ hp)
    refine ⟨hs.extBut _ _ ?_ z.1, z.2⟩
    rcases hno p hp with q | q
    · exact q
    · intro e
      have z1 := z.1
      rw [e, hm.1] at z1
      exact q v₀ (by rw [← Option.some.inj z1]; exact hd)
end
theorem store_cell_at {M : Model} {A : Around} {E : Value → Shared → Prop} {s : Shared} {h₀ : Heap} {L : Addr} {m : Str → Option Value} (pre rest : List (Addr × Obj)) {env : Env} {x : Str} {c : Addr} {v : Value} {v₀ : Option Value} {o : Obj} {Q : Unit → Shared → Prop} (F : Fr h₀ L s.heap m) (N : News h₀ L s.heap (pre ++ (c, o) :: rest)) (hd : o.data = .cell v₀) (hno : ∀ p ∈ pre ++ rest, p.1 ≠ c ∨ ∀ v, p.2.data ≠ .cell v)
    (hk : env.scope.kind = .function) (hl : env.kindOf x = some .cell) (hc : env.cells.lookup x = some c)
    (h : ∀ h' o', Fr h₀ L h' m → News h₀ L h' (pre ++ (c, o') :: rest) → o'.data = .cell (some v) → Q () { s with heap := h' }) : wpAny M A (storeName env x v) Q E s := by
  refine store_cell F (rest := pre ++ rest) (fun p hp => N p ?_) hd hno hk hl hc fun h' o' F' N' d' => h h' o' F' (fun p hp => N' p ?_) d'
  · simp only [List.mem_cons, List.mem_append] at hp ⊢
    rcases hp with h | h | h <;> simp [h]
  · simp only [List.mem_cons, List.mem_append] at hp ⊢
    rcases hp with h | h | h <;> simp [h]
theorem tab_not_cell {w : World} {o : Obj} {ig : Str → Option Bool} {n : Nat} (h : TabOk w o ig n) : ∀ v, o.data ≠ .cell v := by
  obtain ⟨kvs, D, ⟨es, ep, _, e, _⟩, _⟩ := h
  intro v q
  rw [e] at q
  cases q
theorem set_not_cell {prog : Program} {w : World} {o : Obj} {S : Str → Bool} (h : SetUse prog w o S) : ∀ v, o.data ≠ .cell v := by
  obtain ⟨es, ep, t, _, e, _⟩ := h
  intro v q
  rw [e] at q
  cases q
theorem news_add {h₀ : Heap} {L : Addr} {h h' : Heap} {m : Str → Option Value} {news : List (Addr × Obj)} {a : Addr} {o : Obj} (F : Fr h₀ L h m) (N : News h₀ L h' news) (hn : h.get? a = none) (hg : h'.get? a = some o) : News h₀ L h' ((a, o) :: news) := by
  intro p hp
  rcases List.mem_cons.mp hp with rfl | hp
  · refine ⟨hg, fun e => ?_, ?_⟩
    · obtain ⟨oL, _, _, hoL, _⟩ := id F.ns
      rw [show L = a from e.symm, hn] at hoL
      cases hoL
    · show h₀.get? a = none
      cases q : h₀.get? a with
      | none => rfl
      | some o => rw [F.keep _ _ q] at hn; cases hn
  · exact N p hp
theorem news_pick {h₀ : Heap} {L : Addr} {h : Heap} {big rest : List (Addr × Obj)} {p : Addr × Obj} (N : News h₀ L h big) (hp : p ∈ big) (r : News h₀ L h rest) : News h₀ L h (p :: rest) := by
  intro q hq
  rcases List.mem_cons.mp hq with e | hq
  · rw [e]; exact N p hp
  · exact r q hq
theorem nodup_more {h : Heap} {new old : List Addr} (hn : new.Nodup) (ho : old.Nodup) (f : ∀ b ∈ new, h.get? b = none) (g : ∀ a ∈ old, ∃ o, h.get? a = some o) : (new ++ old).Nodup := by
  rw [List.nodup_append]
  refine ⟨hn, ho, fun b hb a ha e => ?_⟩
  obtain ⟨o, e2⟩ := g a ha
  rw [← e, f b hb] at e2
  cases e2
theorem nd_ne {l : List Addr} (h : l.Nodup) (i j : Nat) {a b : Addr} (hij : i ≠ j) (ha : l[i]? = some a) (hb : l[j]? = some b) : a ≠ b := by
  intro e
  subst e
  obtain ⟨hi, ea⟩ := List.getElem?_eq_some_iff.mp ha
  obtain ⟨hj, eb⟩ := List.getElem?_eq_some_iff.mp hb
  exact hij ((List.getElem_inj h).mp (ea.trans eb.symm))
local macro_rules | `(tactic| walk_at "no cell") => `(tactic| (intro p hp; (try simp only [List.cons_append, List.nil_append] at hp); (repeat' (rcases List.mem_cons.mp hp with hq | hp; (subst hq; first | exact Or.inr (by intro v e; cases e) | exact Or.inl (by show @Ne Nat _ _; dsimp only; omega) | exact Or.inr (tab_not_cell (by assumption)) | exact Or.inr (set_not_cell (by assumption))))); (have hq := List.mem_map.mp hp); (cases hq with | intro r hr => (cases hr with | intro h1 h2 => (subst h2; exact Or.inr (by intro v e; cases e))))))
theorem cell_not_dict {o : Obj} {v : Option Value} (h : o.data = .cell v) : ∀ es ep, o.data ≠ .dict es ep := by
  intro es ep e
  rw [h] at e
  cases e
theorem apart_tab {h₀ : Heap} {L : Addr} {h : Heap} {w : World} {aI : Addr} {oI : Obj} {rest : List (Addr × Obj)} {ig : Str → Option Bool} {n : Nat} (N : News h₀ L h ((aI, oI) :: rest)) (ht : TabOk w oI ig n) (hc : ∀ p ∈ rest, p.1 ≠ aI ∨ ∀ es ep, p.2.data ≠ .dict es ep) : ∀ p ∈ rest, p.1 ≠ aI := by
  intro p hp e
  rcases hc p hp with q | q
  · exact q e
  · have h1 := (N p (List.mem_cons_of_mem _ hp)).1
    have h2 := (N (aI, oI) (List.Mem.head _)).1
    rw [e, h2] at h1
    obtain ⟨kvs, D, ⟨es, ep, _, ed, _⟩, _⟩ := ht
    exact q es ep (by rw [← Option.some.inj h1]; exact ed)
theorem rec_at {R : List Rec} {i : Nat} {v : Value} (h : (R.map rV)[i]? = some v) : ∃ r, R[i]? = some r ∧ v = Value.ref r.1 := by
  rw [List.getElem?_map] at h
  cases e : R[i]? with
  | none => rw [e] at h; cases h
  | some r => rw [e] at h; exact ⟨r, rfl, (Option.some.inj h).symm⟩
/-- what a reader knows and has answered after so many asks -/
def stA (ms ds : List Str) (R : List Rec) (i : Nat) : (Str → Option Bool) × List Bool := ((R.take i).map rQ).foldl (stepD (hitB ms ds)) (ig0, [])
theorem stA_step (ms ds : List Str) {R : List Rec} {i : Nat} {r : Rec} (h : R[i]? = some r) : stA ms ds R (i + 1) = stepD (hitB ms ds) (stA ms ds R i) (rQ r) := by
  unfold stA
  rw [List.take_add_one, h, List.map_append, List.foldl_append]
  rfl
theorem stA_all (ms ds : List Str) (R : List Rec) : (stA ms ds R (R.map rV).length).2 = dueB ms ds (R.map rQ) := by
  unfold stA
  rw [List.length_map, List.take_length, due_answers]
  rfl
theorem digits_ok (l : List Bool) : AllOk (l.map digit) := by
  intro x hx
  obtain ⟨b, _, rfl⟩ := List.mem_map.mp hx
  cases b <;> decide +kernel
theorem asks_at {h₀ : Heap} {L : Addr} {h : Heap} {news : List (Addr × Obj)} {R : List Rec} (N : News h₀ L h news) (hs : ∀ p ∈ R.map rO, p ∈ news) (hR : ∀ r ∈ R, ROk r) : AsksAre h (R.map rV) (R.map rQ) := by
  refine ⟨by simp, fun i v hv => ?_⟩
  obtain ⟨r, hr, rfl⟩ := rec_at hv
  have hm := List.mem_of_getElem? hr
  refine ⟨rQ r, by rw [List.getElem?_map, hr]; rfl, r.1, r.2.2.1, r.2.2.2, rfl, ?_, (hR r hm).1, (hR r hm).2⟩
  exact ⟨_, (N (rO r) (hs _ (List.mem_map_of_mem hm))).1, rfl, _, rfl⟩
theorem law_post (ns : List Int) : Challenge.rw_ki0097_01.row.claim.post [ofPy (PyData.list (List.map PyData.int ns))] (WData.bool true) [ofPy (PyData.list (List.map PyData.int ns))] = true := by
  kc_post
theorem law_holds : PySem.Challenge.rw_ki0097_01.Holds := hd (by
  k_go0
  (all_goals try k_fold)
  rename_i w s₀ s₁ mg mb G Y fa o pm doc ho hg KX X V GL T B TE TW w13 w12 M w11 w10 hcd ns hs hlay0 hL1 hr1 hl2 w8 w7 aS vS w4 hL ra w1 r0 hI hr hc1 hc2 K0 hD h₁ tk₁ F c4 c3 c2 c1 e4 e3 e2 e1 N0 X0
  walk_at "mine"
  refine nums_cut F N0 ?p1 ?p2
  case p1 =>
    walk1
    walk_at "mine"
    have hS1 : h₁.IsList aS vS.toArray := hL.at fun o e => F.keep _ o e
    have hSl : vS.length = ns.length := hI.length
    have hn63 : ns.length ≤ 63 := by omega
    cases vS with
    | nil =>
      refine wpAny_truthy_list hS1 (by decide) ?_
      dsimp only
      refine ite_neg (by decide) ?_
      walk1
      walk_at "mine"
      refine NumsEnd.intro (by k_asm) (by k_asm) (fun p hp => List.mem_cons_of_mem _ hp) (News.isList (by k_asm) (by k_mem)) (ns := [0, 220, 5, 109, 38, 42, 74, 46, 2, 10, 66, 350]) ?_ (by decide)
      repeat constructor
    | cons v r =>
      refine wpAny_truthy_list hS1 (by rw [List.size_toArray]; omega) ?_
      dsimp only
      refine ite_pos (by simp) ?_
      exact NumsEnd.intro F N0 (fun p hp => hp) hS1 hI hn63
  case p2 =>
    clear F N0
    intro aN0 h2 tk2 vN0 ns0 F N hN hIN hlN
    dsimp only
    walk_at "mine"
    refine slice_upto (by k_asm) (by k_asm) hN (by decide) (by rw [hIN.length, sizeLine_eq]; omega) ?_
    intro aN h3 F3 N3 l3
    k_lt l3
    have hvN : IntsAre (vN0.take ((18 : Int).toNat)) (ns0.take 18) := hIN.take 18
    have hvl : (vN0.take ((18 : Int).toNat)).length ≤ 18 := List.length_take_le _ _
    generalize vN0.take ((18 : Int).toNat) = vN at *
    walk_at "mine"
    rename_i h4 F4 N4
    refine LCt.Assign_ListComp_T (F₀ := F4) (by rfl) (by with_unfolding_all rfl) (by with_unfolding_all rfl) (by decide) (by rfl) (by decide) (by rfl) (by rfl) (by rfl) ?_
    walk1
    refine LCt.CompSrcT.ledger rfl F4 N4 (List.Mem.head _) (by rw [List.size_toArray, sizeLine_eq]; omega) ?_
    intro g
    refine compRestT_ind (fun i ys news => news = _ ∧ ys.length ≤ i ∧ ∀ y ∈ ys, IsText 64 y) ?turn1 ?fin1 _ 0 [] _ (Nat.zero_add _) ⟨rfl, Nat.zero_le _, by simp⟩
    case turn1 =>
      rintro i ys news hi ⟨rfl, hlen, hys⟩ v I oI C oC D m₂ h tk E' hv hC hx F5 N5 off ne
      obtain ⟨n, t, rfl⟩ := ints_item hvN (by simpa using hv)
      walk_at "mine"
      · refine law_name_spec (KX.keeps F5.keep) (T.keeps F5.keep) rfl (by show 1 + claimMargin + 1 + 5 < recursionLimit; decide) ?_
        intro x9 t9 h9 tk9 st9 hx9
        (try k_unfold)
        exact LCg.CompEnd.intro (F5.keeps st9) (News.grown N5 st9) _ (fun p hp => hp) off (.inr ⟨_, List.Mem.head _, rfl, _, rfl⟩) ⟨rfl, snoc_len hlen, snoc_text hys hx9⟩
      · exact LCg.CompEnd.intro F5 N5 _ (fun p hp => hp) off (.inr ⟨_, List.Mem.head _, rfl, _, rfl⟩) ⟨rfl, Nat.le_succ_of_le hlen, hys⟩
    case fin1 =>
      rintro ys news ⟨rfl, hlen, hys⟩
      intro aM h tk F5 N5 off
      obtain ⟨ms, hms, hMl, hMok⟩ := texts_are ys hys
      rw [List.size_toArray] at hlen
      clear F4 N4 hys
      have offM : @Ne Nat aN aM := off.1
      clear off
      dsimp only
      walk_at "mine"
      refine LCt.Assign_ListComp_T (F₀ := F5) (by rfl) (by with_unfolding_all rfl) (by with_unfolding_all rfl) (by decide) (by rfl) (by decide) (by rfl) (by rfl) (by rfl) ?_
      walk1
      refine LCt.CompSrcT.ledger rfl F5 N5 (List.Mem.tail _ (List.Mem.head _)) (by rw [List.size_toArray, sizeLine_eq]; omega) ?_
      intro g
      refine compRestT_ind (fun i ys news => news = _ ∧ ys.length ≤ i ∧ ∀ y ∈ ys, IsText 64 y) ?turn2 ?fin2 _ 0 [] _ (Nat.zero_add _) ⟨rfl, Nat.zero_le _, by simp⟩
      case turn2 =>
        rintro i ys2 news hi ⟨rfl, hlen, hys⟩ v I oI C oC D m₂ h tk E' hv hC hx F5 N5 off ne
        obtain ⟨n, t, rfl⟩ := ints_item hvN (by simpa using hv)
        walk_at "mine"
        · refine law_path_spec (KX.keeps F5.keep) (T.keeps F5.keep) rfl (by show 1 + claimMargin + 1 + 5 < recursionLimit; decide) ?_
          intro x9 t9 h9 tk9 st9 hx9
          (try k_unfold)
          exact LCg.CompEnd.intro (F5.keeps st9) (News.grown N5 st9) _ (fun p hp => hp) off (.inr ⟨_, List.Mem.tail _ (List.Mem.head _), rfl, _, rfl⟩) ⟨rfl, snoc_len hlen, snoc_text hys hx9⟩
        · exact LCg.CompEnd.intro F5 N5 _ (fun p hp => hp) off (.inr ⟨_, List.Mem.tail _ (List.Mem.head _), rfl, _, rfl⟩) ⟨rfl, Nat.le_succ_of_le hlen, hys⟩
      case fin2 =>
        rintro yd news ⟨rfl, hlenD, hys⟩
        intro aD h tk F6 N6 off
        obtain ⟨ds, hds, hDl, hDok⟩ := texts_are yd hys
        rw [List.size_toArray] at hlenD
        clear F5 N5 hys
        simp only [LCg.Off1, and_true] at off
        dsimp only
        walk_at "mine"
        refine LCt.ListComp_T (F₀ := F6) (by with_unfolding_all rfl) (by decide) (by rfl) (by decide) (by rfl) ?_
        walk1
        refine LCt.CompSrcT.ledger rfl F6 N6 (by k_mem) (by rw [List.size_toArray, sizeLine_eq]; omega) ?_
        intro g
        have N6' := N6
        refine compRestT_ind (fun i ys news => ∃ rs : List Rec, ys = rs.map rV ∧ rs.length ≤ i ∧ (∀ r ∈ rs, ROk r) ∧ news = [(aD, _), (aM, _), (aN, _), (_, c4), (_, c3), (_, c2), (_, c1)] ++ rs.map rO) ?turn3 ?fin3 _ 0 [] _ (Nat.zero_add _) ⟨[], rfl, Nat.zero_le _, by simp, rfl⟩
        case turn3 =>
          rintro i ys3 news hi ⟨rs, rfl, hlen, hrs, rfl⟩ v I oI C oC D m₂ h tk E' hv hC hx F5 N5 off ne
          have P := And.intro N5 off
          simp only [LCg.Off3, and_true, List.cons_append, List.nil_append] at off N5
          obtain ⟨n, t, rfl⟩ := ints_item hvN (by simpa using hv)
          walk_at "mine"
          · refine law_ask_spec (KX.keeps F5.keep) (T.keeps F5.keep) rfl (by show 1 + claimMargin + 1 + 10 < recursionLimit; decide) ?_
            intro T9 x9 t9 p9 h9 tk9 st9 hT9 hx9 hp9 hg9
            have P9 := ask_more (T9, x9, t9, p9) F5 P st9 hT9 hg9
            (try k_unfold)
            refine LCg.CompEnd.intro (F5.keeps st9) P9.1 _ (fun p hp => hp) P9.2 (.inr ⟨_, List.mem_append_left _ (List.Mem.tail _ (List.Mem.tail _ (List.Mem.head _))), rfl, _, rfl⟩) ⟨rs ++ [(T9, x9, t9, p9)], by simp [rV], by simpa using hlen, ?_, rfl⟩
            intro r hr
            rcases List.mem_append.mp hr with h | h
            · exact hrs r h
            · rw [List.mem_singleton.mp h]
              exact ⟨hx9, pathV_of hp9⟩
          · exact LCg.CompEnd.intro F5 P.1 _ (fun p hp => hp) P.2 (.inr ⟨_, List.mem_append_left _ (List.Mem.tail _ (List.Mem.tail _ (List.Mem.head _))), rfl, _, rfl⟩) ⟨rs, rfl, Nat.le_succ_of_le hlen, hrs, rfl⟩
        case fin3 =>
          rintro yo news ⟨rs, rfl, hlenR, hrs, rfl⟩
          intro aO h tk F7 N7 offO
          rw [List.size_toArray] at hlenR
          clear F6 N6 N6'
          simp only [LCg.Off1, and_true, List.cons_append, List.nil_append] at offO N7
          dsimp only
          walk_at "mine"
          rename_i D1 g1 lt1 D2 g2 lt2 D3 g3 lt3 D4 g4 lt4 aJ g5 F8 N8 lt5
          refine add_two (vs := rs.map rV) (ws := [.ref D1, .ref D2, .ref D3, .ref D4]) F8 N8 ⟨_, (N8 (aO, _) (by k_mem)).1, rfl, _, rfl⟩ (News.isList N8 (by k_mem)) (by rw [sizeLine_eq, List.length_map]; simp only [List.length_cons, List.length_nil]; omega) ?_
          intro aQ h8 F9 N9 lt6
          k_lt lt6
          obtain ⟨R1, hR1l, hR1, N10⟩ := asks_four (known := [(aD, _), (aM, _), (aN, _), (_, c4), (_, c3), (_, c2), (_, c1)]) N9 hrs (by omega) (by decide +kernel) (by decide +kernel) (by decide +kernel) (by decide +kernel) (by decide +kernel) (by decide +kernel) (by decide +kernel) (by decide +kernel)
          simp only [List.cons_append, List.nil_append] at N10
          clear N8 N9 F8
          have N11 := fun p hp => N10 p ((List.Perm.mem_iff (List.perm_middle (a := (s₁.heap.objs.size + 1, c1)) (l₁ := [_, _, _, _, _, _, _]) (l₂ := R1.map rO))).mpr hp)
          change News _ _ _ (_ :: ([_, _, _, _, _, _, _] ++ R1.map rO)) at N11
          simp only [List.cons_append, List.nil_append] at N11
          clear N10
          refine store_cell F9 N11 e1 (by walk_at "no cell") (by rfl) (by rfl) (by with_unfolding_all rfl) ?_
          clear F9 N11
          intro h10 c1' F10 N10 e1'
          walk_at "mine"
          refine LCg.ListComp_U (F₀ := F10) (by with_unfolding_all rfl) (by decide) (by rfl) (by decide) (by rfl) ?_
          walk_at "mine"
          refine PyProof.Rows.len_list (News.isList (by k_asm) (by k_mem)) (by rw [List.size_toArray, List.length_map]; omega) ?_
          walk_at "mine"
          rename_i h11 tk11 t11 u11 v11 hr11 F11 N11 hk11
          rw [List.length_map] at hr11
          refine LCg.CompSrc.range (n := R1.length) rfl F11 N11 hr11 (small_one (by omega) (by omega) (by omega) (by omega)) (by rw [rangeSize_nat]; omega) (by rw [sizeLine_eq]; omega) ?_
          intro g
          refine compRest_ind (fun i yv news => ∃ rs2 : List Rec, yv = rs2.map rV ∧ rs2.length = i ∧ (∀ r ∈ rs2, ROk r) ∧ news = [(s₁.heap.objs.size + 1, c1'), (aQ, W.listOf (R1.map rV).toArray 0), (aD, LCg.lst yd), (aM, LCg.lst ys), (aN, W.listOf vN.toArray 0), (s₁.heap.objs.size + 1 + 1 + 1 + 1, c4), (s₁.heap.objs.size + 1 + 1 + 1, c3), (s₁.heap.objs.size + 1 + 1, c2)] ++ (R1 ++ rs2).map rO) ?turn4 ?fin4 _ 0 [] _ (Nat.zero_add _) ⟨[], rfl, rfl, by simp, by simp⟩
          case turn4 =>
            rintro i ys4 news hi ⟨rs2, rfl, hl2, hrs2, rfl⟩ v I oI C oC D m₂ h tk E' ⟨t0, rfl⟩ hC hx F N off ne
            have P := And.intro N off
            simp only [LCg.Off3, and_true, List.cons_append, List.nil_append] at off N
            have hget : ∀ r ∈ R1, h.get? r.1 = some (rO r).2 := fun r hr => (P.1 (rO r) (List.mem_cons_of_mem _ (List.mem_cons_of_mem _ (List.mem_cons_of_mem _ (List.mem_append_right _ (List.mem_map_of_mem (List.mem_append_left _ hr))))))).1
            clear F11 N11
            walk_at "mine"
            refine item_at (items := (R1.map rV).toArray) (News.isList (by k_asm) (by k_mem)) (by omega) (by omega) (v := .ref (R1[i]).1) (by simp [rV, hi]) ?_
            walk_at "mine"
            refine item_tupleT (l := [.str R1[i].2.1 R1[i].2.2.1, R1[i].2.2.2]) ⟨_, hget _ (List.getElem_mem _), rfl, _, rfl⟩ (by decide) (by decide) rfl rfl ?_
            walk_at "mine"
            refine item_neg (items := (R1.map rV).toArray) (News.isList (by k_asm) (by k_mem)) (by omega) (by rw [List.size_toArray, List.length_map]; omega) (by omega) (v := .ref (R1[R1.length - 1 - i]'(by omega)).1) ?ix ?_
            case ix =>
              rw [List.size_toArray, List.length_map, show (((-1 : Int) - (0 + (i : Int))) + (R1.length : Int)).toNat = R1.length - 1 - i from by omega, List.getElem?_toArray, List.getElem?_map, List.getElem?_eq_getElem (by omega)]
              rfl
            walk_at "mine"
            refine item_tupleT (l := [.str (R1[R1.length - 1 - i]'(by omega)).2.1 (R1[R1.length - 1 - i]'(by omega)).2.2.1, (R1[R1.length - 1 - i]'(by omega)).2.2.2]) ⟨_, hget _ (List.getElem_mem _), rfl, _, rfl⟩ (by decide) (by decide) rfl rfl ?_
            walk_at "mine"
            rename_i D9 h9 F9 N9 lt9
            have P9 := ask_more2 (rs := R1 ++ rs2) (known := [(s₁.heap.objs.size + 1, c1'), (aQ, W.listOf (R1.map rV).toArray 0), (aD, LCg.lst yd), (aM, LCg.lst ys), (aN, W.listOf vN.toArray 0), (s₁.heap.objs.size + 1 + 1 + 1 + 1, c4), (s₁.heap.objs.size + 1 + 1 + 1, c3), (s₁.heap.objs.size + 1 + 1, c2)])
              (D9, R1[i].2.1, R1[i].2.2.1, (R1[R1.length - 1 - i]'(by omega)).2.2.2) N9 P.2 (by show @Ne Nat D9 I; omega) (by show @Ne Nat D9 C; omega) (by show @Ne Nat D9 D; omega)
            refine LCg.CompEnd.intro F9 P9.1 _ (fun p hp => hp) P9.2 trivial ⟨rs2 ++ [(D9, R1[i].2.1, R1[i].2.2.1, (R1[R1.length - 1 - i]'(by omega)).2.2.2)], by simp [rV], by simp [hl2], ?_, by rw [List.append_assoc]; rfl⟩
            intro r hr
            rcases List.mem_append.mp hr with h | h
            · exact hrs2 r h
            · rw [List.mem_singleton.mp h]
              exact ⟨(hR1 _ (List.getElem_mem _)).1, (hR1 _ (List.getElem_mem _)).2⟩
          case fin4 =>
            rintro y4 news ⟨rs2, rfl, hl2, hrs2, rfl⟩
            intro aE h tk F12 N12 offE
            clear F11 N11
            simp only [LCg.Off1, and_true, List.cons_append, List.nil_append] at offE N12
            dsimp only
            walk_at "mine"
            refine add_two (vs := R1.map rV) (ws := rs2.map rV) F12 N12 (News.isList N12 (by k_mem)) ⟨_, (N12 (aE, _) (by k_mem)).1, rfl, _, rfl⟩ (by rw [sizeLine_eq, List.length_map, List.length_map]; omega) ?_
            intro aA h13 F13 N13 lt13
            rw [← List.map_append] at N13
            have hR : ∀ r ∈ R1 ++ rs2, ROk r := fun r hr => (List.mem_append.mp hr).elim (hR1 r) (hrs2 r)
            have hRl : (R1 ++ rs2).length ≤ 44 := by rw [List.length_append]; omega
            generalize R1 ++ rs2 = R at N13 hR hRl
            k_lt lt13
            clear F12 N12
            walk_at "mine"
            rename_i h14 F14 N14
            have N15 : News s₁.heap s₁.heap.objs.size h14 ((aA, W.listOf (R.map rV).toArray 0) :: (aD, LCg.lst yd) :: (aM, LCg.lst ys) :: (s₁.heap.objs.size + 1 + 1 + 1 + 1, c4) :: (s₁.heap.objs.size + 1 + 1 + 1, c3) :: (s₁.heap.objs.size + 1 + 1, c2) :: R.map rO) := by
              repeat (refine news_pick N14 (by k_mem) ?_)
              intro p hp
              refine N14 p ?_
              repeat (first | exact hp | apply List.mem_cons_of_mem)
            clear N14
            refine law_made_spec (KX.keeps F14.keep) (T.keeps F14.keep) rfl (by show 1 + claimMargin + 1 + 20 < recursionLimit; decide) (by show 4 + 3 + 120 < cLine; decide) ⟨_, (N15 (aM, _) (by k_mem)).1, rfl, _, rfl⟩ hms (by omega) ⟨_, (N15 (aD, _) (by k_mem)).1, rfl, _, rfl⟩ hds (by omega) ?_
            intro x1 dx1 aS1 aL1 aI1 oS1 oI1 t11 t12 t13 n1 h15 tk15 st15 nx1 ndx1 nS1 nL1 nI1 gx1 gdx1 gS1 gL1 gI1 hU1 htab1 hlo1 nod1
            have F15 := F14.keeps st15
            have N16 := news_add F14 (news_add F14 (news_add F14 (news_add F14 (news_add F14 (News.grown N15 st15) nI1 gI1) nL1 gL1) nS1 gS1) ndx1 gdx1) nx1 gx1
            clear F14 N15 nx1 ndx1 nS1 nL1 nI1 gx1 gdx1 gS1 gL1 gI1 st15
            walk_at "mine"
            refine law_made_spec (KX.keeps F15.keep) (T.keeps F15.keep) rfl (by show 1 + claimMargin + 1 + 20 < recursionLimit; decide) (by show 4 + 3 + 120 < cLine; decide) ⟨_, (N16 (aM, _) (by k_mem)).1, rfl, _, rfl⟩ hms (by omega) ⟨_, (N16 (aD, _) (by k_mem)).1, rfl, _, rfl⟩ hds (by omega) ?_
            intro x2 dx2 aS2 aL2 aI2 oS2 oI2 t21 t22 t23 n2 h16 tk16 st16 nx2 ndx2 nS2 nL2 nI2 gx2 gdx2 gS2 gL2 gI2 hU2 htab2 hlo2 nod2
            have F16 := F15.keeps st16
            have N17 := news_add F15 (news_add F15 (news_add F15 (news_add F15 (news_add F15 (News.grown N16 st16) nI2 gI2) nL2 gL2) nS2 gS2) ndx2 gdx2) nx2 gx2
            have nd2 : ([x2, dx2, aS2, aL2, aI2] ++ [x1, dx1, aS1, aL1, aI1]).Nodup := by
              refine nodup_more (h := h15) nod2 nod1 ?_ ?_
              · intro b hb
                simp only [List.mem_cons, List.not_mem_nil, or_false] at hb
                rcases hb with rfl | rfl | rfl | rfl | rfl <;> assumption
              · intro b hb
                simp only [List.mem_cons, List.not_mem_nil, or_false] at hb
                rcases hb with rfl | rfl | rfl | rfl | rfl
                · exact ⟨_, (N16 _ (List.Mem.head _)).1⟩
                · exact ⟨_, (N16 _ (List.Mem.tail _ (List.Mem.head _))).1⟩
                · exact ⟨_, (N16 _ (List.Mem.tail _ (List.Mem.tail _ (List.Mem.head _)))).1⟩
                · exact ⟨_, (N16 _ (List.Mem.tail _ (List.Mem.tail _ (List.Mem.tail _ (List.Mem.head _))))).1⟩
                · exact ⟨_, (N16 _ (List.Mem.tail _ (List.Mem.tail _ (List.Mem.tail _ (List.Mem.tail _ (List.Mem.head _)))))).1⟩
            clear F15 N16 nx2 ndx2 nS2 nL2 nI2 gx2 gdx2 gS2 gL2 gI2 st16 nod1 nod2
            walk_at "mine"
            refine ign_new0 KX F16 T N17 rfl (by show 1 + claimMargin + 1 + 10 < recursionLimit; decide) (by show 4 + 3 + 100 < cLine; decide) ?_
            intro h17 tk17 x3 dx3 aS3 aL3 aI3 oS3 oI3 t31 t32 t33 F17 N18 hU3 htab3 hlo3 nod3 hno3
            have nd3 : ([x3, dx3, aS3, aL3, aI3] ++ ([x2, dx2, aS2, aL2, aI2] ++ [x1, dx1, aS1, aL1, aI1])).Nodup := by
              rw [List.nodup_append]
              refine ⟨nod3, nd2, fun b hb a ha e => ?_⟩
              simp only [List.cons_append, List.nil_append, List.mem_cons, List.not_mem_nil, or_false] at ha
              rcases ha with rfl | rfl | rfl | rfl | rfl | rfl | rfl | rfl | rfl | rfl
              all_goals exact hno3 b hb (_, _) (by k_mem) e.symm
            clear F16 N17 nd2 nod3 hno3
            walk_at "mine"
            rename_i aT gT ltT h18 F18 N19
            have N20 : News s₁.heap s₁.heap.objs.size h18 ((s₁.heap.objs.size + 1 + 1, c2) :: (s₁.heap.objs.size + 1 + 1 + 1, c3) :: (s₁.heap.objs.size + 1 + 1 + 1 + 1, c4) ::
                (x1, instObj 79 dx1) :: (dx1, dictOf (ignEs w.params t11 t12 t13 aS1 aL1 aI1) 3) :: (aS1, oS1) :: (aL1, W.listOf yd.toArray n1) :: (aI1, oI1) ::
                (x2, instObj 79 dx2) :: (dx2, dictOf (ignEs w.params t21 t22 t23 aS2 aL2 aI2) 3) :: (aS2, oS2) :: (aL2, W.listOf yd.toArray n2) :: (aI2, oI2) ::
                (x3, instObj 79 dx3) :: (dx3, dictOf (ignEs w.params t31 t32 t33 aS3 aL3 aI3) 3) :: (aS3, oS3) :: (aL3, W.listOf #[] 0) :: (aI3, oI3) ::
                (aA, W.listOf (R.map rV).toArray 0) :: (aD, LCg.lst yd) :: (aM, LCg.lst ys) :: R.map rO) := by
              repeat (refine news_pick N19 (by k_mem) ?_)
              intro p hp
              refine N19 p ?_
              repeat (first | exact hp | apply List.mem_cons_of_mem)
            clear N19 ltT lt13
            refine store_cell_at [] _ F18 N20 e2 (by walk_at "no cell") (by rfl) (by rfl) (by with_unfolding_all rfl) ?_
            clear F18 N20
            intro h19 c2' F19 N20 e2'
            simp only [List.nil_append] at N20
            walk_at "mine"
            refine store_cell_at [_] _ F19 N20 e3 (by walk_at "no cell") (by rfl) (by rfl) (by with_unfolding_all rfl) ?_
            clear F19 N20
            intro h20 c3' F20 N20 e3'
            simp only [List.nil_append, List.cons_append] at N20
            walk_at "mine"
            refine store_cell_at [_, _] _ F20 N20 e4 (by walk_at "no cell") (by rfl) (by rfl) (by with_unfolding_all rfl) ?_
            clear F20 N20
            intro h21 c4' F21 N21 e4'
            simp only [List.nil_append, List.cons_append] at N21
            walk_at "mine"
            have N1a : News s₁.heap s₁.heap.objs.size h21 ((aI1, oI1) :: (s₁.heap.objs.size + 1 + 1, c2') :: (s₁.heap.objs.size + 1 + 1 + 1, c3') :: (s₁.heap.objs.size + 1 + 1 + 1 + 1, c4') :: (x1, instObj 79 dx1) :: (dx1, dictOf (ignEs w.params t11 t12 t13 aS1 aL1 aI1) 3) :: (aS1, oS1) :: (aL1, W.listOf yd.toArray n1) :: (x2, instObj 79 dx2) :: (dx2, dictOf (ignEs w.params t21 t22 t23 aS2 aL2 aI2) 3) :: (aS2, oS2) :: (aL2, W.listOf yd.toArray n2) :: (aI2, oI2) :: (x3, instObj 79 dx3) :: (dx3, dictOf (ignEs w.params t31 t32 t33 aS3 aL3 aI3) 3) :: (aS3, oS3) :: (aL3, W.listOf #[] 0) :: (aI3, oI3) :: (aA, W.listOf (R.map rV).toArray 0) :: (aD, LCg.lst yd) :: (aM, LCg.lst ys) :: R.map rO) := by
              repeat (refine news_pick N21 (by k_mem) ?_)
              intro p hp
              refine N21 p ?_
              repeat (first | exact hp | apply List.mem_cons_of_mem)
            have hr1 : ∀ p ∈ (s₁.heap.objs.size + 1 + 1, c2') :: (s₁.heap.objs.size + 1 + 1 + 1, c3') :: (s₁.heap.objs.size + 1 + 1 + 1 + 1, c4') :: (x1, instObj 79 dx1) :: (dx1, dictOf (ignEs w.params t11 t12 t13 aS1 aL1 aI1) 3) :: (aS1, oS1) :: (aL1, W.listOf yd.toArray n1) :: (x2, instObj 79 dx2) :: (dx2, dictOf (ignEs w.params t21 t22 t23 aS2 aL2 aI2) 3) :: (aS2, oS2) :: (aL2, W.listOf yd.toArray n2) :: (aI2, oI2) :: (x3, instObj 79 dx3) :: (dx3, dictOf (ignEs w.params t31 t32 t33 aS3 aL3 aI3) 3) :: (aS3, oS3) :: (aL3, W.listOf #[] 0) :: (aI3, oI3) :: (aA, W.listOf (R.map rV).toArray 0) :: (aD, LCg.lst yd) :: (aM, LCg.lst ys) :: R.map rO, p.1 ≠ aI1 := by
              refine apart_tab N1a htab1 ?_
              intro p hp
              repeat' (rcases List.mem_cons.mp hp with hq | hp; (subst hq; first | exact Or.inl (nd_ne nd3 0 14 (by decide) rfl rfl) | exact Or.inl (nd_ne nd3 1 14 (by decide) rfl rfl) | exact Or.inl (nd_ne nd3 2 14 (by decide) rfl rfl) | exact Or.inl (nd_ne nd3 3 14 (by decide) rfl rfl) | exact Or.inl (nd_ne nd3 4 14 (by decide) rfl rfl) | exact Or.inl (nd_ne nd3 5 14 (by decide) rfl rfl) | exact Or.inl (nd_ne nd3 6 14 (by decide) rfl rfl) | exact Or.inl (nd_ne nd3 7 14 (by decide) rfl rfl) | exact Or.inl (nd_ne nd3 8 14 (by decide) rfl rfl) | exact Or.inl (nd_ne nd3 9 14 (by decide) rfl rfl) | exact Or.inl (nd_ne nd3 10 14 (by decide) rfl rfl) | exact Or.inl (nd_ne nd3 11 14 (by decide) rfl rfl) | exact Or.inl (nd_ne nd3 12 14 (by decide) rfl rfl) | exact Or.inl (nd_ne nd3 13 14 (by decide) rfl rfl) | exact Or.inr (cell_not_dict (by assumption)) | exact Or.inr (by intro es ep e; cases e)))
              obtain ⟨r, _, rfl⟩ := List.mem_map.mp hp
              exact Or.inr (by intro es ep e; cases e)
            clear N21
            refine comp_pairs F21 (by with_unfolding_all rfl) (by decide) (by rfl) (by decide) (by rfl) (by rfl) (by decide) ?_
            walk1
            refine ⟨aA, R.map rV, _, fun i yv news => ∃ o, news = (aI1, o) :: (s₁.heap.objs.size + 1 + 1, c2') :: (s₁.heap.objs.size + 1 + 1 + 1, c3') :: (s₁.heap.objs.size + 1 + 1 + 1 + 1, c4') :: (x1, instObj 79 dx1) :: (dx1, dictOf (ignEs w.params t11 t12 t13 aS1 aL1 aI1) 3) :: (aS1, oS1) :: (aL1, W.listOf yd.toArray n1) :: (x2, instObj 79 dx2) :: (dx2, dictOf (ignEs w.params t21 t22 t23 aS2 aL2 aI2) 3) :: (aS2, oS2) :: (aL2, W.listOf yd.toArray n2) :: (aI2, oI2) :: (x3, instObj 79 dx3) :: (dx3, dictOf (ignEs w.params t31 t32 t33 aS3 aL3 aI3) 3) :: (aS3, oS3) :: (aL3, W.listOf #[] 0) :: (aI3, oI3) :: (aA, W.listOf (R.map rV).toArray 0) :: (aD, LCg.lst yd) :: (aM, LCg.lst ys) :: R.map rO ∧ TabOk w o (stA ms ds R i).1 (i + 1) ∧ StrsAre yv ((stA ms ds R i).2.map digit), rfl, rfl, F21, N1a, ⟨_, rfl, htab1, .nil⟩, by rw [List.length_map, sizeLine_eq]; (try rw [List.length_reverse]); omega, ?li1, ?tu1, ?turn_1, ?done_1⟩
            case li1 =>
              rintro i yv news ⟨o, rfl, _, _⟩
              exact ⟨_, (by k_mem : (aA, W.listOf (R.map rV).toArray 0) ∈ _), rfl, _, rfl⟩
            case tu1 =>
              rintro i v yv news hv ⟨o, rfl, _, _⟩
              obtain ⟨r, hr, rfl⟩ := rec_at hv
              have hm : rO r ∈ R.map rO := List.mem_map_of_mem ((List.mem_of_getElem? hr))
              refine ⟨r.1, .str r.2.1 r.2.2.1, r.2.2.2, rfl, (rO r).2, ?_, fun h e => ⟨_, e, rfl, _, rfl⟩⟩
              repeat (first | exact hm | apply List.mem_cons_of_mem)
            case turn_1 =>
              rintro i T9 x9 y9 yv news I oI C oC D m₂ h tk d E' hv hT ⟨o, rfl, htab, hS⟩ hyl hC hm1 hm2 F N off ne
              obtain ⟨r, hr, hrT⟩ := rec_at hv
              cases hrT
              have hrm : r ∈ R := (List.mem_of_getElem? hr)
              have hok := hR r hrm
              have hm : rO r ∈ R.map rO := List.mem_map_of_mem hrm
              have hg9 : h.get? r.1 = some (rO r).2 := (N (rO r) (by repeat (first | exact hm | apply List.mem_cons_of_mem))).1
              obtain ⟨rfl, rfl⟩ := tuple_unique hT ⟨_, hg9, rfl, _, rfl⟩
              have hst := stA_step ms ds hr
              have hil : i < 44 := Nat.lt_of_lt_of_le (List.getElem?_eq_some_iff.mp hr).1 (by (try rw [List.length_reverse]); omega)
              have hno : ∀ p ∈ [(I, oI), (C, oC), (D, LCg.lst yv)] ++ ((s₁.heap.objs.size + 1 + 1, c2') :: (s₁.heap.objs.size + 1 + 1 + 1, c3') :: (s₁.heap.objs.size + 1 + 1 + 1 + 1, c4') :: (x1, instObj 79 dx1) :: (dx1, dictOf (ignEs w.params t11 t12 t13 aS1 aL1 aI1) 3) :: (aS1, oS1) :: (aL1, W.listOf yd.toArray n1) :: (x2, instObj 79 dx2) :: (dx2, dictOf (ignEs w.params t21 t22 t23 aS2 aL2 aI2) 3) :: (aS2, oS2) :: (aL2, W.listOf yd.toArray n2) :: (aI2, oI2) :: (x3, instObj 79 dx3) :: (dx3, dictOf (ignEs w.params t31 t32 t33 aS3 aL3 aI3) 3) :: (aS3, oS3) :: (aL3, W.listOf #[] 0) :: (aI3, oI3) :: (aA, W.listOf (R.map rV).toArray 0) :: (aD, LCg.lst yd) :: (aM, LCg.lst ys) :: R.map rO), p.1 ≠ aI1 := by
                intro p hp
                rcases List.mem_append.mp hp with hp | hp
                · simp only [List.mem_cons, List.not_mem_nil, or_false] at hp
                  rcases hp with rfl | rfl | rfl
                  · exact Ne.symm off.1.1
                  · exact Ne.symm off.1.2.1
                  · exact Ne.symm off.1.2.2
                · exact hr1 p hp
              clear hr N1a F21 hT hg9 hm
              walk_at "mine"
              refine names_turn (vd := yd) (ms := ms) (ds := ds) (path := pOf r.2.2.2) [(I, oI), (C, oC), (D, LCg.lst yv)] ((s₁.heap.objs.size + 1 + 1, c2') :: (s₁.heap.objs.size + 1 + 1 + 1, c3') :: (s₁.heap.objs.size + 1 + 1 + 1 + 1, c4') :: (x1, instObj 79 dx1) :: (dx1, dictOf (ignEs w.params t11 t12 t13 aS1 aL1 aI1) 3) :: (aS1, oS1) :: (aL1, W.listOf yd.toArray n1) :: (x2, instObj 79 dx2) :: (dx2, dictOf (ignEs w.params t21 t22 t23 aS2 aL2 aI2) 3) :: (aS2, oS2) :: (aL2, W.listOf yd.toArray n2) :: (aI2, oI2) :: (x3, instObj 79 dx3) :: (dx3, dictOf (ignEs w.params t31 t32 t33 aS3 aL3 aI3) 3) :: (aS3, oS3) :: (aL3, W.listOf #[] 0) :: (aI3, oI3) :: (aA, W.listOf (R.map rV).toArray 0) :: (aD, LCg.lst yd) :: (aM, LCg.lst ys) :: R.map rO) KX T F N hno hlo1 rfl (by show 1 + claimMargin + 1 + 5 < recursionLimit; decide) (by show 4 + 3 + 80 < cLine; decide) (by k_mem) (by k_mem) (by k_mem) (by k_mem) hU1 hMok hds hDok hok.1 hok.2 htab (by omega) ?_
              intro t8 h8 tk8 d8 o8 F8 N8 htab8
              simp only [List.cons_append, List.nil_append] at N8
              clear F N
              walk_at "mine"
              refine str_bI ?_
              intro t7
              refine PEnd.intro F8 N8 off ⟨o8, rfl, ?_, ?_⟩
              · rw [hst]; exact htab8
              · rw [hst]; simp only [stepD, List.map_append]; exact strsSnoc hS _ _
            case done_1 =>
              rintro yv1 news D1 h22 tk22 d22 ⟨o1, rfl, htab1', hS1⟩ F22 N22 off1
              clear N1a F21 hr1 htab1'
              rw [stA_all] at hS1
              walk_at "mine"
              refine law_due_spec (ms := ms) (ds := ds) (va := R.map rV) (vm := ys) (vd := yd) (KX.keeps F22.keep) (T.keeps F22.keep) rfl (by show 1 + claimMargin + 1 + 10 < recursionLimit; decide) (by show 4 + 3 + 100 < cLine; decide) ⟨_, (N22 (aA, _) (by k_mem)).1, rfl, _, rfl⟩ (asks_at N22 (fun p hp => by (try rw [List.map_reverse, List.mem_reverse] at hp); repeat (first | exact hp | apply List.mem_cons_of_mem)) hR) (by rw [List.length_map]; (try rw [List.length_reverse]); omega) ⟨_, (N22 (aM, _) (by k_mem)).1, rfl, _, rfl⟩ hms hMok ⟨_, (N22 (aD, _) (by k_mem)).1, rfl, _, rfl⟩ hds hDok ?_
              intro E1 ye1 h1e tk1e st1e nE1 lE1 hSE1
              have F1e := F22.keeps st1e
              have N1e := News.grown N22 st1e
              clear F22 N22 nE1 st1e
              walk_at "mine"
              refine ne_texts ⟨_, (N1e (D1, _) (by k_mem)).1, rfl, _, rfl⟩ lE1 hS1 hSE1 (digits_ok _) (digits_ok _) (by show 4 + 3 + 64 < cLine; decide) ?_
              rw [show (!decide (((dueB ms ds (R.map rQ)).map digit) = ((dueB ms ds (R.map rQ)).map digit))) = false from by simp]
              walk_at "mine"
              refine krv_lit (its := (R.map rV).toArray) (zs := R.reverse.map rV) F1e N1e (News.isList N1e (by k_mem)) (IsPart.int _ _) (by rw [List.map_reverse]) ?_ (by with_unfolding_all rfl) (fun _ => rfl) (by rw [List.size_toArray, List.length_map, sizeLine_eq]; omega)
              intro aB h24 F24 N24 lt24
              clear F1e N1e lt24 off1
              walk_at "mine"
              rename_i h25 F25 N25
              have N2a : News s₁.heap s₁.heap.objs.size h25 ((aI2, oI2) :: (s₁.heap.objs.size + 1 + 1 + 1, c3') :: (s₁.heap.objs.size + 1 + 1 + 1 + 1, c4') :: (x2, instObj 79 dx2) :: (dx2, dictOf (ignEs w.params t21 t22 t23 aS2 aL2 aI2) 3) :: (aS2, oS2) :: (aL2, W.listOf yd.toArray n2) :: (x3, instObj 79 dx3) :: (dx3, dictOf (ignEs w.params t31 t32 t33 aS3 aL3 aI3) 3) :: (aS3, oS3) :: (aL3, W.listOf #[] 0) :: (aI3, oI3) :: (aB, W.listOf (R.reverse.map rV).toArray 0) :: (aA, W.listOf (R.map rV).toArray 0) :: (aD, LCg.lst yd) :: (aM, LCg.lst ys) :: R.map rO) := by
                repeat (refine news_pick N25 (by k_mem) ?_)
                intro p hp
                refine N25 p ?_
                repeat (first | exact hp | apply List.mem_cons_of_mem)
              have hr2 : ∀ p ∈ (s₁.heap.objs.size + 1 + 1 + 1, c3') :: (s₁.heap.objs.size + 1 + 1 + 1 + 1, c4') :: (x2, instObj 79 dx2) :: (dx2, dictOf (ignEs w.params t21 t22 t23 aS2 aL2 aI2) 3) :: (aS2, oS2) :: (aL2, W.listOf yd.toArray n2) :: (x3, instObj 79 dx3) :: (dx3, dictOf (ignEs w.params t31 t32 t33 aS3 aL3 aI3) 3) :: (aS3, oS3) :: (aL3, W.listOf #[] 0) :: (aI3, oI3) :: (aB, W.listOf (R.reverse.map rV).toArray 0) :: (aA, W.listOf (R.map rV).toArray 0) :: (aD, LCg.lst yd) :: (aM, LCg.lst ys) :: R.map rO, p.1 ≠ aI2 := by
                refine apart_tab N2a htab2 ?_
                intro p hp
                repeat' (rcases List.mem_cons.mp hp with hq | hp; (subst hq; first | exact Or.inl (nd_ne nd3 0 9 (by decide) rfl rfl) | exact Or.inl (nd_ne nd3 1 9 (by decide) rfl rfl) | exact Or.inl (nd_ne nd3 2 9 (by decide) rfl rfl) | exact Or.inl (nd_ne nd3 3 9 (by decide) rfl rfl) | exact Or.inl (nd_ne nd3 4 9 (by decide) rfl rfl) | exact Or.inl (nd_ne nd3 5 9 (by decide) rfl rfl) | exact Or.inl (nd_ne nd3 6 9 (by decide) rfl rfl) | exact Or.inl (nd_ne nd3 7 9 (by decide) rfl rfl) | exact Or.inl (nd_ne nd3 8 9 (by decide) rfl rfl) | exact Or.inl (nd_ne nd3 10 9 (by decide) rfl rfl) | exact Or.inl (nd_ne nd3 11 9 (by decide) rfl rfl) | exact Or.inl (nd_ne nd3 12 9 (by decide) rfl rfl) | exact Or.inl (nd_ne nd3 13 9 (by decide) rfl rfl) | exact Or.inl (nd_ne nd3 14 9 (by decide) rfl rfl) | exact Or.inr (cell_not_dict (by assumption)) | exact Or.inr (by intro es ep e; cases e)))
                obtain ⟨r, _, rfl⟩ := List.mem_map.mp hp
                exact Or.inr (by intro es ep e; cases e)
              clear N25
              refine comp_pairs F25 (by with_unfolding_all rfl) (by decide) (by rfl) (by decide) (by rfl) (by rfl) (by decide) ?_
              walk1
              refine ⟨aB, R.reverse.map rV, _, fun i yv news => ∃ o, news = (aI2, o) :: (s₁.heap.objs.size + 1 + 1 + 1, c3') :: (s₁.heap.objs.size + 1 + 1 + 1 + 1, c4') :: (x2, instObj 79 dx2) :: (dx2, dictOf (ignEs w.params t21 t22 t23 aS2 aL2 aI2) 3) :: (aS2, oS2) :: (aL2, W.listOf yd.toArray n2) :: (x3, instObj 79 dx3) :: (dx3, dictOf (ignEs w.params t31 t32 t33 aS3 aL3 aI3) 3) :: (aS3, oS3) :: (aL3, W.listOf #[] 0) :: (aI3, oI3) :: (aB, W.listOf (R.reverse.map rV).toArray 0) :: (aA, W.listOf (R.map rV).toArray 0) :: (aD, LCg.lst yd) :: (aM, LCg.lst ys) :: R.map rO ∧ TabOk w o (stA ms ds R.reverse i).1 (i + 1) ∧ StrsAre yv ((stA ms ds R.reverse i).2.map digit), rfl, rfl, F25, N2a, ⟨_, rfl, htab2, .nil⟩, by rw [List.length_map, sizeLine_eq]; (try rw [List.length_reverse]); omega, ?li2, ?tu2, ?turn_2, ?done_2⟩
              case li2 =>
                rintro i yv news ⟨o, rfl, _, _⟩
                exact ⟨_, (by k_mem : (aB, W.listOf (R.reverse.map rV).toArray 0) ∈ _), rfl, _, rfl⟩
              case tu2 =>
                rintro i v yv news hv ⟨o, rfl, _, _⟩
                obtain ⟨r, hr, rfl⟩ := rec_at hv
                have hm : rO r ∈ R.map rO := List.mem_map_of_mem (List.mem_reverse.mp (List.mem_of_getElem? hr))
                refine ⟨r.1, .str r.2.1 r.2.2.1, r.2.2.2, rfl, (rO r).2, ?_, fun h e => ⟨_, e, rfl, _, rfl⟩⟩
                repeat (first | exact hm | apply List.mem_cons_of_mem)
              case turn_2 =>
                rintro i T9 x9 y9 yv news I oI C oC D m₂ h tk d E' hv hT ⟨o, rfl, htab, hS⟩ hyl hC hm1 hm2 F N off ne
                obtain ⟨r, hr, hrT⟩ := rec_at hv
                cases hrT
                have hrm : r ∈ R := List.mem_reverse.mp (List.mem_of_getElem? hr)
                have hok := hR r hrm
                have hm : rO r ∈ R.map rO := List.mem_map_of_mem hrm
                have hg9 : h.get? r.1 = some (rO r).2 := (N (rO r) (by repeat (first | exact hm | apply List.mem_cons_of_mem))).1
                obtain ⟨rfl, rfl⟩ := tuple_unique hT ⟨_, hg9, rfl, _, rfl⟩
                have hst := stA_step ms ds hr
                have hil : i < 44 := Nat.lt_of_lt_of_le (List.getElem?_eq_some_iff.mp hr).1 (by (try rw [List.length_reverse]); omega)
                have hno : ∀ p ∈ [(I, oI), (C, oC), (D, LCg.lst yv)] ++ ((s₁.heap.objs.size + 1 + 1 + 1, c3') :: (s₁.heap.objs.size + 1 + 1 + 1 + 1, c4') :: (x2, instObj 79 dx2) :: (dx2, dictOf (ignEs w.params t21 t22 t23 aS2 aL2 aI2) 3) :: (aS2, oS2) :: (aL2, W.listOf yd.toArray n2) :: (x3, instObj 79 dx3) :: (dx3, dictOf (ignEs w.params t31 t32 t33 aS3 aL3 aI3) 3) :: (aS3, oS3) :: (aL3, W.listOf #[] 0) :: (aI3, oI3) :: (aB, W.listOf (R.reverse.map rV).toArray 0) :: (aA, W.listOf (R.map rV).toArray 0) :: (aD, LCg.lst yd) :: (aM, LCg.lst ys) :: R.map rO), p.1 ≠ aI2 := by
                  intro p hp
                  rcases List.mem_append.mp hp with hp | hp
                  · simp only [List.mem_cons, List.not_mem_nil, or_false] at hp
                    rcases hp with rfl | rfl | rfl
                    · exact Ne.symm off.1.1
                    · exact Ne.symm off.1.2.1
                    · exact Ne.symm off.1.2.2
                  · exact hr2 p hp
                clear hr N2a F25 hT hg9 hm
                walk_at "mine"
                refine names_turn (vd := yd) (ms := ms) (ds := ds) (path := pOf r.2.2.2) [(I, oI), (C, oC), (D, LCg.lst yv)] ((s₁.heap.objs.size + 1 + 1 + 1, c3') :: (s₁.heap.objs.size + 1 + 1 + 1 + 1, c4') :: (x2, instObj 79 dx2) :: (dx2, dictOf (ignEs w.params t21 t22 t23 aS2 aL2 aI2) 3) :: (aS2, oS2) :: (aL2, W.listOf yd.toArray n2) :: (x3, instObj 79 dx3) :: (dx3, dictOf (ignEs w.params t31 t32 t33 aS3 aL3 aI3) 3) :: (aS3, oS3) :: (aL3, W.listOf #[] 0) :: (aI3, oI3) :: (aB, W.listOf (R.reverse.map rV).toArray 0) :: (aA, W.listOf (R.map rV).toArray 0) :: (aD, LCg.lst yd) :: (aM, LCg.lst ys) :: R.map rO) KX T F N hno hlo2 rfl (by show 1 + claimMargin + 1 + 5 < recursionLimit; decide) (by show 4 + 3 + 80 < cLine; decide) (by k_mem) (by k_mem) (by k_mem) (by k_mem) hU2 hMok hds hDok hok.1 hok.2 htab (by omega) ?_
                intro t8 h8 tk8 d8 o8 F8 N8 htab8
                simp only [List.cons_append, List.nil_append] at N8
                clear F N
                walk_at "mine"
                refine str_bI ?_
                intro t7
                refine PEnd.intro F8 N8 off ⟨o8, rfl, ?_, ?_⟩
                · rw [hst]; exact htab8
                · rw [hst]; simp only [stepD, List.map_append]; exact strsSnoc hS _ _
              case done_2 =>
                rintro yv2 news D2 h26 tk26 d26 ⟨o2, rfl, htab2', hS2⟩ F26 N26 off2
                clear N2a F25 hr2 htab2'
                rw [stA_all] at hS2
                walk_at "mine"
                refine law_due_spec (ms := ms) (ds := ds) (va := R.reverse.map rV) (vm := ys) (vd := yd) (KX.keeps F26.keep) (T.keeps F26.keep) rfl (by show 1 + claimMargin + 1 + 10 < recursionLimit; decide) (by show 4 + 3 + 100 < cLine; decide) ⟨_, (N26 (aB, _) (by k_mem)).1, rfl, _, rfl⟩ (asks_at N26 (fun p hp => by (try rw [List.map_reverse, List.mem_reverse] at hp); repeat (first | exact hp | apply List.mem_cons_of_mem)) (fun r hr => hR r (List.mem_reverse.mp hr))) (by rw [List.length_map]; (try rw [List.length_reverse]); omega) ⟨_, (N26 (aM, _) (by k_mem)).1, rfl, _, rfl⟩ hms hMok ⟨_, (N26 (aD, _) (by k_mem)).1, rfl, _, rfl⟩ hds hDok ?_
                intro E2 ye2 h2e tk2e st2e nE2 lE2 hSE2
                have F2e := F26.keeps st2e
                have N2e := News.grown N26 st2e
                clear F26 N26 nE2 st2e
                walk_at "mine"
                refine ne_texts ⟨_, (N2e (D2, _) (by k_mem)).1, rfl, _, rfl⟩ lE2 hS2 hSE2 (digits_ok _) (digits_ok _) (by show 4 + 3 + 64 < cLine; decide) ?_
                rw [show (!decide (((dueB ms ds (R.reverse.map rQ)).map digit) = ((dueB ms ds (R.reverse.map rQ)).map digit))) = false from by simp]
                walk_at "mine"
                have N3a : News s₁.heap s₁.heap.objs.size h2e ((aI3, oI3) :: (s₁.heap.objs.size + 1 + 1 + 1 + 1, c4') :: (x3, instObj 79 dx3) :: (dx3, dictOf (ignEs w.params t31 t32 t33 aS3 aL3 aI3) 3) :: (aS3, oS3) :: (aL3, W.listOf #[] 0) :: (aA, W.listOf (R.map rV).toArray 0) :: (aD, LCg.lst yd) :: (aM, LCg.lst ys) :: R.map rO) := by
                  repeat (refine news_pick N2e (by k_mem) ?_)
                  intro p hp
                  refine N2e p ?_
                  repeat (first | exact hp | apply List.mem_cons_of_mem)
                have hr3 : ∀ p ∈ (s₁.heap.objs.size + 1 + 1 + 1 + 1, c4') :: (x3, instObj 79 dx3) :: (dx3, dictOf (ignEs w.params t31 t32 t33 aS3 aL3 aI3) 3) :: (aS3, oS3) :: (aL3, W.listOf #[] 0) :: (aA, W.listOf (R.map rV).toArray 0) :: (aD, LCg.lst yd) :: (aM, LCg.lst ys) :: R.map rO, p.1 ≠ aI3 := by
                  refine apart_tab N3a htab3 ?_
                  intro p hp
                  repeat' (rcases List.mem_cons.mp hp with hq | hp; (subst hq; first | exact Or.inl (nd_ne nd3 0 4 (by decide) rfl rfl) | exact Or.inl (nd_ne nd3 1 4 (by decide) rfl rfl) | exact Or.inl (nd_ne nd3 2 4 (by decide) rfl rfl) | exact Or.inl (nd_ne nd3 3 4 (by decide) rfl rfl) | exact Or.inl (nd_ne nd3 5 4 (by decide) rfl rfl) | exact Or.inl (nd_ne nd3 6 4 (by decide) rfl rfl) | exact Or.inl (nd_ne nd3 7 4 (by decide) rfl rfl) | exact Or.inl (nd_ne nd3 8 4 (by decide) rfl rfl) | exact Or.inl (nd_ne nd3 9 4 (by decide) rfl rfl) | exact Or.inl (nd_ne nd3 10 4 (by decide) rfl rfl) | exact Or.inl (nd_ne nd3 11 4 (by decide) rfl rfl) | exact Or.inl (nd_ne nd3 12 4 (by decide) rfl rfl) | exact Or.inl (nd_ne nd3 13 4 (by decide) rfl rfl) | exact Or.inl (nd_ne nd3 14 4 (by decide) rfl rfl) | exact Or.inr (cell_not_dict (by assumption)) | exact Or.inr (by intro es ep e; cases e)))
                  obtain ⟨r, _, rfl⟩ := List.mem_map.mp hp
                  exact Or.inr (by intro es ep e; cases e)
                clear N2e
                refine comp_pairs F2e (by with_unfolding_all rfl) (by decide) (by rfl) (by decide) (by rfl) (by rfl) (by decide) ?_
                walk1
                refine ⟨aA, R.map rV, _, fun i yv news => ∃ o, news = (aI3, o) :: (s₁.heap.objs.size + 1 + 1 + 1 + 1, c4') :: (x3, instObj 79 dx3) :: (dx3, dictOf (ignEs w.params t31 t32 t33 aS3 aL3 aI3) 3) :: (aS3, oS3) :: (aL3, W.listOf #[] 0) :: (aA, W.listOf (R.map rV).toArray 0) :: (aD, LCg.lst yd) :: (aM, LCg.lst ys) :: R.map rO ∧ TabOk w o (stA [] [] R i).1 (i + 1) ∧ StrsAre yv ((stA [] [] R i).2.map digit), rfl, rfl, F2e, N3a, ⟨_, rfl, htab3, .nil⟩, by rw [List.length_map, sizeLine_eq]; (try rw [List.length_reverse]); omega, ?li3, ?tu3, ?turn_3, ?done_3⟩
                case li3 =>
                  rintro i yv news ⟨o, rfl, _, _⟩
                  exact ⟨_, (by k_mem : (aA, W.listOf (R.map rV).toArray 0) ∈ _), rfl, _, rfl⟩
                case tu3 =>
                  rintro i v yv news hv ⟨o, rfl, _, _⟩
                  obtain ⟨r, hr, rfl⟩ := rec_at hv
                  have hm : rO r ∈ R.map rO := List.mem_map_of_mem ((List.mem_of_getElem? hr))
                  refine ⟨r.1, .str r.2.1 r.2.2.1, r.2.2.2, rfl, (rO r).2, ?_, fun h e => ⟨_, e, rfl, _, rfl⟩⟩
                  repeat (first | exact hm | apply List.mem_cons_of_mem)
                case turn_3 =>
                  rintro i T9 x9 y9 yv news I oI C oC D m₂ h tk d E' hv hT ⟨o, rfl, htab, hS⟩ hyl hC hm1 hm2 F N off ne
                  obtain ⟨r, hr, hrT⟩ := rec_at hv
                  cases hrT
                  have hrm : r ∈ R := (List.mem_of_getElem? hr)
                  have hok := hR r hrm
                  have hm : rO r ∈ R.map rO := List.mem_map_of_mem hrm
                  have hg9 : h.get? r.1 = some (rO r).2 := (N (rO r) (by repeat (first | exact hm | apply List.mem_cons_of_mem))).1
                  obtain ⟨rfl, rfl⟩ := tuple_unique hT ⟨_, hg9, rfl, _, rfl⟩
                  have hst := stA_step [] [] hr
                  have hil : i < 44 := Nat.lt_of_lt_of_le (List.getElem?_eq_some_iff.mp hr).1 (by (try rw [List.length_reverse]); omega)
                  have hno : ∀ p ∈ [(I, oI), (C, oC), (D, LCg.lst yv)] ++ ((s₁.heap.objs.size + 1 + 1 + 1 + 1, c4') :: (x3, instObj 79 dx3) :: (dx3, dictOf (ignEs w.params t31 t32 t33 aS3 aL3 aI3) 3) :: (aS3, oS3) :: (aL3, W.listOf #[] 0) :: (aA, W.listOf (R.map rV).toArray 0) :: (aD, LCg.lst yd) :: (aM, LCg.lst ys) :: R.map rO), p.1 ≠ aI3 := by
                    intro p hp
                    rcases List.mem_append.mp hp with hp | hp
                    · simp only [List.mem_cons, List.not_mem_nil, or_false] at hp
                      rcases hp with rfl | rfl | rfl
                      · exact Ne.symm off.1.1
                      · exact Ne.symm off.1.2.1
                      · exact Ne.symm off.1.2.2
                    · exact hr3 p hp
                  clear hr N3a F2e hT hg9 hm
                  walk_at "mine"
                  refine names_turn (vd := []) (ms := []) (ds := []) (path := pOf r.2.2.2) [(I, oI), (C, oC), (D, LCg.lst yv)] ((s₁.heap.objs.size + 1 + 1 + 1 + 1, c4') :: (x3, instObj 79 dx3) :: (dx3, dictOf (ignEs w.params t31 t32 t33 aS3 aL3 aI3) 3) :: (aS3, oS3) :: (aL3, W.listOf #[] 0) :: (aA, W.listOf (R.map rV).toArray 0) :: (aD, LCg.lst yd) :: (aM, LCg.lst ys) :: R.map rO) KX T F N hno hlo3 rfl (by show 1 + claimMargin + 1 + 5 < recursionLimit; decide) (by show 4 + 3 + 80 < cLine; decide) (by k_mem) (by k_mem) (by k_mem) (by k_mem) hU3 (by simp) .nil (by simp) hok.1 hok.2 htab (by omega) ?_
                  intro t8 h8 tk8 d8 o8 F8 N8 htab8
                  simp only [List.cons_append, List.nil_append] at N8
                  clear F N
                  walk_at "mine"
                  refine str_bI ?_
                  intro t7
                  refine PEnd.intro F8 N8 off ⟨o8, rfl, ?_, ?_⟩
                  · rw [hst]; exact htab8
                  · rw [hst]; simp only [stepD, List.map_append]; exact strsSnoc hS _ _
                case done_3 =>
                  rintro yv3 news D3 h27 tk27 d27 ⟨o3, rfl, htab3', hS3⟩ F27 N27 off3
                  clear N3a F2e hr3 htab3'
                  rw [stA_all] at hS3
                  walk_at "mine"
                  rename_i aX gX ltX aZ h28 F28 N28 ltZ
                  refine law_due_spec (ms := []) (ds := []) (va := R.map rV) (vm := []) (vd := []) (KX.keeps F28.keep) (T.keeps F28.keep) rfl (by show 1 + claimMargin + 1 + 10 < recursionLimit; decide) (by show 4 + 3 + 100 < cLine; decide) ⟨_, (N28 (aA, _) (by k_mem)).1, rfl, _, rfl⟩ (asks_at N28 (fun p hp => by (try rw [List.map_reverse, List.mem_reverse] at hp); repeat (first | exact hp | apply List.mem_cons_of_mem)) hR) (by rw [List.length_map]; (try rw [List.length_reverse]); omega) ⟨_, (N28 (aX, _) (by k_mem)).1, rfl, _, rfl⟩ .nil (by simp) ⟨_, (N28 (aZ, _) (by k_mem)).1, rfl, _, rfl⟩ .nil (by simp) ?_
                  intro E3 ye3 h3e tk3e st3e nE3 lE3 hSE3
                  have F3e := F28.keeps st3e
                  have N3e := News.grown N28 st3e
                  clear F28 N28 nE3 st3e
                  walk_at "mine"
                  refine eq_texts ⟨_, (N3e (D3, _) (by k_mem)).1, rfl, _, rfl⟩ lE3 hS3 hSE3 (digits_ok _) (digits_ok _) (by show 4 + 3 + 64 < cLine; decide) ?_
                  rw [show (decide (((dueB [] [] (R.map rQ)).map digit) = ((dueB [] [] (R.map rQ)).map digit))) = true from by simp]
                  walk_at "mine"
                  refine goodW_bool F3e hg (raisesW_false ?_) ?_
                  · wrow_none_raised
                  · exact law_post _)
end Mine


theorem PySem.Challenge.cw_ki0097_01_holds : PySem.Challenge.rw_ki0097_01.Holds := by
  exact Mine.law_holds
