import PyProof.Rows.All
import Wide.All
import OpenK.AllK
import Wide.FinOn
import PySem.Challenge.RW_pm0037_01
open PySem PySem.W PyProof.Rows
set_option Elab.async false
set_option compiler.extract_closed false
section
set_option maxRecDepth 100000
set_option maxHeartbeats 8000000
namespace Mine
open_top hd for PySem.Challenge.rw_pm0037_01
end Mine

end
section
local macro_rules | `(tactic| walk_at $s:str) => `(tactic| k_extra $s)
section
set_option maxRecDepth 100000
set_option maxHeartbeats 8000000
namespace Mine
abbrev CtV (w : World) (mean : ExcName → Option Value) (mg mb : Str → Option Value) (f : Addr) (news : List (Addr × Obj)) (vs : List Value) (R : Tok → Value) : Prop :=
  ∀ (dp un : Nat) (gd : Option (List Code)) (cn : Str) (cs : Scope) (a : Addr) (ccd : Value) (cl : List (Str × Addr)) (outer : List Env) (A₀ : Around) (base h₀ : Heap) (L : Addr) (m : Str → Option Value) (s : Shared) (Q E : Value → Shared → Prop),
    Below A₀ base outer h₀ → Fr h₀ L s.heap m → (hd.heap_39 w.params).In h₀ → News h₀ L s.heap news → Top hd.view_39 (looseW hd.view_39 []) mean mg mb h₀ → cs.kind = .function → dp + 10 < recursionLimit → un + 100 < cLine → CbRet h₀ L m news s Q R →
      wpAny (model Challenge.rw_pm0037_01.row.prog w) (ktrTop dp un gd cn cs L a ccd cl outer) (call (.ref f) vs) Q E s
abbrev CtN (d : Nat) (w : World) (mean : ExcName → Option Value) (mg mb : Str → Option Value) (f : Addr) (news : List (Addr × Obj)) (vs : List Value) (R : Tok → Value) : Prop :=
  ∀ (dp un : Nat) (gd : Option (List Code)) (cn : Str) (cs : Scope) (a : Addr) (ccd : Value) (cl : List (Str × Addr)) (outer : List Env) (A₀ : Around) (base h₀ : Heap) (L : Addr) (m : Str → Option Value) (s : Shared) (Q E : Value → Shared → Prop),
    Below A₀ base outer h₀ → Fr h₀ L s.heap m → (hd.heap_39 w.params).In h₀ → News h₀ L s.heap news → Top hd.view_39 (looseW hd.view_39 []) mean mg mb h₀ → cs.kind = .function → dp + 10 * d < recursionLimit → un + 100 * d < cLine → CbRet h₀ L m news s Q R →
      wpAny (model Challenge.rw_pm0037_01.row.prog w) (ktrTop dp un gd cn cs L a ccd cl outer) (call (.ref f) vs) Q E s
section
variable {w : World} {mean : ExcName → Option Value} {mg mb : Str → Option Value} {f : Addr} {news : List (Addr × Obj)} {vs : List Value} {R : Tok → Value} {dp un : Nat} {gd : Option (List Code)} {cn : Str} {cs : Scope} {a : Addr} {ccd : Value} {cl : List (Str × Addr)} {outer : List Env} {A₀ : Around} {base h₀ : Heap} {L : Addr} {m : Str → Option Value} {s : Shared} {Q E : Value → Shared → Prop}
theorem CtV.use (C : CtV w mean mg mb f news vs R) (B : Below A₀ base outer h₀) (F : Fr h₀ L s.heap m) (X : (hd.heap_39 w.params).In h₀) (N : News h₀ L s.heap news) (T : Top hd.view_39 (looseW hd.view_39 []) mean mg mb h₀) (hk : cs.kind = .function) (hdp : dp + 10 < recursionLimit) (hun : un + 100 < cLine)
    (ret : ∀ (t : Tok) (h' : Heap) (tk' : Nat), Fr h₀ L h' m → News h₀ L h' news → Q (R t) { s with heap := h', toks := tk' }) :
    wpAny (model Challenge.rw_pm0037_01.row.prog w) (ktrTop dp un gd cn cs L a ccd cl outer) (call (.ref f) vs) Q E s := C _ _ _ _ _ _ _ _ _ _ _ _ _ _ _ _ _ B F X N T hk hdp hun ret
theorem CtN.use {d : Nat} (C : CtN d w mean mg mb f news vs R) (B : Below A₀ base outer h₀) (F : Fr h₀ L s.heap m) (X : (hd.heap_39 w.params).In h₀) (N : News h₀ L s.heap news) (T : Top hd.view_39 (looseW hd.view_39 []) mean mg mb h₀) (hk : cs.kind = .function) (hdp : dp + 10 * d < recursionLimit) (hun : un + 100 * d < cLine)
    (ret : ∀ (t : Tok) (h' : Heap) (tk' : Nat), Fr h₀ L h' m → News h₀ L h' news → Q (R t) { s with heap := h', toks := tk' }) :
    wpAny (model Challenge.rw_pm0037_01.row.prog w) (ktrTop dp un gd cn cs L a ccd cl outer) (call (.ref f) vs) Q E s := C _ _ _ _ _ _ _ _ _ _ _ _ _ _ _ _ _ B F X N T hk hdp hun ret
end
noncomputable def Stuck (P : Prop) : Prop := P
theorem stuck {P : Prop} (h : Stuck P) : P := h
theorem toks_gen {α : Type} {M : Model} {A : Around} {t : Sem α} {Q : α → Shared → Prop} {E : Value → Shared → Prop} {h : Heap} {g : Array GenState} {d : Drawn} {tk : Nat} {o : OsState}
    (H : ∀ k, wpAny M A t Q E { heap := h, gens := g, drawn := d, toks := k, os := o }) : wpAny M A t Q E { heap := h, gens := g, drawn := d, toks := tk, os := o } := H tk
/-- the end and the raising forgotten but for what is asked of them -/
theorem absQ {α : Type} {M : Model} {A : Around} {t : Sem α} {Q : α → Shared → Prop} {E : Value → Shared → Prop} {s : Shared} (h : ∀ Q' : α → Shared → Prop, (∀ f s', Q f s' → Q' f s') → wpAny M A t Q' (fun _ _ => False) s) : wpAny M A t Q E s :=
  wpAny_mono (h Q (fun _ _ x => x)) (fun _ _ x => x) (fun _ _ x => x.elim)
end Mine

end
section
set_option maxRecDepth 100000
set_option maxHeartbeats 8000000
namespace Mine
noncomputable def subCost (a b : Str) : Int := if (a == b) = true then 0 else if (Txt.lower a == Txt.lower b) = true then 1 else 2
theorem sub_claim (w : World) (mean : ExcName → Option Value) (mg mb : Str → Option Value) (news : List (Addr × Obj)) (a : Str) (ta : Tok) (b : Str) (tb : Tok) (ha : a.length ≤ 1000) (hb : b.length ≤ 1000) :
    CtV w mean mg mb 49 news [.str a ta, .str b tb] (fun t => .int (subCost a b) t) := by
  w_top off
  k_with_none
  dsimp only [CtV, CbRet]
  k_fill
  intro dp un gd cn cs a ccd cl outer A₀ base h₀ L m s Q E B F X N T hk hdp hun hret
  refine wpAny_call ?_
  k_dflt cell_enter
  k_steps
  all_goals (refine' cb_retI (Q := Q) hret ?e1 ?e2 ?e3; (case e2 => k_asm); (case e3 => k_asm); (case e1 => simp [subCost, *]))
end Mine

end
section
set_option maxRecDepth 100000
set_option maxHeartbeats 8000000
namespace Mine
section
variable {prog : Program} {w : World} {A : Around} {s : Shared} {h₀ : Heap} {L : Addr} {m : Str → Option Value} {env : Env}
noncomputable def ElEnd (h₀ : Heap) (L : Addr) (m : Str → Option Value) (news : List (Addr × Obj)) (R : Value → Prop) (s₁ : Shared) (y : Value) (s₂ : Shared) : Prop :=
  ∃ h' tk, s₂ = { s₁ with heap := h', toks := tk } ∧ Fr h₀ L h' m ∧ News h₀ L h' news ∧ R y
theorem ElEnd.intro {news all : List (Addr × Obj)} {R : Value → Prop} {s₁ : Shared} {y : Value} {h' : Heap} {tk : Nat} (F : Fr h₀ L h' m) (N : News h₀ L h' all) (hs : ∀ p ∈ news, p ∈ all) (r : R y) :
    ElEnd h₀ L m news R s₁ y { s₁ with heap := h', toks := tk } := ⟨h', tk, rfl, F, fun p hp => N p (hs p hp), r⟩
theorem compRest_map {elt : Expr} {x : Str} {scope : Scope} {cl : List (Str × Addr)} {S : List (Addr × Obj) → Prop} {P : Nat → Value → Prop} {Fin : List Value → List (Addr × Obj) → Prop} {news : List (Addr × Obj)} {n : Nat} (R : Nat → Value → Prop)
    (hS : S news)
    (elem : ∀ i v I oI C oC D m₂ h tk ys (E' : Value → Shared → Prop), i < n → P i v → LCg.NsObj oC m₂ → m₂ x = some v → Fr h₀ L h m → News h₀ L h ((I, oI) :: (C, oC) :: (D, LCg.lst ys) :: news) →
      wpAny (model prog w) A (eval elt (compEnvC scope cl C env)) (ElEnd h₀ L m ((I, oI) :: (C, oC) :: (D, LCg.lst ys) :: news) (R i) { s with heap := h, toks := tk }) E' { s with heap := h, toks := tk })
    (fin : ∀ ys : List Value, ys.length = n → (∀ i y, ys[i]? = some y → R i y) → Fin ys news) :
    LCg.CompRest prog w A h₀ L m env elt x scope cl s S P Fin n 0 [] news := by
  have main : ∀ (k i : Nat) (ys : List Value), i + k = n → ys.length = i → (∀ j y, ys[j]? = some y → R j y) → LCg.CompRest prog w A h₀ L m env elt x scope cl s S P Fin k i ys news := by
    intro k
    induction k with
    | zero => intro i ys hk hl hr; exact LCg.CompRest.zero (fin ys (by omega) hr)
    | succ k ih =>
      intro i ys hk hl hr
      refine LCg.CompRest.succ fun v I oI C oC D m₂ h tk E' hP hC hx F N off ne => ?_
      refine wpAny_mono (elem i v I oI C oC D m₂ h tk ys E' (by omega) hP hC hx F N) (fun y s₂ hy => ?_) fun _ _ e => e
      obtain ⟨h', tk', rfl, F', N', r⟩ := hy
      refine ⟨h', tk', news, rfl, F', N', off, hS, ih (i + 1) (ys ++ [y]) (by omega) (by simp [hl]) fun j z hj => ?_⟩
      by_cases hji : j < ys.length
      · rw [List.getElem?_append_left hji] at hj; exact hr j z hj
      · rw [List.getElem?_append_right (by omega)] at hj
        have h1 : j - ys.length = 0 := by
          cases hq : j - ys.length with
          | zero => rfl
          | succ q => rw [hq] at hj; simp at hj
        rw [h1] at hj
        have h2 : j = i := by omega
        rw [h2]
        simp at hj
        rw [← hj]; exact r
  exact main n 0 [] (by omega) rfl (fun j y h => by simp at h)

noncomputable def MySrc (prog : Program) (w : World) (A : Around) (h₀ : Heap) (L : Addr) (m : Str → Option Value) (env : Env) (elt : Expr) (x : Str) (scope : Scope) (cl : List (Str × Addr)) (Fin : Shared → List Value → List (Addr × Obj) → Prop) (xv : Value) (s₁ : Shared) : Prop :=
  LCg.CompSrc prog w A h₀ L m env elt x scope cl Fin xv s₁
theorem listComp_my {E : Value → Shared → Prop} {elt iter : Expr} {x : Str} {px : Pos} {scope : Scope} {cl : List (Str × Addr)} {pos : Pos} {Q : Value → Shared → Prop} (F₀ : Fr h₀ L s.heap m)
    (hclos : closureFor scope env = pure cl) (hcell : ∀ y ∈ scope.names, y.2 ≠ .cell) (hkind : scope.kind = .function)
    (hnames : ∀ y ∈ scope.names, y.2 = .local → scope.names.lookup y.1 = some .local) (hx : scope.names.lookup x = some .local)
    (h : wpAny (model prog w) A (eval iter env) (MySrc prog w A h₀ L m env elt x scope cl (fun s₂ => LCg.FinE h₀ L m s₂ Q)) E s)
    (hs : ∀ x, foldedSetIterable iter env x = pure x := by intro _; rfl) :
    wpAny (model prog w) A (eval (.ListComp elt [⟨.Name x px, iter, [], 0⟩] scope pos) env) Q E s :=
  LCg.ListComp_U F₀ hclos hcell hkind hnames hx h hs
theorem MySrc.ledger {elt : Expr} {x : Str} {scope : Scope} {cl : List (Str × Addr)} {Fin : Shared → List Value → List (Addr × Obj) → Prop} {ax : Addr} {its : Array Value} {k : Nat} {news : List (Addr × Obj)} {s₁ : Shared}
    (hh : A.handled = none) (F : Fr h₀ L s₁.heap m) (N : News h₀ L s₁.heap news) (hm : (ax, ({ cls := .type "list", data := .seq its k } : Obj)) ∈ news) (hsz : its.size ≤ sizeLine)
    (h : ∀ g, LCg.CompRest prog w A h₀ L m env elt x scope cl { s₁ with heap := g } (LCg.SrcAt h₀ ax its) (fun i v => its[i]? = some v) (Fin { s₁ with heap := g }) its.size 0 [] news) :
    MySrc prog w A h₀ L m env elt x scope cl Fin (.ref ax) s₁ := LCg.CompSrc.ledger hh F N hm hsz h
end
end Mine

end
section
set_option maxRecDepth 100000
set_option maxHeartbeats 8000000
namespace Mine
noncomputable def sgn (i : Int) : Nat := if i = 0 then 97 else if i = 1 then 65 else if i = 2 then 98 else 66
noncomputable def lawText (ns : List Int) : Str := ⟨(ns.map sgn).toArray⟩
theorem ints_at {vs : List Value} {ns : List Int} (hi : IntsAre vs ns) {i : Nat} {v : Value} (h : vs.toArray[i]? = some v) : ∃ k t, v = .int k t ∧ ns[i]? = some k := by
  rw [List.getElem?_toArray] at h
  have hlt : i < ns.length := by rw [← hi.length]; exact (List.getElem?_eq_some_iff.mp h).1
  obtain ⟨t, ht⟩ := hi.get i ns[i] (List.getElem?_eq_getElem hlt)
  rw [ht] at h
  exact ⟨ns[i], t, (Option.some.inj h).symm, List.getElem?_eq_getElem hlt⟩
theorem item_sgn : ∀ k : Int, 0 ≤ k → k < 4 → Txt.item (Str.ofString "aAbB") k = ⟨#[sgn k]⟩ := by
  intro k h0 h1
  have : k = 0 ∨ k = 1 ∨ k = 2 ∨ k = 3 := by omega
  rcases this with rfl | rfl | rfl | rfl <;> decide +kernel
theorem strs_of : ∀ {ys : List Value} {ts : List Str}, ys.length = ts.length → (∀ (i : Nat) (y : Value), ys[i]? = some y → ∃ (x : Str) (t : Tok), ts[i]? = some x ∧ y = Value.str x t) → ∃ l : List (Str × Tok), ys = strValues l ∧ l.map (·.1) = ts
  | [], [], _, _ => ⟨[], rfl, rfl⟩
  | y :: ys, x :: ts, hl, h => by
    obtain ⟨l, e1, e2⟩ := strs_of (ys := ys) (ts := ts) (by simpa using hl) (fun i z hz => by simpa using h (i + 1) z (by simpa using hz))
    obtain ⟨x', t, hx, rfl⟩ := h 0 y rfl
    cases hx
    exact ⟨(x, t) :: l, by rw [e1]; rfl, by rw [← e2]; rfl⟩
theorem joinOk_ones {sep : Str} (hs : sep.length = 0) {l : List Nat} (hl : l.length ≤ 1000) : JoinOk sep (l.map fun k => (⟨#[k]⟩ : Str)) = true := by
  refine joinOk_of ?_
  have : ((l.map fun k => (⟨#[k]⟩ : Str)).map (·.length)).sum = l.length := by
    clear hl
    induction l with
    | nil => rfl
    | cons a l ih =>
      simp only [List.map_cons, List.sum_cons, List.length_cons]
      rw [ih]
      show 1 + l.length = l.length + 1
      omega
  rw [this, hs]
  omega
theorem join_text {ns : List Int} : Txt.join (Str.ofString "") (ns.map fun k => (⟨#[sgn k]⟩ : Str)) = lawText ns := by
  have h := join_ones (ns.map sgn)
  have e0 : Str.ofString "" = ⟨#[]⟩ := by decide +kernel
  rw [e0]
  rw [eq_of_beq (join_plain_closes _ _)]
  rw [show (ns.map fun k => (⟨#[sgn k]⟩ : Str)) = (ns.map sgn).map (fun k => (⟨#[k]⟩ : Str)) from by simp [List.map_map]]
  exact h
theorem text_claim (w : World) (mean : ExcName → Option Value) (mg mb : Str → Option Value) (news : List (Addr × Obj)) (l : Addr) (vs : List Value) (n : Nat) (ns : List Int) (hi : IntsAre vs ns) (hb : ∀ x ∈ ns, 0 ≤ x ∧ x < 4) (hl : ns.length ≤ 20) :
    CtV w mean mg mb 68 ((l, PySem.W.listOf vs.toArray n) :: news) [.ref l] (fun t => .str (lawText ns) t) := by
  w_top off
  k_with_none
  k_with "eval ListComp" => (k_here; k_dflt (refine listComp_my (F₀ := by k_asm) (by rfl) (by decide) (by rfl) (by decide) (by rfl) ?_))
  dsimp only [CtV, CbRet]
  k_fill
  intro dp un gd cn cs a ccd cl outer A₀ base h₀ L m s Q E B F X N T hk hdp hun hret
  refine wpAny_call ?_
  k_dflt cell_enter
  k_steps
  have hsz : vs.toArray.size = ns.length := by rw [List.size_toArray, hi.length]
  refine MySrc.ledger (by rfl) (by k_asm) (by k_asm) (by k_mem) (by rw [hsz, sizeLine_eq]; omega) ?_
  intro g
  refine compRest_map (fun i y => ∃ k t, ns[i]? = some k ∧ y = .str ⟨#[sgn k]⟩ t) ?_ ?_ ?_
  · exact Or.inr ⟨_, by k_mem, rfl, _, rfl⟩
  · intro i v I oI C oC D m₂ h tk ys E' hin hv hC hx F₁ N₁
    obtain ⟨k, t, rfl, hk'⟩ := ints_at hi hv
    have hb' := hb k (List.mem_of_getElem? hk')
    have h0 := hb'.1
    have h1 := hb'.2
    k_steps
    exact ElEnd.intro F₁ N₁ (fun p hp => hp) ⟨k, _, hk', by rw [item_sgn k h0 h1]⟩
  · intro ys hlen hR
    obtain ⟨ls, rfl, e⟩ := strs_of (ys := ys) (ts := ns.map fun k => (⟨#[sgn k]⟩ : Str)) (by rw [hlen, hsz, List.length_map]) (fun i y hy => by
      obtain ⟨k, t, h1, h2⟩ := hR i y hy
      exact ⟨_, t, by rw [List.getElem?_map, h1]; rfl, h2⟩)
    unfold LCg.FinE
    intro D h tk F₂ N₂ o1
    have hok : JoinOk (Str.ofString "") (ns.map fun k => (⟨#[sgn k]⟩ : Str)) = true := by
      rw [show (ns.map fun k => (⟨#[sgn k]⟩ : Str)) = (ns.map sgn).map (fun k => (⟨#[k]⟩ : Str)) from by simp [List.map_map]]
      exact joinOk_ones (by decide +kernel) (by rw [List.length_map]; omega)
    have hD := N₂.isList (.head _)
    k_steps
    rw [join_text]
    exact hret _ _ _ (by k_asm) (cb_drop (by assumption) (fun p hp => .tail _ hp))
end Mine

end
section
set_option maxRecDepth 100000
set_option maxHeartbeats 8000000
namespace Mine
section
variable {prog : Program} {w : World} {A : Around} {E : Value → Shared → Prop} {s : Shared} {env : Env} {h₀ : Heap} {x : Str} {body : List Stmt} {Q : Flow → Shared → Prop}
noncomputable def TurnGo (h₀ : Heap) (L : Addr) (fix : List (Addr × Obj)) (J : (Str → Option Value) → List (Addr × Obj) → Prop) (s₁ s₂ : Shared) : Prop :=
  ∃ h' tk m' news', s₂ = { s₁ with heap := h', toks := tk } ∧ Fr h₀ L h' m' ∧ News h₀ L h' (fix ++ news') ∧ (∀ p ∈ news', ∀ q ∈ fix, p.1 ≠ q.1) ∧ J m' news'
noncomputable def TurnEnd (h₀ : Heap) (L : Addr) (fix : List (Addr × Obj)) (J : (Str → Option Value) → List (Addr × Obj) → Prop) (Q : Flow → Shared → Prop) (s₁ : Shared) (f : Flow) (s₂ : Shared) : Prop :=
  match f with
  | .ret v => Q (.ret v) s₂
  | .brk => Q .next s₂
  | _ => TurnGo h₀ L fix J s₁ s₂
theorem TurnGo.intro {L : Addr} {fix : List (Addr × Obj)} {J : (Str → Option Value) → List (Addr × Obj) → Prop} {s₁ : Shared} {h' : Heap} {tk : Nat} {m' : Str → Option Value} (news' : List (Addr × Obj)) (F : Fr h₀ L h' m') {all : List (Addr × Obj)} (N : News h₀ L h' all) (hs : ∀ p ∈ fix ++ news', p ∈ all)
    (ho : ∀ p ∈ news', ∀ q ∈ fix, p.1 ≠ q.1) (hj : J m' news') : TurnGo h₀ L fix J s₁ { s₁ with heap := h', toks := tk } := ⟨h', tk, m', news', rfl, F, fun p hp => N p (hs p hp), ho, hj⟩

theorem iterW {I : Addr} {fp : List Addr} {n : Nat} {P : Nat → Value → Prop} {St : Nat → Heap → Prop} {m₀ : Str → Option Value} {news fixed : List (Addr × Obj)} (J : Nat → (Str → Option Value) → List (Addr × Obj) → Prop)
    (W : Walks prog w A I fp [I] n P St) (hIo : ∀ i h, St i h → ∃ o, h.get? I = some o) (hfp : ∀ b ∈ fp, b = I ∨ ∃ o, (b, o) ∈ fixed) (hL : env.locals ∉ fp) (hI₀ : h₀.get? I = none) (hIf : ∀ p ∈ fixed, p.1 ≠ I)
    (hst : St 0 s.heap) (F : Fr h₀ env.locals s.heap m₀) (N : News h₀ env.locals s.heap (fixed ++ news)) (hIn : ∀ p ∈ news, p.1 ≠ I) (hoff : ∀ p ∈ news, ∀ q ∈ fixed, p.1 ≠ q.1) (hj : J 0 m₀ news)
    (turn : ∀ i v m₁ news₁ oI h tk, i < n → P i v → J i m₁ news₁ → Fr h₀ env.locals h (fun y => if y = x then some v else m₁ y) → News h₀ env.locals h ((I, oI) :: (fixed ++ news₁)) → (∀ p ∈ news₁, ∀ q ∈ (I, oI) :: fixed, p.1 ≠ q.1) →
      wpAny (model prog w) A (execs body env) (TurnEnd h₀ env.locals ((I, oI) :: fixed) (J (i + 1)) Q { s with heap := h, toks := tk }) E { s with heap := h, toks := tk })
    (done : ∀ m₁ news₁ h tk, J n m₁ news₁ → Fr h₀ env.locals h m₁ → News h₀ env.locals h (fixed ++ news₁) → (∀ p ∈ news₁, ∀ q ∈ fixed, p.1 ≠ q.1) → Q .next { s with heap := h, toks := tk }) :
    LoopAtV prog w A h₀ env x body Q E (.ref I) s := by
  let J' : Nat → (Str → Option Value) → List (Addr × Obj) → Prop := fun i m₁ nw => ∃ nw', nw = fixed ++ nw' ∧ J i m₁ nw' ∧ (∀ p ∈ nw', ∀ q ∈ fixed, p.1 ≠ q.1)
  refine ⟨I, fp, [I], n, P, St, m₀, fixed ++ news, J', rfl, W, hL, ?_, ?_, hst, F, N, ⟨news, rfl, hj, hoff⟩, ?_, ?_⟩
  · intro b hb; rw [List.mem_singleton.mp hb]; exact hI₀
  · intro p hp hb
    have hb' := List.mem_singleton.mp hb
    rcases List.mem_append.mp hp with h1 | h1
    · exact hIf p h1 hb'
    · exact hIn p h1 hb'
  · rintro i v m₁ news₁ s₁ own ⟨hh, tk, rfl⟩ hin hP ⟨nw, rfl, hJ, hoff₁⟩ hwr₁ hown hownG hall hst₁ F₁ N₁
    obtain ⟨oI, hoI⟩ := hIo _ _ hst₁
    have hmI : (I, oI) ∈ own := hall I (W.sub I (List.mem_singleton.mpr rfl)) hI₀ oI hoI
    have NI : News h₀ env.locals hh ((I, oI) :: (fixed ++ nw)) := fun p hp => by
      rcases List.mem_cons.mp hp with rfl | hp
      · exact N₁ _ (List.mem_append_left _ hmI)
      · exact N₁ p (List.mem_append_right _ hp)
    have hoff₂ : ∀ p ∈ nw, ∀ q ∈ (I, oI) :: fixed, p.1 ≠ q.1 := fun p hp q hq => by
      rcases List.mem_cons.mp hq with rfl | hq
      · intro e; exact hwr₁ p (List.mem_append_right _ hp) (List.mem_singleton.mpr e)
      · exact hoff₁ p hp q hq
    have hfix : ∀ q ∈ own, q ∈ (I, oI) :: fixed := fun q hq => by
      have hg := hownG q hq
      rcases hfp q.1 (hown q hq) with e | ⟨o, ho⟩
      · have hg' : hh.get? q.1 = some q.2 := hg
        rw [e] at hg'
        have hoI' : hh.get? I = some oI := hoI
        rw [hoI'] at hg'
        have : q = (I, oI) := Prod.ext e (Option.some.inj hg').symm
        rw [this]; exact List.mem_cons_self
      · have hg' : hh.get? q.1 = some q.2 := hg
        have h2 := (NI (q.1, o) (List.mem_cons_of_mem _ (List.mem_append_left _ ho))).1
        rw [h2] at hg'
        have : q = (q.1, o) := Prod.ext rfl (Option.some.inj hg').symm
        rw [this]; exact List.mem_cons_of_mem _ ho
    refine wpAny_mono (turn i v m₁ nw oI hh tk hin hP hJ F₁ NI hoff₂) (fun f s₂ p => ?_) fun _ _ e => e
    have fin : TurnGo h₀ env.locals ((I, oI) :: fixed) (J (i + 1)) { s with heap := hh, toks := tk } s₂ → LoopStepU h₀ env.locals [I] own (J' (i + 1)) { s with heap := hh, toks := tk } .next s₂ := by
      rintro ⟨h', tk', m', news', e, F', N', ho, hj'⟩
      refine ⟨rfl, h', tk', m', fixed ++ news', e, F', fun p hp => ?_, fun p hp hb => ?_, news', rfl, hj', fun p hp q hq => ho p hp q (List.mem_cons_of_mem _ hq)⟩
      · rcases List.mem_append.mp hp with h1 | h1
        · exact N' p (List.mem_append_left _ (hfix p h1))
        · rcases List.mem_append.mp h1 with h2 | h2
          · exact N' p (List.mem_append_left _ (List.mem_cons_of_mem _ h2))
          · exact N' p (List.mem_append_right _ h2)
      · have hb' := List.mem_singleton.mp hb
        rcases List.mem_append.mp hp with h1 | h1
        · exact hIf p h1 hb'
        · exact ho p h1 (I, oI) List.mem_cons_self hb'
    cases f with
    | ret v => exact .ret p
    | brk => exact .brk p
    | next => exact .next (fin p)
    | cont => exact .cont (fin p)
  · rintro h' tk m' news' F' N' _ ⟨nw, rfl, hJ, ho⟩
    exact done m' nw h' tk hJ F' N' ho

noncomputable def MyIter (prog : Program) (w : World) (A : Around) (h₀ : Heap) (env : Env) (x : Str) (body : List Stmt) (Q : Flow → Shared → Prop) (E : Value → Shared → Prop) (xv : Value) (s₁ : Shared) : Prop :=
  wpAny (model prog w) A (pyIter xv) (fun it s₂ => LoopAtV prog w A h₀ env x body Q E it s₂) E s₁
theorem For_my {m : Str → Option Value} {px pos : Pos} {iter : Expr} (_F : Fr h₀ env.locals s.heap m) (hx : env.kindOf x = some .local)
    (hp : (env.scope.kind == .class || (env.scope.kind == .module && env.locals != env.globals)) = false)
    (h : wpAny (model prog w) A (eval iter env) (fun xv s₁ => MyIter prog w A h₀ env x body Q E xv s₁) E s)
    (hs : ∀ x, foldedSetIterable iter env x = pure x := by intro _; rfl)
    (hE : PassesOwn (model prog w) A env E := by passes_own) :
    wpAny (model prog w) A (exec (.For (.Name x px) iter body [] pos) env) Q E s := For_invV h₀ hx hp h hs

theorem iterL {ax : Addr} {its : Array Value} {k : Nat} {m₀ : Str → Option Value} {news : List (Addr × Obj)} (J : Nat → (Str → Option Value) → List (Addr × Obj) → Prop)
    (hh : A.handled = none) (F : Fr h₀ env.locals s.heap m₀) (N : News h₀ env.locals s.heap ((ax, PySem.W.listOf its k) :: news)) (hoff : ∀ p ∈ news, p.1 ≠ ax) (hj : J 0 m₀ news)
    (turn : ∀ i v m₁ news₁ I oI h tk, its[i]? = some v → J i m₁ news₁ → Fr h₀ env.locals h (fun y => if y = x then some v else m₁ y) → News h₀ env.locals h ((I, oI) :: (ax, PySem.W.listOf its k) :: news₁) → (∀ p ∈ news₁, p.1 ≠ I ∧ p.1 ≠ ax) → I ≠ ax →
      wpAny (model prog w) A (execs body env) (TurnEnd h₀ env.locals [(I, oI), (ax, PySem.W.listOf its k)] (J (i + 1)) Q { s with heap := h, toks := tk }) E { s with heap := h, toks := tk })
    (done : ∀ m₁ news₁ h tk, J its.size m₁ news₁ → Fr h₀ env.locals h m₁ → News h₀ env.locals h ((ax, PySem.W.listOf its k) :: news₁) → (∀ p ∈ news₁, p.1 ≠ ax) → Q .next { s with heap := h, toks := tk }) :
    MyIter prog w A h₀ env x body Q E (.ref ax) s := by
  have hls : s.heap.IsList ax its := N.isList (.head _)
  have hlt : ax < s.heap.objs.size := Heap.lt_size (N _ (.head _)).1
  have hne : ax ≠ s.heap.objs.size := Nat.ne_of_lt hlt
  refine wpAny_pyIter_list hls ?_
  have W := Walks.list (prog := prog) (w := w) hh s.heap.objs.size ax hne its
  refine iterW (fixed := [(ax, PySem.W.listOf its k)]) (news := news) (m₀ := m₀) J W (fun i h st => by obtain ⟨o, e, _⟩ := st.1; exact ⟨o, e⟩) (fun b hb => ?_) ?_ (next_is_new F) (fun p hp => by rw [List.mem_singleton.mp hp]; exact hne)
    ⟨⟨_, Heap.get?_push_size _ rfl, rfl, rfl⟩, hls.push _⟩ (F.push _) (fun p hp => ⟨Heap.get?_push_of_some _ (N p hp).1, (N p hp).2⟩) (fun p hp => Nat.ne_of_lt (Heap.lt_size (N p (List.mem_cons_of_mem _ hp)).1)) (fun p hp q hq => by rw [List.mem_singleton.mp hq]; exact hoff p hp) hj ?_ ?_
  · rcases List.mem_cons.mp hb with e | hb
    · exact .inl e
    · rw [List.mem_singleton.mp hb]; exact .inr ⟨_, List.mem_singleton.mpr rfl⟩
  · intro hm
    rcases List.mem_cons.mp hm with e | hm
    · exact absurd F.ns.lt (e ▸ Nat.lt_irrefl _)
    · exact (N _ (.head _)).2.1 (List.mem_singleton.mp hm).symm
  · intro i v m₁ news₁ oI h tk hi hP hJ F₁ N₁ ho
    exact turn i v m₁ news₁ _ oI h tk hP hJ F₁ N₁ (fun p hp => ⟨ho p hp _ List.mem_cons_self, ho p hp _ (List.mem_cons_of_mem _ (List.mem_singleton.mpr rfl))⟩) (Ne.symm hne)
  · intro m₁ news₁ h tk hJ F₁ N₁ ho
    exact done m₁ news₁ h tk hJ F₁ N₁ (fun p hp => ho p hp _ (List.mem_singleton.mpr rfl))

theorem iterR {r : Addr} {a b : Int} {t u v : Tok} {n : Nat} {m₀ : Str → Option Value} {news : List (Addr × Obj)} (J : Nat → (Str → Option Value) → List (Addr × Obj) → Prop)
    (hh : A.handled = none) (hr : IsRange s.heap r a b 1 t u v) (hsm : Builtin.Range.small a b 1 = true) (hn : Builtin.Range.rangeSize a b 1 = ((n : Nat) : Int)) (F : Fr h₀ env.locals s.heap m₀) (N : News h₀ env.locals s.heap news) (hj : J 0 m₀ news)
    (turn : ∀ i tv m₁ news₁ I oI h tk, i < n → J i m₁ news₁ → Fr h₀ env.locals h (fun y => if y = x then some (.int (a + (i : Int)) tv) else m₁ y) → News h₀ env.locals h ((I, oI) :: news₁) → (∀ p ∈ news₁, p.1 ≠ I) →
      wpAny (model prog w) A (execs body env) (TurnEnd h₀ env.locals [(I, oI)] (J (i + 1)) Q { s with heap := h, toks := tk }) E { s with heap := h, toks := tk })
    (done : ∀ m₁ news₁ h tk, J n m₁ news₁ → Fr h₀ env.locals h m₁ → News h₀ env.locals h news₁ → Q .next { s with heap := h, toks := tk }) :
    MyIter prog w A h₀ env x body Q E (.ref r) s := by
  refine wpAny_pyIter_range hr hsm ?_
  have W := LCg.range_walks (prog := prog) (w := w) (A := A) (I := s.heap.objs.size) hh a n
  refine iterW (fixed := []) (news := news) (m₀ := m₀) J W (fun i h st => ⟨_, st⟩) (fun b hb => .inl (List.mem_singleton.mp hb)) ?_ (next_is_new F) (fun p hp => nomatch hp)
    (by show IsRangeIter _ _ _ _ _; rw [hn]; simpa using Heap.get?_push_size _ rfl) (F.push _) (fun p hp => ⟨Heap.get?_push_of_some _ (N p hp).1, (N p hp).2⟩) (fun p hp => Nat.ne_of_lt (Heap.lt_size (N p hp).1)) (fun p hp q hq => nomatch hq) hj ?_ ?_
  · intro hm
    exact absurd F.ns.lt (by rw [List.mem_singleton.mp hm]; exact Nat.lt_irrefl _)
  · intro i v' m₁ news₁ oI h tk hi hP hJ F₁ N₁ ho
    obtain ⟨tv, rfl⟩ := hP
    exact turn i tv m₁ news₁ _ oI h tk hi hJ F₁ N₁ (fun p hp => ho p hp _ List.mem_cons_self)
  · intro m₁ news₁ h tk hJ F₁ N₁ ho
    exact done m₁ news₁ h tk hJ F₁ N₁
theorem off2 {news : List (Addr × Obj)} {I D : Addr} {oI o : Obj} (h : ∀ p ∈ news, p.1 ≠ I ∧ p.1 ≠ D) : ∀ p ∈ news, ∀ q ∈ [(I, oI), (D, o)], p.1 ≠ q.1 := fun p hp q hq => by
  rcases List.mem_cons.mp hq with rfl | hq
  · exact (h p hp).1
  · rw [List.mem_singleton.mp hq]; exact (h p hp).2
theorem off1 {news : List (Addr × Obj)} {I : Addr} {oI : Obj} (h : ∀ p ∈ news, p.1 ≠ I) : ∀ p ∈ news, ∀ q ∈ [(I, oI)], p.1 ≠ q.1 := fun p hp q hq => by
  rw [List.mem_singleton.mp hq]; exact h p hp
end
end Mine

end
section
set_option maxRecDepth 100000
set_option maxHeartbeats 8000000
namespace Mine
section
variable {prog : Program} {w : World} {A : Around} {E : Value → Shared → Prop} {s : Shared} {h₀ : Heap} {L D : Addr} {m : Str → Option Value} {news news' : List (Addr × Obj)} {its its' : Array Value} {n : Nat}
theorem itemN {value slice : PySem.Expr} {k : Int} {u : Tok} {v : Value} {Q : Value → Shared → Prop} (N : News h₀ L s.heap news) (hm : (D, PySem.W.listOf its n) ∈ news) (h0 : 0 ≤ k) (hfit : k < 2 ^ 63) (hx : its[k.toNat]? = some v) (h : Q v s)
    (hs : subscripted slice false (.ref D) (.int k u) = operate [.ref D, .int k u] (getItem (.ref D) (.int k u)) := by with_unfolding_all rfl) :
    wpAny (model prog w) A (subscriptTail value slice (.ref D) (.int k u)) Q E s :=
  tail_any (N.isList hm).typeIs slot_list_getitem.lookup (wpAny_getItem_list (N.isList hm) h0 hfit hx h) hs
theorem itemNeg {value slice : PySem.Expr} {k : Int} {u : Tok} {v : Value} {Q : Value → Shared → Prop} (N : News h₀ L s.heap news) (hm : (D, PySem.W.listOf its n) ∈ news) (h0 : k < 0) (h1 : -(its.size : Int) ≤ k) (hfit : -(2 ^ 63) ≤ k) (hx : its[(k + its.size).toNat]? = some v) (h : Q v s)
    (hs : subscripted slice false (.ref D) (.int k u) = operate [.ref D, .int k u] (getItem (.ref D) (.int k u)) := by with_unfolding_all rfl) :
    wpAny (model prog w) A (subscriptTail value slice (.ref D) (.int k u)) Q E s :=
  tail_any (N.isList hm).typeIs slot_list_getitem.lookup (wpAny_getItem_list_neg (N.isList hm) h0 h1 hfit hx h) hs
theorem getN {k : Int} {u : Tok} {v : Value} {Q : Value → Shared → Prop} (N : News h₀ L s.heap news) (hm : (D, PySem.W.listOf its n) ∈ news) (h0 : 0 ≤ k) (hfit : k < 2 ^ 63) (hx : its[k.toNat]? = some v) (h : Q v s) :
    wpAny (model prog w) A (getItem (.ref D) (.int k u)) Q E s := wpAny_getItem_list (N.isList hm) h0 hfit hx h
theorem delN {i : Int} {u : Tok} {j : Nat} {Q : Unit → Shared → Prop} (F : Fr h₀ L s.heap m) (N : News h₀ L s.heap news) (hk : seqIndex? i its.size = some j) (hfit : Builtin.List.listFitsIndex i = true) (he : its.eraseIdxIfInBounds j = its') (hlen : its'.size ≠ its.size)
    (U : Upd D (PySem.W.listOf its n) (PySem.W.listOf its' (n + 1)) news news') (hsz : its.size ≤ sizeLine)
    (h : ∀ h', Fr h₀ L h' m → News h₀ L h' news' → Q () { s with heap := h' }) : wpAny (model prog w) A (delItem (.ref D) (.int i u)) Q E s := by
  obtain ⟨pre, post, rfl, rfl, a, b⟩ := U.split
  have z := N (D, PySem.W.listOf its n) (List.mem_append.mpr (.inr (.head _)))
  refine P.delItem_list (n := n) z.1 hfit hk (h _ (F.change (Heap.SameBut.update ..) z.2.1 z.2.2) (news_set N a b (Heap.SameBut.update ..) ?_)) hsz
  rw [Heap.get?_update_self _ z.1 rfl]
  subst he
  show some (Obj.mapSeq _ _) = _
  unfold Obj.mapSeq
  dsimp only
  have : (its.eraseIdxIfInBounds j).size ≠ its.size := hlen
  simp only [beq_iff_eq, this, if_false]
end
end Mine

end
section
set_option maxRecDepth 100000
set_option maxHeartbeats 8000000
namespace Mine
open Builtin Builtin.Str in
noncomputable def findTo (x y : Str) (i j : Int) : Int := match occurrences x y (fromIndex x.length i) (min (max 0 (if j < 0 then j + x.length else j)).toNat x.length) 1 with | k :: _ => (k : Int) | [] => -1
open Builtin Builtin.Str in
theorem gives_find_to (x y : Str) (i j : Int) (t u v v' : Tok) : Gives («str.find» ⟨[.str x t, .str y u, .int i v, .int j v'], []⟩) (.int (findTo x y i j)) := by
  show Gives (match occurrences x y (fromIndex x.length i) (min (max 0 (if j < 0 then j + x.length else j)).toNat x.length) 1 with | k :: _ => retInt k | [] => (do rule "str.find.not-found"; retInt (-1))) _
  unfold findTo
  cases occurrences x y (fromIndex x.length i) (min (max 0 (if j < 0 then j + x.length else j)).toNat x.length) 1 with
  | nil => exact .rule (.of_eq rfl)
  | cons k _ => exact .of_eq rfl
section
variable {prog : Program} {w : World} {A : Around} {E : Value → Shared → Prop} {s : Shared} {h₀ : Heap} {L D : Addr} {m : Str → Option Value} {news news' : List (Addr × Obj)} {n : Nat}
theorem find_to {x y : Str} {i j : Int} {t u v v' : Tok} {Q : Value → Shared → Prop} (hq : Q (.int (findTo x y i j) s.toks) { s with toks := s.toks + 1 }) : wpAny (model prog w) A (call (.builtin "str.find") [.str x t, .str y u, .int i v, .int j v']) Q E s :=
  call_gives F.slot_str_find (typeIs_str _ _ _) F.entry_str_find (F.args_str_find_4 _ _ _ _) (gives_find_to x y i j t u v v') hq
theorem strs_size (l : List (Str × Tok)) : (strValues l).toArray.size = l.length := by simp [strValues]
theorem itemHead {value slice : PySem.Expr} {u : Tok} {l : List (Str × Tok)} {Q : Value → Shared → Prop} (N : News h₀ L s.heap news) (hm : (D, PySem.W.listOf (strValues l).toArray n) ∈ news) (hl : 1 ≤ l.length)
    (h : ∀ t, Q (.str ((l.map (·.1)).headD Str.empty) t) s)
    (hs : subscripted slice false (.ref D) (.int 0 u) = operate [.ref D, .int 0 u] (getItem (.ref D) (.int 0 u)) := by with_unfolding_all rfl) :
    wpAny (model prog w) A (subscriptTail value slice (.ref D) (.int 0 u)) Q E s := by
  cases l with
  | nil => simp at hl
  | cons p r => exact itemN N hm (by decide) (by decide) (v := .str p.1 p.2) (by simp [strValues]) (h p.2) hs
theorem itemLast {value slice : PySem.Expr} {u : Tok} {l : List (Str × Tok)} {Q : Value → Shared → Prop} (N : News h₀ L s.heap news) (hm : (D, PySem.W.listOf (strValues l).toArray n) ∈ news) (hl : 1 ≤ l.length) (hz : l.length ≤ sizeLine)
    (h : ∀ t, Q (.str ((l.map (·.1)).getLastD Str.empty) t) s)
    (hs : subscripted slice false (.ref D) (.int (-1) u) = operate [.ref D, .int (-1) u] (getItem (.ref D) (.int (-1) u)) := by with_unfolding_all rfl) :
    wpAny (model prog w) A (subscriptTail value slice (.ref D) (.int (-1) u)) Q E s := by
  have hne : l ≠ [] := by intro e; rw [e] at hl; simp at hl
  obtain ⟨r, p, rfl⟩ : ∃ r p, l = r ++ [p] := ⟨l.dropLast, l.getLast hne, (List.dropLast_concat_getLast hne).symm⟩
  refine itemNeg N hm (by decide) (by rw [strs_size]; omega) (by decide) (v := .str p.1 p.2) ?_ ?_ hs
  · have e : (-1 + (((strValues (r ++ [p])).toArray.size : Nat) : Int)).toNat = r.length := by rw [strs_size]; simp; omega
    rw [e]
    simp [strValues]
  · have := h p.2
    simpa using this
theorem delHead {u : Tok} {l : List (Str × Tok)} {Q : Unit → Shared → Prop} (_hm : (D, PySem.W.listOf (strValues l).toArray n) ∈ news) (F : Fr h₀ L s.heap m) (N : News h₀ L s.heap news) (hl : 1 ≤ l.length) (hz : l.length ≤ 10000)
    (U : Upd D (PySem.W.listOf (strValues l).toArray n) (PySem.W.listOf (strValues l.tail).toArray (n + 1)) news news')
    (h : ∀ h', Fr h₀ L h' m → News h₀ L h' news' → Q () { s with heap := h' }) : wpAny (model prog w) A (delItem (.ref D) (.int 0 u)) Q E s := by
  cases l with
  | nil => simp at hl
  | cons p r =>
    refine delN (j := 0) F N ?_ (by decide) ?_ ?_ U (by rw [strs_size, sizeLine_eq]; omega) h
    · rw [strs_size]; simp [seqIndex?]
    · simp [strValues]
    · rw [strs_size, strs_size]; simp
theorem delLast {u : Tok} {l : List (Str × Tok)} {Q : Unit → Shared → Prop} (_hm : (D, PySem.W.listOf (strValues l).toArray n) ∈ news) (F : Fr h₀ L s.heap m) (N : News h₀ L s.heap news) (hl : 1 ≤ l.length) (hz : l.length ≤ 10000)
    (U : Upd D (PySem.W.listOf (strValues l).toArray n) (PySem.W.listOf (strValues l.dropLast).toArray (n + 1)) news news')
    (h : ∀ h', Fr h₀ L h' m → News h₀ L h' news' → Q () { s with heap := h' }) : wpAny (model prog w) A (delItem (.ref D) (.int (-1) u)) Q E s := by
  have hne : l ≠ [] := by intro e; rw [e] at hl; simp at hl
  obtain ⟨r, p, rfl⟩ : ∃ r p, l = r ++ [p] := ⟨l.dropLast, l.getLast hne, (List.dropLast_concat_getLast hne).symm⟩
  have e : (r ++ [p]).dropLast = r := by simp
  rw [e] at U
  refine delN (j := r.length) F N ?_ (by decide) ?_ ?_ U (by rw [strs_size, sizeLine_eq]; omega) h
  · rw [strs_size]; simp [seqIndex?]
    omega
  · simp only [strValues, List.map_append, List.map_cons, List.map_nil, List.eraseIdxIfInBounds_toArray]
    rw [List.eraseIdx_append_of_length_le (by simp)]
    simp
  · rw [strs_size, strs_size]; simp
end
noncomputable def mkDots : Str := Str.ofString "..."
noncomputable def midFn (got : Str) (stop : Int) : List Str → Int → Bool
  | [], _ => true
  | w :: r, p => if findTo got w p stop < 0 then false else midFn got stop r (findTo got w p stop + w.length)
noncomputable def ellGo3 (ws : List Str) (got : Str) (p e : Int) : Bool := if p > e then false else midFn got e ws p
noncomputable def ellGo2 (ws : List Str) (got : Str) (p : Int) : Bool :=
  if (ws.getLastD Str.empty).length = 0 then ellGo3 ws got p got.length
  else if Txt.endswith got (ws.getLastD Str.empty) = true then ellGo3 ws.dropLast got p ((got.length : Int) - (ws.getLastD Str.empty).length) else false
noncomputable def ellGo (ws : List Str) (got : Str) : Bool :=
  if (ws.headD Str.empty).length = 0 then ellGo2 ws got 0
  else if Txt.startswith got (ws.headD Str.empty) = true then ellGo2 ws.tail got (ws.headD Str.empty).length else false
noncomputable def ellFn (want got : Str) : Bool := if (Builtin.Str.occurrences want mkDots 0 want.length 1).isEmpty = true then want == got else ellGo (Txt.split want mkDots) got
end Mine

end
section
set_option maxRecDepth 100000
set_option maxHeartbeats 8000000
namespace Mine
theorem allLt_ne {d : Addr} : ∀ {l : List (Addr × Obj)}, AllLt d l → ∀ p ∈ l, p.1 ≠ d
  | [], _, _, h => nomatch h
  | _ :: _, x, p, h => by
    rcases List.mem_cons.mp h with rfl | h
    · exact Nat.ne_of_lt x.1
    · exact allLt_ne x.2 p h
open Builtin Builtin.Str in
theorem kind_ge (x : Str) : ¬ Builtin.Str.strKind x < Builtin.Str.strKind mkDots := by
  have e : Builtin.Str.strKind mkDots = 1 := by decide +kernel
  rw [e]
  unfold Builtin.Str.strKind
  split
  · omega
  · split <;> omega
open Builtin Builtin.Str StrLaws in
theorem split_two {want : Str} (h : (occurrences want mkDots 0 want.length 1).isEmpty = false) : 2 ≤ (Txt.split want mkDots).length := by
  obtain ⟨i, h1, h2⟩ := (found_iff want mkDots).mp (by rw [h]; rfl)
  obtain ⟨f, hG, hn⟩ := occ_tight want mkDots (by decide +kernel)
  have hlen : ¬ want.length < mkDots.length := by omega
  unfold Txt.split
  rw [if_neg (by simp only [Bool.or_eq_true, decide_eq_true_eq]; rintro (h | h); exact hlen h; exact kind_ge want h)]
  cases hc : occurrences want mkDots 0 want.length (want.length + 1) with
  | nil =>
    rw [hc] at hG
    have hf : f = 0 := hG
    exact absurd ⟨h1, h2⟩ (hn i (by omega))
  | cons c r =>
    rw [if_neg (by simp)]
    rw [length_partsBetween]
    simp
theorem len_two {want : Str} {l : List (Str × Tok)} (e : l.map (·.1) = Txt.split want mkDots) (h : (Builtin.Str.occurrences want mkDots 0 want.length 1).isEmpty = false) : 2 ≤ l.length := by
  have := split_two h
  rw [← e, List.length_map] at this
  exact this
noncomputable def PartsOk (l : List (Str × Tok)) : Prop := ∀ a ∈ l.map (·.1), a.length ≤ 1000
theorem PartsOk.tail {l : List (Str × Tok)} (h : PartsOk l) : PartsOk l.tail := by
  intro a ha
  rw [List.map_tail] at ha
  exact h a (List.mem_of_mem_tail ha)
theorem PartsOk.drop {l : List (Str × Tok)} (h : PartsOk l) : PartsOk l.dropLast := by
  intro a ha
  rw [List.map_dropLast] at ha
  exact h a ((List.dropLast_sublist _).subset ha)
theorem PartsOk.head {l : List (Str × Tok)} (h : PartsOk l) : ((l.map (·.1)).headD Str.empty).length ≤ 1000 := by
  cases l with
  | nil => show 0 ≤ 1000; omega
  | cons p r => exact h _ (.head _)
theorem PartsOk.last {l : List (Str × Tok)} (h : PartsOk l) : ((l.map (·.1)).getLastD Str.empty).length ≤ 1000 := by
  unfold PartsOk at h
  revert h
  generalize l.map (·.1) = q
  intro h
  cases hq : q.getLast? with
  | none => rw [List.getLastD_eq_getLast?, hq]; show 0 ≤ 1000; omega
  | some a => rw [List.getLastD_eq_getLast?, hq]; exact h a (List.mem_of_getLast? hq)
end Mine
namespace Mine
section
variable {prog : Program} {w : World} {A : Around} {E : Value → Shared → Prop} {s : Shared} {h₀ : Heap} {L : Addr} {m : Str → Option Value} {news : List (Addr × Obj)}
theorem split_my {x y : Str} {t u : Tok} {Q : Value → Shared → Prop} (hF : Fr h₀ L s.heap m) (hN : News h₀ L s.heap news) (hy : (y.length == 0) = false) (hx : x.length ≤ 1000)
    (h : ∀ D l h' k, l.map (·.1) = Txt.split x y → PartsOk l → l.length ≤ 1002 → Fr h₀ L h' m → News h₀ L h' ((D, PySem.W.listOf (strValues l).toArray 0) :: news) → (∀ p ∈ news, p.1 ≠ D) → Q (.ref D) { s with heap := h', toks := k }) :
    wpAny (model prog w) A (call (.builtin "str.split") [.str x t, .str y u]) Q E s :=
  splitN1 hF hN hy (fun l h' k e F N => h _ l h' k e (fun a ha => by rw [e] at ha; exact Nat.le_trans (part_short ha) hx) (by
    have h1 : (l.map (·.1)).length = (Txt.split x y).length := by rw [e]
    rw [List.length_map] at h1
    rw [h1]
    unfold Txt.split
    split
    · simp
    · split
      · simp
      · rw [length_partsBetween]
        have := StrLaws.occ_length_le_len x y 0 x.length (x.length + 1)
        omega) F N fun p hp => Nat.ne_of_lt (Heap.lt_size (hN p hp).1)) (by rw [sizeLine_eq]; omega)
end
end Mine

end
section
set_option maxRecDepth 100000
set_option maxHeartbeats 8000000
namespace Mine
section
variable {prog : Program} {w : World} {A : Around} {E : Value → Shared → Prop} {s : Shared} {env : Env} {h₀ : Heap} {body : List Stmt} {Q : Flow → Shared → Prop}
theorem strs_at {l : List (Str × Tok)} {i : Nat} {v : Value} (h : (strValues l).toArray[i]? = some v) : ∃ x t, v = .str x t ∧ (l.map (·.1)).drop i = x :: (l.map (·.1)).drop (i + 1) := by
  rw [List.getElem?_toArray, strValues, List.getElem?_map] at h
  cases hi : l[i]? with
  | none => rw [hi] at h; cases h
  | some p =>
    rw [hi] at h
    refine ⟨p.1, p.2, (Option.some.inj h).symm, ?_⟩
    obtain ⟨hlt, he⟩ := List.getElem?_eq_some_iff.mp hi
    have : i < (l.map (·.1)).length := by rw [List.length_map]; exact hlt
    rw [List.drop_eq_getElem_cons this]
    simp [he]
theorem ell_iter {D : Addr} {ls : List (Str × Tok)} {n : Nat} {m₀ : Str → Option Value} {news all : List (Addr × Obj)} {got : Str} {e p0 : Int} {tp0 : Tok} {R : Bool}
    (hh : A.handled = none) (hpo : PartsOk ls) (F : Fr h₀ env.locals s.heap m₀) (N : News h₀ env.locals s.heap all) (hm : (D, PySem.W.listOf (strValues ls).toArray n) ∈ all) (hs : ∀ p ∈ news, p ∈ all) (hoff : ∀ p ∈ news, p.1 ≠ D)
    (hp0 : m₀ (Str.ofString "startpos") = some (.int p0 tp0)) {te : Tok} (_he : m₀ (Str.ofString "endpos") = some (.int e te)) (hR : midFn got e (ls.map (·.1)) p0 = R)
    (turn : ∀ v tv p tp I oI h tk r, v.length ≤ 1000 → Fr h₀ env.locals h (fun y => if y = Str.ofString "w" then some (.str v tv) else if y = Str.ofString "startpos" then some (.int p tp) else m₀ y) →
      News h₀ env.locals h ((I, oI) :: (D, PySem.W.listOf (strValues ls).toArray n) :: news) → (∀ p ∈ news, p.1 ≠ I ∧ p.1 ≠ D) → I ≠ D → midFn got e (v :: r) p = R →
      wpAny (model prog w) A (execs body env) (TurnEnd h₀ env.locals [(I, oI), (D, PySem.W.listOf (strValues ls).toArray n)] (fun m' nw => nw = news ∧ ∃ p' tp' u, m' = (fun z => if z = Str.ofString "startpos" then some (.int p' tp') else if z = Str.ofString "w" then u else m₀ z) ∧ midFn got e r p' = R) Q { s with heap := h, toks := tk }) E { s with heap := h, toks := tk })
    (done : ∀ p tp u h tk, Fr h₀ env.locals h (fun z => if z = Str.ofString "startpos" then some (.int p tp) else if z = Str.ofString "w" then u else m₀ z) → News h₀ env.locals h ((D, PySem.W.listOf (strValues ls).toArray n) :: news) → R = true → Q .next { s with heap := h, toks := tk }) :
    MyIter prog w A h₀ env (Str.ofString "w") body Q E (.ref D) s := by
  have hne : Str.ofString "startpos" ≠ Str.ofString "w" := by decide +kernel
  refine iterL (m₀ := m₀) (news := news) (fun i m' nw => nw = news ∧ ∃ p' tp' u, m' = (fun z => if z = Str.ofString "startpos" then some (.int p' tp') else if z = Str.ofString "w" then u else m₀ z) ∧ midFn got e ((ls.map (·.1)).drop i) p' = R) hh F
    (fun p hp => by
      rcases List.mem_cons.mp hp with rfl | hp
      · exact N _ hm
      · exact N p (hs p hp)) hoff ⟨rfl, p0, tp0, m₀ (Str.ofString "w"), ?_, hR⟩ ?_ ?_
  · funext z
    by_cases h1 : z = Str.ofString "startpos"
    · rw [if_pos h1, h1]; exact hp0
    · rw [if_neg h1]
      by_cases h2 : z = Str.ofString "w"
      · rw [if_pos h2, h2]
      · rw [if_neg h2]
  · rintro i v m₁ nw I oI h tk hv ⟨rfl, p', tp', u, rfl, hR'⟩ F₁ N₁ ho hI
    obtain ⟨x, t, rfl, hd⟩ := strs_at hv
    rw [hd] at hR'
    refine turn x t p' tp' I oI h tk _ (hpo x (List.mem_of_mem_drop (by rw [hd]; exact List.mem_cons_self))) ?_ N₁ ho hI hR'
    have e1 : (fun y => if y = Str.ofString "w" then some (Value.str x t) else if y = Str.ofString "startpos" then some (.int p' tp') else if y = Str.ofString "w" then u else m₀ y) = (fun y => if y = Str.ofString "w" then some (Value.str x t) else if y = Str.ofString "startpos" then some (.int p' tp') else m₀ y) := by
      funext z
      by_cases h2 : z = Str.ofString "w"
      · rw [if_pos h2, if_pos h2]
      · rw [if_neg h2, if_neg h2, if_neg h2]
    rw [e1] at F₁
    exact F₁
  · rintro m₁ nw h tk ⟨rfl, p', tp', u, rfl, hR'⟩ F₁ N₁ ho
    refine done p' tp' u h tk F₁ N₁ ?_
    rw [strs_size, ← List.length_map (f := fun x : Str × Tok => x.1), List.drop_length] at hR'
    exact hR'.symm
end
theorem map4 {a b : Str} {A B C D : Option Value} {m₀ : Str → Option Value} : (fun y => if y = a then A else if y = a then B else if y = b then C else if y = a then D else m₀ y) = fun z => if z = a then A else if z = b then C else m₀ z := by
  funext y
  by_cases h1 : y = a
  · simp [h1]
  · simp only [if_neg h1]
theorem ell_no {want got : Str} (h : (Builtin.Str.occurrences want (Str.ofString "...") 0 want.length 1).isEmpty = true) : (want == got) = ellFn want got := by
  unfold ellFn
  have h' : (Builtin.Str.occurrences want mkDots 0 want.length 1).isEmpty = true := h
  rw [if_pos h']
theorem ell_yes {want got : Str} {l : List (Str × Tok)} (h : (Builtin.Str.occurrences want (Str.ofString "...") 0 want.length 1).isEmpty = false) (e : l.map (fun x => x.1) = Txt.split want (Str.ofString "...")) : ellFn want got = ellGo (l.map (·.1)) got := by
  unfold ellFn
  have h' : (Builtin.Str.occurrences want mkDots 0 want.length 1).isEmpty = false := h
  have e' : l.map (fun x => x.1) = Txt.split want mkDots := e
  rw [h', ← e', if_neg Bool.false_ne_true]
section
variable {l : List (Str × Tok)} {got : Str} {p e : Int}
theorem ellGo_a (h : (((l.map (fun x => x.1)).headD Str.empty).length : Int) = 0) : ellGo (l.map (fun x => x.1)) got = ellGo2 (l.map (fun x => x.1)) got 0 := by
  unfold ellGo; rw [if_pos (by omega)]
theorem ellGo_b (h : (((l.map (fun x => x.1)).headD Str.empty).length : Int) ≠ 0) (h2 : Txt.startswith got ((l.map (fun x => x.1)).headD Str.empty) = true) :
    ellGo (l.map (fun x => x.1)) got = ellGo2 (l.tail.map (fun x => x.1)) got (((l.map (fun x => x.1)).headD Str.empty).length : Int) := by
  unfold ellGo; rw [if_neg (by omega), if_pos h2, List.map_tail]
theorem ellGo_c (h : (((l.map (fun x => x.1)).headD Str.empty).length : Int) ≠ 0) (h2 : Txt.startswith got ((l.map (fun x => x.1)).headD Str.empty) = false) : ellGo (l.map (fun x => x.1)) got = false := by
  unfold ellGo; rw [if_neg (by omega), h2]; rfl
theorem ellGo2_a (h : (((l.map (fun x => x.1)).getLastD Str.empty).length : Int) = 0) : ellGo2 (l.map (fun x => x.1)) got p = ellGo3 (l.map (fun x => x.1)) got p got.length := by
  unfold ellGo2; rw [if_pos (by omega)]
theorem ellGo2_b (h : (((l.map (fun x => x.1)).getLastD Str.empty).length : Int) ≠ 0) (h2 : Txt.endswith got ((l.map (fun x => x.1)).getLastD Str.empty) = true) :
    ellGo2 (l.map (fun x => x.1)) got p = ellGo3 (l.dropLast.map (fun x => x.1)) got p ((got.length : Int) - (((l.map (fun x => x.1)).getLastD Str.empty).length : Int)) := by
  unfold ellGo2; rw [if_neg (by omega), if_pos h2, List.map_dropLast]
theorem ellGo2_c (h : (((l.map (fun x => x.1)).getLastD Str.empty).length : Int) ≠ 0) (h2 : Txt.endswith got ((l.map (fun x => x.1)).getLastD Str.empty) = false) : ellGo2 (l.map (fun x => x.1)) got p = false := by
  unfold ellGo2; rw [if_neg (by omega), h2]; rfl
theorem ellGo3_a (h : e < p) : ellGo3 (l.map (fun x => x.1)) got p e = false := by
  unfold ellGo3; rw [if_pos h]
theorem ellGo3_b (h : ¬ e < p) : ellGo3 (l.map (fun x => x.1)) got p e = midFn got e (l.map (fun x => x.1)) p := by
  unfold ellGo3; rw [if_neg h]
end
theorem midFn_no {got v : Str} {e p : Int} {r : List Str} {R : Bool} (h : midFn got e (v :: r) p = R) (hn : findTo got v p e < 0) : R = false := by
  rw [midFn, if_pos hn] at h; exact h.symm
theorem midFn_yes {got v : Str} {e p : Int} {r : List Str} {R : Bool} (h : midFn got e (v :: r) p = R) (hn : ¬ findTo got v p e < 0) : midFn got e r (findTo got v p e + v.length) = R := by
  rw [midFn, if_neg hn] at h; exact h
end Mine

end
section
set_option maxRecDepth 100000
set_option maxHeartbeats 4000000
namespace Mine
theorem fr_keep3 {P : Prop} {h₀ h : Heap} {L : Addr} {a b c : Str} {va vb vc : Option Value} {m : Str → Option Value} (F : Fr h₀ L h m) (ha : m a = va) (hb : m b = vb) (hc : m c = vc) (H : ∀ m₀ : Str → Option Value, Fr h₀ L h (fun z => if z = a then va else if z = b then vb else if z = c then vc else m₀ z) → P) : P := H m (by
  have e : (fun z => if z = a then va else if z = b then vb else if z = c then vc else m z) = m := by
    funext z
    by_cases h1 : z = a
    · rw [if_pos h1, h1, ha]
    rw [if_neg h1]
    by_cases h2 : z = b
    · rw [if_pos h2, h2, hb]
    rw [if_neg h2]
    by_cases h3 : z = c
    · rw [if_pos h3, h3, hc]
    rw [if_neg h3]
  rw [e]
  exact F)
local macro_rules | `(tactic| k_all) => `(tactic| assumption)
theorem ell_claim (w : World) (mean : ExcName → Option Value) (mg mb : Str → Option Value) (news : List (Addr × Obj)) (want got : Str) (tw tg : Tok) (hw : want.length ≤ 1000) (hg : got.length ≤ 1000) :
    CtV w mean mg mb 21 news [.str want tw, .str got tg] (fun _ => .bool (ellFn want got)) := by
  w_top off
  k_with_none
  k_with "execs cons" => ((refine toks_gen ?_); intro ztkz; (with_reducible refine wpAny_execs_cons ?_); (try dsimp only))
  k_with "call builtin:str.split" => (k_here; (refine split_my (by k_asm) (by k_asm) (by decide) (by omega) ?_); intro zDz zlz zhz zkz zez zaz zzz zFz zNz zl1z; (have zs9z := len_two zez (by assumption)))
  k_with "exec For Name Name cons nil" => (k_here; (rename Fr _ _ _ _ => zlFz); (refine For_my zlFz (by exact rfl) (by exact rfl) ?_))
  k_with "subscriptTail Name Constant ref int" => (k_here; (refine itemHead (by k_asm) (by k_mem) (by (try simp only [List.length_tail, List.length_dropLast]); omega) ?_ (by with_unfolding_all rfl)); intro ztz; (have zhp9z := PartsOk.head (by assumption)))
  k_with "subscriptTail Name UnaryOp ref int" => (k_here; (refine itemLast (by k_asm) (by k_mem) (by (try simp only [List.length_tail, List.length_dropLast]); omega) (by rw [sizeLine_eq]; (try simp only [List.length_tail, List.length_dropLast]); omega) ?_ (by with_unfolding_all rfl)); intro ztz; (have zhp9z := PartsOk.last (by assumption)))
  k_with "delItem ref int" => (k_here; (rename Fr _ _ _ _ => zFz); (rename News _ _ _ _ => zNz); (first | ((with_reducible show wpAny _ _ (delItem (Value.ref _) (Value.int 0 _)) _ _ _); (refine delHead (by first | with_reducible k_mem | k_mem) zFz zNz (by ((try simp only [List.length_tail, List.length_dropLast]); omega)) (by ((try simp only [List.length_tail, List.length_dropLast]); omega)) (by k_upd) ?_); (intro zhz zFz zNz); (have hq9 := PartsOk.tail (by assumption))) | ((refine delLast (by first | with_reducible k_mem | k_mem) zFz zNz (by ((try simp only [List.length_tail, List.length_dropLast]); omega)) (by ((try simp only [List.length_tail, List.length_dropLast]); omega)) (by k_upd) ?_); (intro zhz zFz zNz); (have hq9 := PartsOk.drop (by assumption)))))
  k_with "call builtin:str.find" => (k_here; (refine find_to ?_))
  k_with "TurnEnd" => (dsimp only [TurnEnd])
  dsimp only [CtV, CbRet]
  k_fill
  intro dp un gd cn cs a ccd cl outer A₀ base h₀ L m s Q E B F X N T hk hdp hun hret
  refine wpAny_call ?_
  k_dflt cell_enter
  k_steps
  all_goals (try ((with_reducible show MyIter _ _ _ _ _ _ _ _ _ _ _); rename Fr _ _ _ _ => F1; refine fr_keep3 F1 (a := Str.ofString "got") (b := Str.ofString "startpos") (c := Str.ofString "endpos") (by exact rfl) (by exact rfl) (by exact rfl) fun m9 F2 => ?_; clear F1))
  all_goals (try (refine' ell_iter (got := got) (news := news) ?hh ?hpo ?kF ?kN ?km ?ks ?ko ?kp ?ke ?kR ?_ ?_; (case kF => k_asm); (case kN => k_asm); (case hh => exact rfl); (case km => k_mem); (case hpo => assumption); (case ks => (intro p hp; (repeat' (first | exact hp | refine List.Mem.tail _ ?_)))); (case ko => assumption); (case kp => exact rfl); (case ke => exact rfl); (case kR => exact rfl)))
  all_goals (try (intro v tv p tp I oI h tk r hv F₁ N₁ ho hI hR; refine absQ fun Qt hQt => ?_))
  all_goals (try (intro p tp u h tk F₁ N₁ hR))
  all_goals (try k_steps)
  all_goals (try (apply hQt; k_steps))
  all_goals (try (refine TurnGo.intro news (by assumption) (by assumption) (fun p hp => hp) (off2 (by assumption)) ⟨rfl, _, _, _, map4, midFn_yes (by assumption) (by assumption)⟩))
  all_goals (refine' cb_retB (Q := Q) hret ?_ ?_ ?_)
  all_goals (try (first | k_asm | exact cb_drop (by assumption) (fun p hp => by (repeat' (first | exact hp | refine List.Mem.tail _ ?_)))))
  all_goals (try (exact ell_no (by assumption)))
  all_goals (rw [ell_yes (by assumption) (by assumption)])
  all_goals (first | (rw [ellGo_c (by assumption) (by assumption)]; done) | rw [ellGo_a (by assumption)] | rw [ellGo_b (by assumption) (by assumption)])
  all_goals (first | done | (rw [ellGo2_c (by assumption) (by assumption)]; done) | rw [ellGo2_a (by assumption)] | rw [ellGo2_b (by assumption) (by assumption)])
  all_goals (first | done | (rw [ellGo3_a (by assumption)]; done) | rw [ellGo3_b (by first | assumption | omega)])
  all_goals (first | done | (exact (midFn_no (by assumption) (by assumption)).symm) | (symm; assumption) | skip)
end Mine

end
section
set_option maxRecDepth 100000
set_option maxHeartbeats 2000000
namespace Mine
noncomputable def replList (c : Nat) (z l : List Nat) : List Nat := l.flatMap (fun d => if d = c then z else [d])
theorem replList_append (c : Nat) (z a b : List Nat) : replList c z (a ++ b) = replList c z a ++ replList c z b := by unfold replList; rw [List.flatMap_append]
theorem replList_free (c : Nat) (z : List Nat) : ∀ l : List Nat, c ∉ l → replList c z l = l
  | [], _ => rfl
  | d :: r, h => by
    have h1 : d ≠ c := fun e => h (e ▸ List.mem_cons_self)
    have h2 := replList_free c z r (fun hm => h (List.mem_cons_of_mem _ hm))
    unfold replList at h2 ⊢
    rw [List.flatMap_cons, if_neg h1, h2]
    rfl
theorem replList_length (c : Nat) (z : List Nat) (hz : z.length = 4) : ∀ l : List Nat, (replList c z l).length ≤ 4 * l.length
  | [] => Nat.le_refl _
  | d :: r => by
    have h := replList_length c z hz r
    unfold replList at h ⊢
    rw [List.flatMap_cons, List.length_append, List.length_cons]
    split
    · omega
    · simp only [List.length_cons, List.length_nil]; omega
theorem replList_join (c : Nat) (z : List Nat) : ∀ parts : List Str, (∀ p ∈ parts, c ∉ p.cps.toList) → replList c z (Str.join ⟨#[c]⟩ parts).cps.toList = (Str.join ⟨z.toArray⟩ parts).cps.toList
  | [], _ => rfl
  | [p], h => replList_free c z _ (h p List.mem_cons_self)
  | p :: q :: r, h => by
    have ih := replList_join c z (q :: r) (fun p' hp => h p' (List.mem_cons_of_mem _ hp))
    show replList c z ((p.cps ++ #[c]) ++ (Str.join ⟨#[c]⟩ (q :: r)).cps).toList = ((p.cps ++ z.toArray) ++ (Str.join ⟨z.toArray⟩ (q :: r)).cps).toList
    simp only [Array.toList_append, replList_append, ih, replList_free c z _ (h p List.mem_cons_self)]
    have e : replList c z [c] = z := by simp [replList]
    rw [e]
/-- text.split(c) joined by z -/
noncomputable def repl1 (c : Nat) (z : List Nat) (x : Str) : Str := ⟨(replList c z x.cps.toList).toArray⟩
theorem repl1_eq (c : Nat) (z : List Nat) (x : Str) : Txt.join ⟨z.toArray⟩ (Txt.split x ⟨#[c]⟩) = repl1 c z x := by
  rw [eq_of_beq (join_plain_closes _ _)]
  have h := replList_join c z (Txt.split x ⟨#[c]⟩) (StrLaws.split_free x c)
  rw [StrLaws.join_split] at h
  unfold repl1
  rw [h]
theorem repl1_length (c : Nat) (z : List Nat) (hz : z.length = 4) (x : Str) : (repl1 c z x).length ≤ 4 * x.length := by
  have := replList_length c z hz x.cps.toList
  show (replList c z x.cps.toList).toArray.size ≤ 4 * x.cps.size
  simpa using this
theorem joinOk_split {x y z : Str} (hx : x.length ≤ 2000) (hz : z.length ≤ 10) : JoinOk z (Txt.split x y) = true := by
  have hlen : (Txt.split x y).length ≤ 2002 := by
    unfold Txt.split
    split
    · simp
    · split
      · simp
      · rw [length_partsBetween]
        have := StrLaws.occ_length_le_len x y 0 x.length (x.length + 1)
        omega
  refine joinOk_of ?_
  have h1 := StrLaws.sumLen_le (B := 2000) (Txt.split x y) (fun a ha => Nat.le_trans (part_short ha) hx)
  have h2 : (Txt.split x y).length * 2000 ≤ 2002 * 2000 := Nat.mul_le_mul_right _ hlen
  have h3 : (Txt.split x y).length * z.length ≤ 2002 * 10 := Nat.mul_le_mul hlen hz
  omega
noncomputable def replFn (x : Str) : Str := repl1 66 [66, 66, 66, 66] (repl1 98 [98, 98, 98, 98] (repl1 65 [65, 65, 65, 65] (repl1 97 [97, 97, 97, 97] x)))
section
variable {prog : Program} {w : World} {A : Around} {E : Value → Shared → Prop} {s : Shared} {h₀ : Heap} {L D : Addr} {m : Str → Option Value} {news : List (Addr × Obj)}
theorem split_one {x y : Str} {t u : Tok} {Q : Value → Shared → Prop} (hF : Fr h₀ L s.heap m) (hN : News h₀ L s.heap news) (hy : (y.length == 0) = false) (hx : x.length ≤ 2000)
    (h : ∀ D l h' k, l.map (·.1) = Txt.split x y → Fr h₀ L h' m → News h₀ L h' ((D, PySem.W.listOf (strValues l).toArray 0) :: news) → (∀ p ∈ news, p.1 < D) → Q (.ref D) { s with heap := h', toks := k }) :
    wpAny (model prog w) A (call (.builtin "str.split") [.str x t, .str y u]) Q E s :=
  splitN1 hF hN hy (fun l h' k e F N => h _ l h' k e F N fun p hp => Heap.lt_size (hN p hp).1) (by rw [sizeLine_eq]; omega)
theorem join_one {x y y' : Str} {c : Nat} {z : List Nat} {l : List (Str × Tok)} {n : Nat} {t : Tok} {Q : Value → Shared → Prop} (hN : News h₀ L s.heap news) (hm : (D, PySem.W.listOf (strValues l).toArray n) ∈ news) (e : l.map (fun p => p.1) = Txt.split x y') (hc : y' = ⟨#[c]⟩) (hz : y = ⟨z.toArray⟩) (hz4 : z.length = 4) (hx : x.length ≤ 2000)
    (h : ∀ t' k, (repl1 c z x).length ≤ 4 * x.length → Q (.str (repl1 c z x) t') { s with toks := k }) : wpAny (model prog w) A (call (.builtin "str.join") [.str y t, .ref D]) Q E s := by
  subst hc; subst hz
  refine SC.join (hN.isList hm) e (joinOk_split hx (by show z.toArray.size ≤ 10; rw [List.size_toArray]; omega)) fun t' k => ?_
  rw [repl1_eq]
  exact h t' k (repl1_length c z hz4 x)
end
section
variable {prog : Program} {w : World} {A : Around} {E : Value → Shared → Prop} {s : Shared} {h₀ : Heap} {L D : Addr} {m : Str → Option Value} {news : List (Addr × Obj)}
theorem cut_two {value slice : PySem.Expr} {t : Addr} {items its' : Array Value} {k : Nat} {u : Tok} {Q : Value → Shared → Prop}
    (F : Fr h₀ L s.heap m) (N : News h₀ L s.heap news) (hm : (t, ({ cls := .type "tuple", data := .seq items k } : Obj)) ∈ news) (ha : 2 ≤ items.size) (hz : items.size ≤ 100) (e : (items.toList.drop 2).toArray = its')
    (h : ∀ D h', Fr h₀ L h' m → News h₀ L h' ((D, { cls := .type "tuple", data := .seq its' }) :: news) → (∀ p ∈ news, p.1 < D) → Q (.ref D) { s with heap := h' })
    (hs : subscripted slice false (.ref t) (.ref s.heap.objs.size) = operate [.ref s.heap.objs.size, .ref t] (getItem (.ref t) (.ref s.heap.objs.size)))
    (hg : ∀ r, letTemporaryGo value (.ref t) r = pure ()) :
    wpAny (model prog w) A (subscriptTail value slice (.ref t) (.ref s.heap.objs.size)) Q E { s with heap := s.heap.push { cls := .type "slice", data := .fields #[.int ((2 : Nat) : Int) u, .none, .none] } } := by
  subst e
  exact slice_tuple_from F N ⟨_, (N _ hm).1, rfl, _, rfl⟩ (by decide) ha (fun h' F' N' => h _ h' F' N' fun p hp => Nat.lt_succ_of_lt (Heap.lt_size (N p hp).1)) hs hg (by rw [sizeLine_eq]; omega)
end
theorem repl_claim (w : World) (mean : ExcName → Option Value) (mg mb : Str → Option Value) (news : List (Addr × Obj)) (x : Str) (t t1 t2 t3 t4 t5 t6 t7 t8 : Tok) (hx : x.length ≤ 20) :
    CtV w mean mg mb 28 news [.str x t, .str (Str.ofString "a") t1, .str (Str.ofString "aaaa") t2, .str (Str.ofString "A") t3, .str (Str.ofString "AAAA") t4, .str (Str.ofString "b") t5, .str (Str.ofString "bbbb") t6, .str (Str.ofString "B") t7, .str (Str.ofString "BBBB") t8] (fun t => .str (replFn x) t) := by
  w_top off
  k_with_none
  k_with "call builtin:str.split" => (k_here; (refine split_one (by k_asm) (by k_asm) (by decide) (by omega) ?_); intro zDz zlz zhz zkz zez zFz zNz zl1z; (try k_lt zl1z))
  k_with "call builtin:str.join" => (k_here; (first | (refine join_one (c := 97) (z := [97, 97, 97, 97]) (by k_asm) (by k_mem) (by assumption) (by decide +kernel) (by decide +kernel) (by rfl) (by omega) ?_) | (refine join_one (c := 65) (z := [65, 65, 65, 65]) (by k_asm) (by k_mem) (by assumption) (by decide +kernel) (by decide +kernel) (by rfl) (by omega) ?_) | (refine join_one (c := 98) (z := [98, 98, 98, 98]) (by k_asm) (by k_mem) (by assumption) (by decide +kernel) (by decide +kernel) (by rfl) (by omega) ?_) | (refine join_one (c := 66) (z := [66, 66, 66, 66]) (by k_asm) (by k_mem) (by assumption) (by decide +kernel) (by decide +kernel) (by rfl) (by omega) ?_)); intro ztz zkz zhlz)
  k_with "subscriptTail Name Slice ref ref" => (k_here; (with_reducible show wpAny _ _ (subscriptTail _ (PySem.Expr.Slice (some _) none none _) (Value.ref _) (Value.ref _)) _ _ _); k_dflt (refine cut_two (s := ⟨_, _, _, _, _⟩) (by first | with_reducible k_asm | k_asm) (by first | with_reducible k_asm | k_asm) (by first | with_reducible k_mem | k_mem) (by exact Nat.le_of_ble_eq_true rfl) (by exact Nat.le_of_ble_eq_true rfl) (by exact rfl) ?_ (by with_unfolding_all rfl) (by kmk_pure)); intro zDz zhz zFz zNz zl1z; (try k_lt zl1z))
  k_with "exec While Name" => (k_here; k_dflt (refine whl_start 100 ?_))
  dsimp only [CtV, CbRet]
  k_fill
  intro dp un gd cn cs a ccd cl outer A₀ base h₀ L m s Q E B F X N T hk hdp hun hret
  refine wpAny_call ?_
  k_dflt (refine' kp_rest ?k1 ?k2 ?k3 ?k4 ?k5 ?kA ?kF ?kK ?k6 ?k7 ?k8 ?kV ?kP ?kG ?kB ?_ ?c2 ?c3 ?c4 ?c5; (case kA => exact rfl); (case kF => exact rfl); (case kK => assumption); (case k1 => k_asm); (case k2 => k_asm); (case k3 => k_asm); (case k4 => k_asm); (case k5 => k_asm); (case k6 => k_is); (case k7 => k_is); (case k8 => ktr_room); (case kV => kl_lit); (case kP => exact rfl); (case kG => exact fun _ => rfl); (case kB => exact fun _ => locs rfl); (case c5 => decide); (case c2 => exact rfl); (case c3 => exact rfl); (case c4 => exact rfl); k_whole; intro D' g' L' h' l1 FG' F' N' B' X' T'; (try k_lt l1); (try dsimp only); (try k_lift B'); (try k_fold))
  k_steps
  refine' cb_retS (Q := Q) hret ?_ ?_ ?_
  · rfl
  · k_asm
  · exact cb_drop (by assumption) (fun p hp => by (repeat' (first | exact hp | refine List.Mem.tail _ ?_)))
end Mine

end
section
set_option maxRecDepth 100000
set_option maxHeartbeats 2000000
namespace Mine
noncomputable def preOf (n : Int) : Int := if (n - 3).fdiv 2 > 0 then (n - 3).fdiv 2 else 0
noncomputable def postOf (n : Int) : Int := if n - 3 - preOf n > 0 then n - 3 - preOf n else 0
noncomputable def cramFn (x : Str) (n : Int) : Str := Txt.slice x none (some (preOf n)) ++ Str.ofString "..." ++ Txt.slice x (some ((x.length : Int) - postOf n)) none
theorem cram_claim (w : World) (mean : ExcName → Option Value) (mg mb : Str → Option Value) (news : List (Addr × Obj)) (x : Str) (t : Tok) (n : Int) (u : Tok) (hx : x.length ≤ 20000) (h1 : -5 ≤ n) (h2 : n < x.length) :
    CtV w mean mg mb 35 news [.str x t, .int n u] (fun t => .str (cramFn x n) t) := by
  w_top off
  k_with_none
  dsimp only [CtV, CbRet]
  k_fill
  intro dp un gd cn cs a ccd cl outer A₀ base h₀ L m s Q E B F X N T hk hdp hun hret
  refine wpAny_call ?_
  k_dflt cell_enter
  k_steps
  refine' cb_retS (Q := Q) hret ?_ ?_ ?_
  · rfl
  · k_asm
  · k_asm
end Mine

end
section
set_option maxRecDepth 100000
set_option maxHeartbeats 2000000
namespace Mine
noncomputable def dropStr (x : Str) (k : Nat) : Str := ⟨(x.cps.toList.drop k).toArray⟩
noncomputable def takeStr (x : Str) (k : Nat) : Str := ⟨(x.cps.toList.take k).toArray⟩
noncomputable def chStr (x : Str) (k : Nat) : Str := ⟨#[x.cps.toList.getD k 0]⟩
theorem dropStr_len (x : Str) (k : Nat) : (dropStr x k).length = x.length - k := by
  show (x.cps.toList.drop k).toArray.size = x.cps.size - k
  simp
theorem takeStr_len (x : Str) (k : Nat) : (takeStr x k).length = min k x.length := by
  show (x.cps.toList.take k).toArray.size = min k x.cps.size
  simp
theorem chStr_len (x : Str) (k : Nat) : (chStr x k).length = 1 := rfl
open Builtin.Str in
theorem slice_plain (x : Str) {a b : Nat} (hab : a ≤ b) (hb : b ≤ x.length) : Txt.slice x (some (a : Int)) (some (b : Int)) = ⟨((x.cps.toList.drop a).take (b - a)).toArray⟩ := by
  unfold Txt.slice
  have h := StrLaws.sliced_plain x hab hb
  split
  · rename_i hc
    have h1 : (strSliceIndices (some (a : Int)) (some (b : Int)) 1 x.length).length = x.length := by simpa using hc
    rw [StrLaws.strSliceIndices_plain hab hb] at h1
    simp at h1
    have ha : a = 0 := by omega
    have hb' : b = x.length := by omega
    subst ha; subst hb'
    obtain ⟨⟨l⟩⟩ := x
    simp [Str.length]
  · rw [h]
theorem slice_from (x : Str) {k : Nat} (hk : k ≤ x.length) : Txt.slice x (some (k : Int)) none = dropStr x k := by
  have e : Txt.slice x (some (k : Int)) none = Txt.slice x (some (k : Int)) (some (x.length : Int)) := by
    unfold Txt.slice
    rw [StrLaws.sliceIdx_none_hi]
  rw [e, slice_plain x hk (Nat.le_refl _)]
  unfold dropStr
  rw [List.take_of_length_le (by simp [Str.length])]
theorem slice_upto (x : Str) {k : Nat} (hk : k ≤ x.length) : Txt.slice x none (some (k : Int)) = takeStr x k := by
  have e : Txt.slice x none (some (k : Int)) = Txt.slice x (some ((0 : Nat) : Int)) (some (k : Int)) := by
    unfold Txt.slice
    rw [StrLaws.sliceIdx_none_lo]
    rfl
  rw [e, slice_plain x (Nat.zero_le _) hk]
  rfl
theorem slice_upneg (x : Str) {q : Nat} (h1 : 1 ≤ q) (hq : q ≤ x.length) : Txt.slice x none (some (-(q : Int))) = takeStr x (x.length - q) := by
  have e : Txt.slice x none (some (-(q : Int))) = Txt.slice x none (some (((x.length - q : Nat)) : Int)) := by
    unfold Txt.slice
    rw [StrLaws.sliceIdx_neg_hi _ _ (by omega) (by omega)]
    have : -(q : Int) + x.length = ((x.length - q : Nat) : Int) := by omega
    rw [this]
  rw [e, slice_upto x (by omega)]
theorem slice_all (x : Str) : Txt.slice x none none = takeStr x x.length := by
  have e : Txt.slice x none none = Txt.slice x none (some (x.length : Int)) := by
    unfold Txt.slice
    rw [StrLaws.sliceIdx_none_hi]
  rw [e, slice_upto x (Nat.le_refl _)]
theorem item_ch (x : Str) {k : Nat} (hk : k < x.length) : Txt.item x (k : Int) = chStr x k := by
  unfold Txt.item Txt.charAt seqIndex?
  have h0 : ¬ ((k : Int) < 0) := by omega
  have h1 : (0 ≤ (k : Int) && (k : Int) < (x.length : Int)) = true := by simp; omega
  simp only [if_neg h0]
  rw [if_pos h1]
  unfold chStr
  obtain ⟨⟨l⟩⟩ := x
  simp
theorem item_neg (x : Str) {q : Nat} (h1 : 1 ≤ q) (hq : q ≤ x.length) : Txt.item x (-(q : Int)) = chStr x (x.length - q) := by
  unfold Txt.item Txt.charAt seqIndex?
  have h0 : (-(q : Int) < 0) := by omega
  have e : -(q : Int) + x.length = ((x.length - q : Nat) : Int) := by omega
  simp only [if_pos h0, e]
  have h2 : (0 ≤ ((x.length - q : Nat) : Int) && ((x.length - q : Nat) : Int) < (x.length : Int)) = true := by simp; omega
  rw [if_pos h2]
  unfold chStr
  obtain ⟨⟨l⟩⟩ := x
  simp
end Mine

end
section
set_option maxRecDepth 100000
set_option maxHeartbeats 2000000
namespace Mine

noncomputable def revStr (x : Str) : Str := ⟨x.cps.toList.reverse.toArray⟩
theorem sliceBy_rev (x : Str) (u : Tok) : Txt.sliceBy x none none (-1, u) = revStr x := by
  have h := step_rev_list x u
  have e : (List.range x.length).map (fun k => x.cps.getD (x.length - 1 - k) 0) = x.cps.toList.reverse := by
    apply List.ext_getElem
    · simp [Str.length]
    · intro i h1 h2
      have h3 : i < x.cps.size := by simpa [Str.length] using h1
      simp only [List.getElem_map, List.getElem_range, List.getElem_reverse, Array.length_toList]
      have h4 : x.length - 1 - i < x.cps.size := by show x.cps.size - 1 - i < x.cps.size; omega
      rw [Array.getD, dif_pos h4]
      rfl
  rw [e] at h
  unfold revStr
  rw [← h]
theorem cramFn_len (x : Str) (n : Int) : (cramFn x n).length ≤ 2 * x.length + 3 := by
  unfold cramFn
  rw [Str.length_append, Str.length_append]
  have h1 := Txt.slice_le x none (some (preOf n))
  have h2 := Txt.slice_le x (some ((x.length : Int) - postOf n)) none
  have h3 : (Str.ofString "...").length = 3 := by decide +kernel
  omega
noncomputable def mirFn (x : Str) : Bool := ellFn (cramFn (replFn x) (((replFn x).length : Int) - 1)) (revStr (replFn x))
theorem mir_claim (w : World) (mean : ExcName → Option Value) (mg mb : Str → Option Value) (news : List (Addr × Obj)) (x : Str) (t : Tok) (hx : x.length ≤ 10) (hr : (replFn x).length ≤ 100) :
    CtN 2 w mean mg mb 75 news [.str x t] (fun _ => .bool (mirFn x)) := by
  w_top off
  k_with_none
  k_with "call ref" => (k_here; (with_reducible show wpAny _ _ (call (Value.ref 28) _) _ _ _); k_dflt (refine CtV.use (repl_claim _ _ _ _ _ _ _ _ _ _ _ _ _ _ _ (by omega)) (by first | with_reducible k_asm | k_asm) (by first | with_reducible k_asm | k_asm) (by first | with_reducible k_asm | k_asm) (by first | with_reducible k_asm | k_asm) (by first | with_reducible k_asm | k_asm) (by first | exact rfl | assumption) (by ktr_room) (by ktr_units) ?_); intro ztz zhz ztkz zFz zNz)
  k_with "call ref" => (k_here; (with_reducible show wpAny _ _ (call (Value.ref 35) _) _ _ _); k_dflt (refine CtV.use (cram_claim _ _ _ _ _ _ _ _ _ (by omega) (by omega) (by omega)) (by first | with_reducible k_asm | k_asm) (by first | with_reducible k_asm | k_asm) (by first | with_reducible k_asm | k_asm) (by first | with_reducible k_asm | k_asm) (by first | with_reducible k_asm | k_asm) (by first | exact rfl | assumption) (by ktr_room) (by ktr_units) ?_); intro ztz zhz ztkz zFz zNz)
  k_with "call ref" => (k_here; (with_reducible show wpAny _ _ (call (Value.ref 21) _) _ _ _); k_dflt (refine CtV.use (ell_claim _ _ _ _ _ _ _ _ _ (by (exact Nat.le_trans (cramFn_len _ _) (by omega))) (by (rw [step_rev_len]; omega))) (by first | with_reducible k_asm | k_asm) (by first | with_reducible k_asm | k_asm) (by first | with_reducible k_asm | k_asm) (by first | with_reducible k_asm | k_asm) (by first | with_reducible k_asm | k_asm) (by first | exact rfl | assumption) (by ktr_room) (by ktr_units) ?_); intro ztz zhz ztkz zFz zNz)
  dsimp only [CtN, CbRet]
  k_fill
  intro dp un gd cn cs a ccd cl outer A₀ base h₀ L m s Q E B F X N T hk hdp hun hret
  refine wpAny_call ?_
  k_dflt cell_enter
  k_steps
  refine' cb_retB (Q := Q) hret ?_ ?_ ?_
  · unfold mirFn
    rw [sliceBy_rev]
  · k_asm
  · k_asm
end Mine

end
section
set_option maxRecDepth 100000
set_option maxHeartbeats 2000000
namespace Mine
noncomputable def tupOf (its : Array Value) : Obj := { cls := .type "tuple", data := .seq its }
abbrev SpEnd (x : Str) (m₀ : Str → Option Value) (nn y : Addr) (news : List (Addr × Obj)) (f : Str → Bool) (v : Str) (tv : Tok) (ly ln : List (Str × Tok)) (m' : Str → Option Value) (nw : List (Addr × Obj)) : Prop :=
  ∃ k1' k2', nw = (nn, PySem.W.listOf (strValues (if f v then ln else ln ++ [(v, tv)])).toArray k2') :: (y, PySem.W.listOf (strValues (if f v then ly ++ [(v, tv)] else ly)).toArray k1') :: news ∧ ∃ u', m' = (fun z => if z = x then u' else m₀ z)
abbrev SpInv (x : Str) (m₀ : Str → Option Value) (nn y : Addr) (news : List (Addr × Obj)) (f : Str → Bool) (ls : List (Str × Tok)) (i : Nat) (m' : Str → Option Value) (nw : List (Addr × Obj)) : Prop :=
  ∃ ly ln k1 k2, nw = (nn, PySem.W.listOf (strValues ln).toArray k2) :: (y, PySem.W.listOf (strValues ly).toArray k1) :: news ∧ (∃ u, m' = (fun z => if z = x then u else m₀ z)) ∧
      ly.map (·.1) = ((ls.map (·.1)).take i).filter f ∧ ln.map (·.1) = ((ls.map (·.1)).take i).filter (fun v => !f v) ∧ ly.length + ln.length = min i ls.length
section
variable {prog : Program} {w : World} {A : Around} {E : Value → Shared → Prop} {s : Shared} {env : Env} {h₀ : Heap} {body : List Stmt} {Q : Flow → Shared → Prop}
theorem split_iter {D y nn : Addr} {ls : List (Str × Tok)} {n : Nat} {m₀ : Str → Option Value} {news : List (Addr × Obj)} {x : Str} {f : Str → Bool}
    (hh : A.handled = none) (F : Fr h₀ env.locals s.heap m₀) (N : News h₀ env.locals s.heap ((nn, PySem.W.listOf #[] 0) :: (y, PySem.W.listOf #[] 0) :: (D, PySem.W.listOf (strValues ls).toArray n) :: news))
    (h1 : @LT.lt Nat _ D y) (h2 : @LT.lt Nat _ y nn) (hoff : ∀ p ∈ news, p.1 ≠ D) (hy : ∀ p ∈ news, p.1 ≠ y) (hn : ∀ p ∈ news, p.1 ≠ nn)
    (turn : ∀ v tv I oI h tk ly ln k1 k2, v ∈ ls.map (·.1) → ly.length + ln.length ≤ ls.length → Fr h₀ env.locals h (fun z => if z = x then some (.str v tv) else m₀ z) →
      News h₀ env.locals h ((I, oI) :: (D, PySem.W.listOf (strValues ls).toArray n) :: (nn, PySem.W.listOf (strValues ln).toArray k2) :: (y, PySem.W.listOf (strValues ly).toArray k1) :: news) →
      (@Ne Nat I D) → (@Ne Nat I y) → (@Ne Nat I nn) → (∀ p ∈ news, p.1 ≠ I) →
      wpAny (model prog w) A (execs body env) (TurnEnd h₀ env.locals [(I, oI), (D, PySem.W.listOf (strValues ls).toArray n)] (SpEnd x m₀ nn y news f v tv ly ln) Q { s with heap := h, toks := tk }) E { s with heap := h, toks := tk })
    (done : ∀ u h tk ly ln k1 k2, ly.map (·.1) = (ls.map (·.1)).filter f → ln.map (·.1) = (ls.map (·.1)).filter (fun v => !f v) → Fr h₀ env.locals h (fun z => if z = x then u else m₀ z) →
      News h₀ env.locals h ((D, PySem.W.listOf (strValues ls).toArray n) :: (nn, PySem.W.listOf (strValues ln).toArray k2) :: (y, PySem.W.listOf (strValues ly).toArray k1) :: news) → Q .next { s with heap := h, toks := tk }) :
    MyIter prog w A h₀ env x body Q E (.ref D) s := by
  refine iterL (m₀ := m₀) (news := (nn, PySem.W.listOf #[] 0) :: (y, PySem.W.listOf #[] 0) :: news) (SpInv x m₀ nn y news f ls) hh F
    (fun p hp => by
      rcases List.mem_cons.mp hp with rfl | hp
      · exact N _ (.tail _ (.tail _ (.head _)))
      · rcases List.mem_cons.mp hp with rfl | hp
        · exact N _ (.head _)
        · rcases List.mem_cons.mp hp with rfl | hp
          · exact N _ (.tail _ (.head _))
          · exact N p (.tail _ (.tail _ (.tail _ hp)))) (fun p hp => by
      rcases List.mem_cons.mp hp with rfl | hp
      · exact Nat.ne_of_gt (Nat.lt_trans h1 h2)
      · rcases List.mem_cons.mp hp with rfl | hp
        · exact Nat.ne_of_gt h1
        · exact hoff p hp) ⟨[], [], 0, 0, rfl, ⟨m₀ x, ?_⟩, rfl, rfl, by simp⟩ ?_ ?_
  · funext z
    by_cases hz : z = x
    · rw [if_pos hz, hz]
    · rw [if_neg hz]
  · rintro i v m₁ nw I oI h tk hv ⟨ly, ln, k1, k2, rfl, ⟨u, rfl⟩, e1, e2, e3⟩ F₁ N₁ ho hI
    obtain ⟨v', t, rfl, hd⟩ := strs_at hv
    have hi : i < ls.length := by
      have := (List.getElem?_eq_some_iff.mp (by rw [List.getElem?_toArray] at hv; exact hv)).1
      simpa [strValues] using this
    have hi' : i < (ls.map (·.1)).length := by rw [List.length_map]; exact hi
    have hv' : (ls.map (·.1))[i]? = some v' := by
      have := congrArg (fun l : List Str => l[0]?) hd
      simpa using this
    have htake : (ls.map (·.1)).take (i + 1) = (ls.map (·.1)).take i ++ [v'] := by
      rw [List.take_add_one, hv']; rfl
    have hnI := ho _ (List.mem_cons_self)
    have hyI := ho _ (List.mem_cons_of_mem _ (List.mem_cons_self))
    have eF : (fun z => if z = x then some (Value.str v' t) else if z = x then u else m₀ z) = (fun z => if z = x then some (Value.str v' t) else m₀ z) := by
      funext z
      by_cases hz : z = x
      · rw [if_pos hz, if_pos hz]
      · rw [if_neg hz, if_neg hz, if_neg hz]
    rw [eF] at F₁
    refine wpAny_mono (turn v' t I oI h tk ly ln k1 k2 (List.mem_of_getElem? hv') (by omega) F₁ N₁ hI (Ne.symm hyI.1) (Ne.symm hnI.1) (fun p hp => (ho p (List.mem_cons_of_mem _ (List.mem_cons_of_mem _ hp))).1)) (fun fl s₂ h₂ => ?_) fun _ _ e => e
    have key : TurnGo h₀ env.locals [(I, oI), (D, PySem.W.listOf (strValues ls).toArray n)] (SpEnd x m₀ nn y news f v' t ly ln) { s with heap := h, toks := tk } s₂ →
        TurnGo h₀ env.locals [(I, oI), (D, PySem.W.listOf (strValues ls).toArray n)] (SpInv x m₀ nn y news f ls (i + 1)) { s with heap := h, toks := tk } s₂ := by
      rintro ⟨h', tk', m', nw', e, F', N', ho', k1', k2', rfl, u', rfl⟩
      refine ⟨h', tk', _, _, e, F', N', ho', _, _, k1', k2', rfl, ⟨u', rfl⟩, ?_, ?_, ?_⟩
      · rw [htake, List.filter_append, ← e1]
        cases hf : f v' <;> simp [hf]
      · rw [htake, List.filter_append, ← e2]
        cases hf : f v' <;> simp [hf]
      · cases hf : f v' <;> simp <;> omega
    cases fl with
    | ret r => exact h₂
    | brk => exact h₂
    | next => exact key h₂
    | cont => exact key h₂
  · rintro m₁ nw h tk ⟨ly, ln, k1, k2, rfl, ⟨u, rfl⟩, e1, e2, e3⟩ F₁ N₁ ho
    rw [strs_size, ← List.length_map (f := fun x : Str × Tok => x.1), List.take_length] at e1 e2
    exact done u h tk ly ln k1 k2 e1 e2 F₁ N₁
theorem appendS {D L : Addr} {m : Str → Option Value} {news news' : List (Addr × Obj)} {l : List (Str × Tok)} {n : Nat} {x : Str} {t : Tok} {Q : Value → Shared → Prop} (F : Fr h₀ L s.heap m) (N : News h₀ L s.heap news) (_hm : (D, PySem.W.listOf (strValues l).toArray n) ∈ news) (hl : l.length ≤ 10000)
    (U : Upd D (PySem.W.listOf (strValues l).toArray n) (PySem.W.listOf (strValues (l ++ [(x, t)])).toArray (n + 1)) news news')
    (h : ∀ h', Fr h₀ L h' m → News h₀ L h' news' → Q .none { s with heap := h' }) : wpAny (model prog w) A (call (.builtin "list.append") [.ref D, .str x t]) Q E s := by
  have e : (strValues (l ++ [(x, t)])).toArray = (strValues l).toArray.push (.str x t) := by simp [strValues]
  rw [e] at U
  exact append_K F N U h (by rw [strs_size, sizeLine_eq]; omega)
end
end Mine

end
section
set_option maxRecDepth 100000
set_option maxHeartbeats 2000000
namespace Mine
theorem allLt_of' {d : Addr} : ∀ {l : List (Addr × Obj)}, AllLt d l → ∀ p ∈ l, p.1 < d
  | [], _, _, h => nomatch h
  | _ :: _, x, p, h => by
    rcases List.mem_cons.mp h with rfl | h
    · exact x.1
    · exact allLt_of' x.2 p h
local macro_rules | `(tactic| k_all) => `(tactic| assumption)
theorem split_claim (w : World) (mean : ExcName → Option Value) (mg mb : Str → Option Value) (news : List (Addr × Obj)) (l : Addr) (ls : List (Str × Tok)) (n : Nat) (hlen : ls.length ≤ 30) (hx : ∀ a ∈ ls.map (·.1), a.length ≤ 10 ∧ (replFn a).length ≤ 100) (hoff : ∀ p ∈ news, p.1 ≠ l)
    (dp un : Nat) (gd : Option (List Code)) (cn : Str) (cs : Scope) (a : Addr) (ccd : Value) (cl : List (Str × Addr)) (outer : List Env) (A₀ : Around) (base h₀ : Heap) (L : Addr) (m : Str → Option Value) (s : Shared) (Q E : Value → Shared → Prop)
    (B : Below A₀ base outer h₀) (F : Fr h₀ L s.heap m) (X : (hd.heap_39 w.params).In h₀) (N : News h₀ L s.heap ((l, PySem.W.listOf (strValues ls).toArray n) :: news)) (T : Top hd.view_39 (looseW hd.view_39 []) mean mg mb h₀) (hk : cs.kind = .function) (hdp : dp + 30 < recursionLimit) (hun : un + 300 < cLine)
    (hret : ∀ (t y nn : Addr) (ly ln : List (Str × Tok)) (k1 k2 : Nat) (h' : Heap) (tk' : Nat), ly.map (·.1) = (ls.map (·.1)).filter mirFn → ln.map (·.1) = (ls.map (·.1)).filter (fun v => !mirFn v) → (@LT.lt Nat _ y nn) → (@LT.lt Nat _ nn t) → (@LT.lt Nat _ l y) → (∀ p ∈ news, p.1 < y) → Fr h₀ L h' m →
      News h₀ L h' ((t, { cls := .type "tuple", data := .seq #[.ref y, .ref nn] }) :: (l, PySem.W.listOf (strValues ls).toArray n) :: (nn, PySem.W.listOf (strValues ln).toArray k2) :: (y, PySem.W.listOf (strValues ly).toArray k1) :: news) → Q (.ref t) { s with heap := h', toks := tk' }) :
      wpAny (model Challenge.rw_pm0037_01.row.prog w) (ktrTop dp un gd cn cs L a ccd cl outer) (call (.ref 42) [.ref l, .ref 75]) Q E s := by
  w_top off
  k_with_none
  k_with "exec For Name Name cons nil" => (k_here; (rename Fr _ _ _ _ => zlFz); (refine For_my zlFz (by exact rfl) (by exact rfl) ?_))
  k_with "TurnEnd" => (dsimp only [TurnEnd])
  k_with "call ref" => (k_here; (with_reducible show wpAny _ _ (call (Value.ref 75) _) _ _ _); k_dflt (refine CtN.use (mir_claim _ _ _ _ _ _ _ (by first | with_reducible assumption | assumption) (by first | with_reducible assumption | assumption)) (by first | with_reducible k_asm | k_asm) (by first | with_reducible k_asm | k_asm) (by first | with_reducible k_asm | k_asm) (by first | with_reducible k_asm | k_asm) (by first | with_reducible k_asm | k_asm) (by first | exact rfl | assumption) (by ktr_room) (by ktr_units) ?_); intro ztz zhz ztkz zFz zNz)
  k_with "call builtin:list.append" => (k_here; k_dflt (refine appendS (by first | with_reducible k_asm | k_asm) (by first | with_reducible k_asm | k_asm) (by first | with_reducible k_mem | k_mem) (by omega) (by k_upd) ?_); intro zhz zFz zNz)
  revert X
  k_fill
  intro X
  refine wpAny_call ?_
  k_dflt cell_enter
  k_steps
  have q1 := (‹_ < _ ∧ AllLt _ news›).2
  have q2 := (‹_ < _ ∧ _ < _ ∧ AllLt _ news›).2.2
  refine' split_iter (f := mirFn) (news := news) ?kh ?kF ?kN ?k1 ?k2 hoff (allLt_ne q1) (allLt_ne q2) ?_ ?_
  case kh => exact rfl
  case kF => k_asm
  case kN => k_asm
  case k1 => omega
  case k2 => omega
  · intro v tv I oI h tk ly ln k1 k2 hv hsum F₁ N₁ hI1 hI2 hI3 hI4
    have hxv := hx v hv
    have hx1 := hxv.1
    have hx2 := hxv.2
    have q3 := allLt_ne q1
    have q4 := allLt_ne q2
    k_steps
    · have hf : mirFn v = true := by assumption
      (delta SpEnd); simp only [hf, if_true]
      exact TurnGo.intro _ (by assumption) (by assumption) (fun p hp => hp) (off2 (List.forall_mem_cons.mpr ⟨⟨by k_ne, by k_ne⟩, List.forall_mem_cons.mpr ⟨⟨by k_ne, by k_ne⟩, fun p hp => ⟨hI4 p hp, hoff p hp⟩⟩⟩)) ⟨_, _, rfl, _, rfl⟩
    · have hf : mirFn v = false := by assumption
      (delta SpEnd); simp only [hf, Bool.false_eq_true, if_false]
      exact TurnGo.intro _ (by assumption) (by assumption) (fun p hp => hp) (off2 (List.forall_mem_cons.mpr ⟨⟨by k_ne, by k_ne⟩, List.forall_mem_cons.mpr ⟨⟨by k_ne, by k_ne⟩, fun p hp => ⟨hI4 p hp, hoff p hp⟩⟩⟩)) ⟨_, _, rfl, _, rfl⟩
  · intro u h tk ly ln k1 k2 e1 e2 F₁ N₁
    k_steps
    refine' hret _ _ _ ly ln k1 k2 _ _ e1 e2 ?ka ?kb ?kc ?kd ?kF ?kN
    case kN => assumption
    case kF => k_asm
    case ka => omega
    case kb => omega
    case kc => omega
    case kd => exact allLt_of' q1
end Mine

end
section
local macro_rules | `(tactic| k_steps) => `(tactic| repeat' (first | (k_unfold; (try dsimp only)) | walk1 | (dsimp only; walk1) | (leave1; walk_say "STEP leave1"; try dsimp only) | fail "no step"))
section
set_option maxRecDepth 100000
set_option maxHeartbeats 2000000
namespace Mine
section
variable {prog : Program} {w : World} {A : Around} {E : Value → Shared → Prop} {Q : Flow → Shared → Prop} {s : Shared} {env : Env} {h₀ : Heap} {L : Addr}
noncomputable def WEx (h₀ : Heap) (L : Addr) (s : Shared) (X : (Str → Option Value) → List (Addr × Obj) → Prop) (s₂ : Shared) : Prop :=
  ∃ h' tk m' nw', s₂ = { s with heap := h', toks := tk } ∧ Fr h₀ L h' m' ∧ News h₀ L h' nw' ∧ X m' nw'
theorem WEx.intro {X : (Str → Option Value) → List (Addr × Obj) → Prop} {h' : Heap} {tk : Nat} {m' : Str → Option Value} {nw' : List (Addr × Obj)} (F : Fr h₀ L h' m') (N : News h₀ L h' nw') (x : X m' nw') : WEx h₀ L s X { s with heap := h', toks := tk } := ⟨h', tk, m', nw', rfl, F, N, x⟩
noncomputable def WGo (h₀ : Heap) (L : Addr) (s : Shared) (J : Nat → (Str → Option Value) → List (Addr × Obj) → Prop) (n : Nat) (s₂ : Shared) : Prop :=
  ∃ h' tk m' nw' n', s₂ = { s with heap := h', toks := tk } ∧ Fr h₀ L h' m' ∧ News h₀ L h' nw' ∧ n' < n ∧ J n' m' nw'
noncomputable def WPost (h₀ : Heap) (L : Addr) (s : Shared) (J : Nat → (Str → Option Value) → List (Addr × Obj) → Prop) (X : (Str → Option Value) → List (Addr × Obj) → Prop) (n : Nat) (f : Flow) (s₃ : Shared) : Prop :=
  match f with
  | .next => WGo h₀ L s J n s₃
  | .cont => WGo h₀ L s J n s₃
  | .brk => WEx h₀ L s X s₃
  | .ret _ => False
theorem while_cut {test : Expr} {body : List Stmt} {pos : Pos} {m : Str → Option Value} {news : List (Addr × Obj)} (J : Nat → (Str → Option Value) → List (Addr × Obj) → Prop) (X : (Str → Option Value) → List (Addr × Obj) → Prop) {n₀ : Nat}
    (F : Fr h₀ L s.heap m) (N : News h₀ L s.heap news) (hJ : J n₀ m news)
    (turn : ∀ n m₁ news₁ h₁ tk₁, Fr h₀ L h₁ m₁ → News h₀ L h₁ news₁ → J n m₁ news₁ →
      wpAny (model prog w) A (isTrue test env (eval test env)) (fun b s₂ =>
        if b = true then wpAny (model prog w) A (execs body env) (WPost h₀ L s J X n) E s₂ else WEx h₀ L s X s₂) E { s with heap := h₁, toks := tk₁ })
    (rest : ∀ h' tk m' nw', Fr h₀ L h' m' → News h₀ L h' nw' → X m' nw' → Q .next { s with heap := h', toks := tk })
    (hE : PassesOwn (model prog w) A env E := by passes_own) :
    wpAny (model prog w) A (exec (.While test body [] pos) env) Q E s := by
  refine wpAny_mono (Q := fun f s' => f = .next ∧ WEx h₀ L s X s') ?_ (fun f s' h => ?_) fun _ _ e => e
  · refine While_inv2 J F N hJ (fun n m₁ news₁ h₁ tk₁ F₁ N₁ J₁ => ?_) hE
    refine wpAny_mono (turn n m₁ news₁ h₁ tk₁ F₁ N₁ J₁) (fun b s₂ h₂ => ?_) fun _ _ e => e
    cases b with
    | false =>
      rw [if_neg Bool.false_ne_true] at h₂ ⊢
      exact ⟨rfl, h₂⟩
    | true =>
      rw [if_pos rfl] at h₂ ⊢
      refine wpAny_mono h₂ (fun f s₃ h₃ => ?_) fun _ _ e => e
      cases f with
      | next => obtain ⟨h', tk, m', nw', n', e, F', N', hn, x⟩ := h₃; exact ⟨h', tk, m', nw', n', e, F', N', hn, x⟩
      | cont => obtain ⟨h', tk, m', nw', n', e, F', N', hn, x⟩ := h₃; exact ⟨h', tk, m', nw', n', e, F', N', hn, x⟩
      | brk => exact ⟨rfl, h₃⟩
      | ret v => exact h₃.elim
  · obtain ⟨rfl, h', tk, m', nw', rfl, F', N', x⟩ := h
    exact rest h' tk m' nw' F' N' x
/-- the end of a turn of a counting while: the name's int is v, p holds -/
noncomputable def CntNx (h₀ : Heap) (L : Addr) (s : Shared) (x : Str) (m₀ : Str → Option Value) (news : List (Addr × Obj)) (v : Int) (p : Prop) (s₃ : Shared) : Prop :=
  ∃ h' tk m' i t, s₃ = { s with heap := h', toks := tk } ∧ Fr h₀ L h' m' ∧ News h₀ L h' news ∧ i = v ∧ m' = (fun z => if z = x then some (.int i t) else m₀ z) ∧ p
theorem CntNx.intro {x : Str} {m₀ : Str → Option Value} {news : List (Addr × Obj)} {v i : Int} {p : Prop} {h' : Heap} {tk t : Nat} {B : Option Value} (F : Fr h₀ L h' (fun y => if y = x then some (.int i t) else if y = x then B else m₀ y)) (N : News h₀ L h' news) (hi : i = v) (hp : p) :
    CntNx h₀ L s x m₀ news v p { s with heap := h', toks := tk } := by
  refine ⟨h', tk, _, i, t, rfl, F, N, hi, ?_, hp⟩
  funext y
  by_cases h1 : y = x
  · simp [h1]
  · simp only [if_neg h1]
noncomputable def CntGo (h₀ : Heap) (L : Addr) (s : Shared) (x : Str) (m₀ : Str → Option Value) (news : List (Addr × Obj)) (v : Int) (p : Prop) (f : Flow) (s₃ : Shared) : Prop :=
  match f with
  | .next => CntNx h₀ L s x m₀ news v p s₃
  | _ => False
noncomputable def CntEx (h₀ : Heap) (L : Addr) (s : Shared) (m₁ : Str → Option Value) (news : List (Addr × Obj)) (p : Prop) (s₃ : Shared) : Prop :=
  ∃ h' tk, s₃ = { s with heap := h', toks := tk } ∧ Fr h₀ L h' m₁ ∧ News h₀ L h' news ∧ p
theorem CntEx.intro {m₁ : Str → Option Value} {news : List (Addr × Obj)} {p : Prop} {h' : Heap} {tk : Nat} (F : Fr h₀ L h' m₁) (N : News h₀ L h' news) (hp : p) : CntEx h₀ L s m₁ news p { s with heap := h', toks := tk } := ⟨h', tk, rfl, F, N, hp⟩
theorem while_count {test : Expr} {body : List Stmt} {pos : Pos} {x : Str} {val : Nat → Int} {P : Nat → Prop} {K : Nat} {tk0 : Tok} {m₀ : Str → Option Value} {news : List (Addr × Obj)}
    (F : Fr h₀ L s.heap m₀) (N : News h₀ L s.heap news) (hP0 : P 0) (hle : ∀ k, P (k + 1) → k < K) (hp : m₀ x = some (.int (val 0) tk0))
    (turn : ∀ k tk h₁ tk₁, P k → Fr h₀ L h₁ (fun z => if z = x then some (.int (val k) tk) else m₀ z) → News h₀ L h₁ news →
      wpAny (model prog w) A (isTrue test env (eval test env)) (fun c s₂ => if c = true then wpAny (model prog w) A (execs body env) (CntGo h₀ L { s with heap := h₁, toks := tk₁ } x m₀ news (val (k + 1)) (P (k + 1))) E s₂
        else CntEx h₀ L { s with heap := h₁, toks := tk₁ } (fun z => if z = x then some (.int (val k) tk) else m₀ z) news (k = K) s₂) E { s with heap := h₁, toks := tk₁ })
    (rest : ∀ tk h' tk', Fr h₀ L h' (fun z => if z = x then some (.int (val K) tk) else m₀ z) → News h₀ L h' news → Q .next { s with heap := h', toks := tk' })
    (hE : PassesOwn (model prog w) A env E := by passes_own) :
    wpAny (model prog w) A (exec (.While test body [] pos) env) Q E s := by
  refine while_cut (fun n m' nw => nw = news ∧ ∃ (k : Nat) (tk : Tok), n = K - k ∧ P k ∧ m' = (fun z => if z = x then some (.int (val k) tk) else m₀ z)) (fun m' nw => nw = news ∧ ∃ (tk : Tok), m' = (fun z => if z = x then some (.int (val K) tk) else m₀ z)) (n₀ := K) F N ⟨rfl, 0, tk0, rfl, hP0, ?_⟩ ?_ ?_ hE
  · funext z
    by_cases h1 : z = x
    · rw [if_pos h1, h1]; exact hp
    · rw [if_neg h1]
  · rintro n m₁ nw h₁ tk₁ F₁ N₁ ⟨rfl, k, tk, rfl, hP, rfl⟩
    refine wpAny_mono (turn k tk h₁ tk₁ hP F₁ N₁) (fun c s₂ h₂ => ?_) fun _ _ e => e
    cases c with
    | false =>
      rw [if_neg Bool.false_ne_true] at h₂ ⊢
      obtain ⟨h', tk', rfl, F', N', rfl⟩ := h₂
      exact ⟨h', tk', _, _, rfl, F', N', rfl, tk, rfl⟩
    | true =>
      rw [if_pos rfl] at h₂ ⊢
      refine wpAny_mono h₂ (fun f s₃ h₃ => ?_) fun _ _ e => e
      cases f with
      | next =>
        obtain ⟨h', tk', m', i, t, rfl, F', N', rfl, rfl, hp'⟩ := h₃
        have := hle k hp'
        exact ⟨h', tk', _, _, K - (k + 1), rfl, F', N', by omega, rfl, k + 1, t, rfl, hp', rfl⟩
      | cont => exact h₃.elim
      | brk => exact h₃.elim
      | ret v => exact h₃.elim
  · rintro h' tk m' nw' F' N' ⟨rfl, tk2, rfl⟩
    exact rest tk2 h' tk F' N'
/-- a statement cut off: what stands behind it starts at X -/
noncomputable def CutX (h₀ : Heap) (L : Addr) (s : Shared) (X : (Str → Option Value) → List (Addr × Obj) → Prop) (f : Flow) (s₂ : Shared) : Prop :=
  match f with
  | .next => WEx h₀ L s X s₂
  | _ => False
theorem cut {st : Stmt} {X : (Str → Option Value) → List (Addr × Obj) → Prop} (h : wpAny (model prog w) A (exec st env) (CutX h₀ L s X) E s)
    (rest : ∀ h' tk m' nw', Fr h₀ L h' m' → News h₀ L h' nw' → X m' nw' → Q .next { s with heap := h', toks := tk }) : wpAny (model prog w) A (exec st env) Q E s := by
  refine wpAny_mono h (fun f s' h => ?_) fun _ _ e => e
  cases f with
  | next =>
    obtain ⟨h', tk, m', nw', rfl, F', N', x⟩ := h
    exact rest h' tk m' nw' F' N' x
  | cont => exact h.elim
  | brk => exact h.elim
  | ret v => exact h.elim
end
section
variable {prog : Program} {w : World} {A : Around} {E : Value → Shared → Prop} {s : Shared} {h₀ : Heap} {L D : Addr} {m : Str → Option Value} {news : List (Addr × Obj)} {value slice : PySem.Expr} {x : Str} {t u : Tok} {Q : Value → Shared → Prop}
theorem sl_from {k : Nat} (hF : Fr h₀ L s.heap m) (hN : News h₀ L s.heap news) (hk : k ≤ x.length) (hz : x.length ≤ 1000)
    (h : ∀ h' t' c, (dropStr x k).length + k = x.length → Fr h₀ L h' m → News h₀ L h' news → Q (.str (dropStr x k) t') { s with heap := h', toks := c })
    (hs : subscripted slice false (.str x t) (.ref s.heap.objs.size) = operate [.ref s.heap.objs.size, .str x t] (getItem (.str x t) (.ref s.heap.objs.size)))
    (ht : ∀ r, letTemporaryGo value (.str x t) r = pure ()) :
    wpAny (model prog w) A (subscriptTail value slice (.str x t) (.ref s.heap.objs.size)) Q E { s with heap := s.heap.push { cls := .type "slice", data := .fields #[.int (k : Int) u, .none, .none] } } :=
  slice_strN_sn hF hN (fun h' t' c F N => by rw [slice_from x hk]; exact h h' t' c (by rw [dropStr_len]; omega) F N) hs ht (by rw [sizeLine_eq]; omega)
theorem sl_upneg {q : Int} (hF : Fr h₀ L s.heap m) (hN : News h₀ L s.heap news) (h1 : q < 0) (hq : -(x.length : Int) ≤ q) (hz : x.length ≤ 1000)
    (h : ∀ h' t' c, (takeStr x (x.length - (-q).toNat)).length = x.length - (-q).toNat → Fr h₀ L h' m → News h₀ L h' news → Q (.str (takeStr x (x.length - (-q).toNat)) t') { s with heap := h', toks := c })
    (hs : subscripted slice false (.str x t) (.ref s.heap.objs.size) = operate [.ref s.heap.objs.size, .str x t] (getItem (.str x t) (.ref s.heap.objs.size)))
    (ht : ∀ r, letTemporaryGo value (.str x t) r = pure ()) :
    wpAny (model prog w) A (subscriptTail value slice (.str x t) (.ref s.heap.objs.size)) Q E { s with heap := s.heap.push { cls := .type "slice", data := .fields #[.none, .int q u, .none] } } :=
  slice_strN_ns hF hN (fun h' t' c F N => by
    have e : q = -((-q).toNat : Int) := by omega
    have e2 : Txt.slice x none (some q) = takeStr x (x.length - (-q).toNat) := by
      conv => lhs; rw [e]
      exact slice_upneg x (by omega) (by omega)
    rw [e2]
    exact h h' t' c (by rw [takeStr_len]; omega) F N) hs ht (by rw [sizeLine_eq]; omega)
theorem sl_all (hF : Fr h₀ L s.heap m) (hN : News h₀ L s.heap news) (hz : x.length ≤ 1000)
    (h : ∀ h' t' c, (takeStr x x.length).length = x.length → Fr h₀ L h' m → News h₀ L h' news → Q (.str (takeStr x x.length) t') { s with heap := h', toks := c })
    (hs : subscripted slice false (.str x t) (.ref s.heap.objs.size) = operate [.ref s.heap.objs.size, .str x t] (getItem (.str x t) (.ref s.heap.objs.size)))
    (ht : ∀ r, letTemporaryGo value (.str x t) r = pure ()) :
    wpAny (model prog w) A (subscriptTail value slice (.str x t) (.ref s.heap.objs.size)) Q E { s with heap := s.heap.push { cls := .type "slice", data := .fields #[.none, .none, .none] } } :=
  slice_strN_nn hF hN (fun h' t' c F N => by rw [slice_all x]; exact h h' t' c (by rw [takeStr_len]; omega) F N) hs ht (by rw [sizeLine_eq]; omega)
theorem it_at {i : Int} {u : Tok} (h1 : 0 ≤ i) (h2 : i < x.length) (hz : x.length ≤ 1000)
    (h : (chStr x i.toNat).length = 1 → Q (.str (chStr x i.toNat) s.toks) { s with toks := s.toks + 1 })
    (hs : subscripted slice false (.str x t) (.int i u) = operate [.str x t, .int i u] (getItem (.str x t) (.int i u)))
    (ht : ∀ r, letTemporaryGo value (.str x t) r = pure ()) :
    wpAny (model prog w) A (subscriptTail value slice (.str x t) (.int i u)) Q E s :=
  item_str (fitsSsize_of (N := 9223372036854775808) (by omega) (by omega) (Int.le_refl _)) (by omega) (by omega) (fun _ => by
    have e : Txt.item x i = chStr x i.toNat := by
      have := item_ch x (k := i.toNat) (by omega)
      rwa [show ((i.toNat : Nat) : Int) = i by omega] at this
    rw [e]; exact h rfl) hs ht
theorem it_k {k : Nat} {u : Tok} (h2 : k < x.length) (hz : x.length ≤ 1000)
    (h : (chStr x k).length = 1 → Q (.str (chStr x k) s.toks) { s with toks := s.toks + 1 })
    (hs : subscripted slice false (.str x t) (.int (k : Int) u) = operate [.str x t, .int (k : Int) u] (getItem (.str x t) (.int (k : Int) u)))
    (ht : ∀ r, letTemporaryGo value (.str x t) r = pure ()) :
    wpAny (model prog w) A (subscriptTail value slice (.str x t) (.int (k : Int) u)) Q E s :=
  it_at (by omega) (by omega) hz (by rw [Int.toNat_natCast]; exact h) hs ht
theorem it_nk {k : Nat} {u : Tok} (h2 : k < x.length) (hz : x.length ≤ 1000)
    (h : (chStr x (x.length - (k + 1))).length = 1 → Q (.str (chStr x (x.length - (k + 1))) s.toks) { s with toks := s.toks + 1 })
    (hs : subscripted slice false (.str x t) (.int (-(k : Int) - 1) u) = operate [.str x t, .int (-(k : Int) - 1) u] (getItem (.str x t) (.int (-(k : Int) - 1) u)))
    (ht : ∀ r, letTemporaryGo value (.str x t) r = pure ()) :
    wpAny (model prog w) A (subscriptTail value slice (.str x t) (.int (-(k : Int) - 1) u)) Q E s :=
  item_str (fitsSsize_of (N := 9223372036854775808) (by omega) (by omega) (Int.le_refl _)) (by omega) (by omega) (fun _ => by
    have e : Txt.item x (-(k : Int) - 1) = chStr x (x.length - (k + 1)) := by
      have := item_neg x (q := k + 1) (by omega) (by omega)
      rwa [show -(((k + 1 : Nat)) : Int) = -(k : Int) - 1 by omega] at this
    rw [e]; exact h rfl) hs ht
end
end Mine

end
section
set_option maxRecDepth 100000
set_option maxHeartbeats 2000000
namespace Mine
/-- how long two lists run alike -/
noncomputable def preL : List Nat → List Nat → Nat
  | x :: xs, y :: ys => if x = y then 1 + preL xs ys else 0
  | _, _ => 0
theorem preL_le : ∀ a b : List Nat, preL a b ≤ a.length ∧ preL a b ≤ b.length
  | [], _ => ⟨Nat.zero_le _, Nat.zero_le _⟩
  | _ :: _, [] => ⟨Nat.zero_le _, Nat.zero_le _⟩
  | x :: xs, y :: ys => by
    have h := preL_le xs ys
    unfold preL
    split
    · simp only [List.length_cons]; omega
    · simp only [List.length_cons]; omega
theorem preL_nil {a b : List Nat} (h : a.length = 0 ∨ b.length = 0) : preL a b = 0 := by
  have := preL_le a b; omega
theorem preL_yes {a b : List Nat} {k : Nat} (ha : k < a.length) (hb : k < b.length) (h : a.getD k 0 = b.getD k 0) : preL (a.drop k) (b.drop k) = 1 + preL (a.drop (k + 1)) (b.drop (k + 1)) := by
  rw [List.drop_eq_getElem_cons ha, List.drop_eq_getElem_cons hb]
  have h' : a[k] = b[k] := by simpa [List.getD_eq_getElem?_getD, ha, hb] using h
  rw [preL, if_pos h']
theorem preL_no {a b : List Nat} {k : Nat} (ha : k < a.length) (hb : k < b.length) (h : a.getD k 0 ≠ b.getD k 0) : preL (a.drop k) (b.drop k) = 0 := by
  rw [List.drop_eq_getElem_cons ha, List.drop_eq_getElem_cons hb]
  have h' : ¬ a[k] = b[k] := by simpa [List.getD_eq_getElem?_getD, ha, hb] using h
  rw [preL, if_neg h']
theorem chStr_eq {x y : Str} {i j : Nat} : (chStr x i == chStr y j) = true ↔ x.cps.toList.getD i 0 = y.cps.toList.getD j 0 := by
  unfold chStr
  constructor
  · intro h
    have := eq_of_beq h
    simpa using this
  · intro h
    rw [h]
    exact beq_self_eq_true _
theorem chStr_ne {x y : Str} {i j : Nat} (h : (chStr x i == chStr y j) = false) : x.cps.toList.getD i 0 ≠ y.cps.toList.getD j 0 := by
  intro e
  rw [chStr_eq.mpr e] at h
  cases h
theorem rev_getD (l : List Nat) {k : Nat} (hk : k < l.length) : l.reverse.getD k 0 = l.getD (l.length - (k + 1)) 0 := by
  have h1 : l.length - (k + 1) < l.length := by omega
  rw [List.getD_eq_getElem?_getD, List.getD_eq_getElem?_getD, List.getElem?_reverse hk, Nat.sub_sub, Nat.add_comm 1 k]
noncomputable def preS (a b : Str) : Nat := preL a.cps.toList b.cps.toList
noncomputable def sufS (a b : Str) : Nat := preL a.cps.toList.reverse b.cps.toList.reverse
theorem preS_le (a b : Str) : preS a b ≤ a.length ∧ preS a b ≤ b.length := by
  have := preL_le a.cps.toList b.cps.toList
  exact this
theorem sufS_le (a b : Str) : sufS a b ≤ a.length ∧ sufS a b ≤ b.length := by
  have := preL_le a.cps.toList.reverse b.cps.toList.reverse
  simp only [List.length_reverse] at this
  exact this
/-- k more fit ahead of what runs alike from k on -/
noncomputable def PreAt (a b : Str) (k : Nat) : Prop := k + preL (a.cps.toList.drop k) (b.cps.toList.drop k) = preS a b
theorem PreAt.zero (a b : Str) : PreAt a b 0 := by unfold PreAt preS; simp
theorem PreAt.le {a b : Str} {k : Nat} (h : PreAt a b k) : k ≤ a.length ∧ k ≤ b.length := by
  have h1 := preS_le a b
  unfold PreAt at h
  omega
theorem PreAt.end {a b : Str} {k : Nat} (h : PreAt a b k) (hn : a.length - k = 0 ∨ b.length - k = 0) : k = preS a b := by
  unfold PreAt at h
  rw [preL_nil (by simp only [List.length_drop]; exact hn)] at h
  exact h
theorem PreAt.yes {a b : Str} {k : Nat} (h : PreAt a b k) (ha : k < a.length) (hb : k < b.length) (he : (chStr a k == chStr b k) = true) : PreAt a b (k + 1) := by
  unfold PreAt at h ⊢
  rw [preL_yes ha hb (chStr_eq.mp he)] at h
  omega
theorem PreAt.no {a b : Str} {k : Nat} (h : PreAt a b k) (ha : k < a.length) (hb : k < b.length) (he : (chStr a k == chStr b k) = false) : k = preS a b := by
  unfold PreAt at h
  rw [preL_no ha hb (chStr_ne he)] at h
  exact h
noncomputable def SufAt (a b : Str) (k : Nat) : Prop := k + preL (a.cps.toList.reverse.drop k) (b.cps.toList.reverse.drop k) = sufS a b
theorem SufAt.zero (a b : Str) : SufAt a b 0 := by unfold SufAt sufS; simp
theorem SufAt.le {a b : Str} {k : Nat} (h : SufAt a b k) : k ≤ a.length ∧ k ≤ b.length := by
  have h1 := sufS_le a b
  unfold SufAt at h
  omega
theorem SufAt.end {a b : Str} {k : Nat} (h : SufAt a b k) (hn : a.length - k = 0 ∨ b.length - k = 0) : k = sufS a b := by
  unfold SufAt at h
  rw [preL_nil (by simp only [List.length_drop, List.length_reverse]; exact hn)] at h
  exact h
theorem SufAt.yes {a b : Str} {k : Nat} (h : SufAt a b k) (ha : k < a.length) (hb : k < b.length) (he : (chStr a (a.length - (k + 1)) == chStr b (b.length - (k + 1))) = true) : SufAt a b (k + 1) := by
  unfold SufAt at h ⊢
  have ha' : k < a.cps.toList.length := ha
  have hb' : k < b.cps.toList.length := hb
  rw [preL_yes (by rw [List.length_reverse]; exact ha') (by rw [List.length_reverse]; exact hb') (by rw [rev_getD _ ha', rev_getD _ hb']; exact chStr_eq.mp he)] at h
  omega
theorem SufAt.no {a b : Str} {k : Nat} (h : SufAt a b k) (ha : k < a.length) (hb : k < b.length) (he : (chStr a (a.length - (k + 1)) == chStr b (b.length - (k + 1))) = false) : k = sufS a b := by
  unfold SufAt at h
  have ha' : k < a.cps.toList.length := ha
  have hb' : k < b.cps.toList.length := hb
  rw [preL_no (by rw [List.length_reverse]; exact ha') (by rw [List.length_reverse]; exact hb') (by rw [rev_getD _ ha', rev_getD _ hb']; exact chStr_ne he)] at h
  exact h
/-- «q or None» -/
noncomputable def orNone (q : Int) (tk : Tok) : Value := if q = 0 then .none else .int q tk
section
variable {prog : Program} {w : World} {A : Around} {E : Value → Shared → Prop} {s : Shared} {h₀ : Heap} {L D : Addr} {m : Str → Option Value} {news : List (Addr × Obj)} {value slice : PySem.Expr} {x : Str} {t u : Tok} {Q : Value → Shared → Prop}
theorem or_none {cn : Str} {cs : Scope} {a : Addr} {ccd : Value} {y : Str} {p1 p2 pos : Pos} {k : Nat} {q : Int} {tk : Tok} (F : Fr h₀ L s.heap m) (hv : m y = some (.int q tk)) (h : Q (orNone q tk) s)
    (hk : cs.kind = .function := by rfl) (hl : (envOf cn cs L a ccd).kindOf y = some .local := by rfl) (hd : (y == ("__debug__" : Str)) = false := by decide) :
    wpAny (model prog w) A (eval (.BoolOp .Or [.Name y p1, .Constant .none k p2] pos) (envOf cn cs L a ccd)) Q E s := by
  refine BoolOp_or (ld F hv (truthy_int ?_) hk hl hd)
  by_cases hq : q = 0
  · subst hq
    exact BoolOp_one (Constant_none h)
  · have : (q != 0) = true := by simpa using hq
    rw [this, if_pos rfl]
    unfold orNone at h
    rw [if_neg hq] at h
    exact h
theorem sl_or {k : Nat} (hF : Fr h₀ L s.heap m) (hN : News h₀ L s.heap news) (hq : k ≤ x.length) (hz : x.length ≤ 1000)
    (h : ∀ h' t' c, (takeStr x (x.length - k)).length + k = x.length → Fr h₀ L h' m → News h₀ L h' news → Q (.str (takeStr x (x.length - k)) t') { s with heap := h', toks := c })
    (hs : subscripted slice false (.str x t) (.ref s.heap.objs.size) = operate [.ref s.heap.objs.size, .str x t] (getItem (.str x t) (.ref s.heap.objs.size)))
    (ht : ∀ r, letTemporaryGo value (.str x t) r = pure ()) :
    wpAny (model prog w) A (subscriptTail value slice (.str x t) (.ref s.heap.objs.size)) Q E { s with heap := s.heap.push { cls := .type "slice", data := .fields #[.none, orNone (-(k : Int)) u, .none] } } := by
  by_cases hq0 : k = 0
  · subst hq0
    exact sl_all hF hN hz (fun h' t' c hl F N => h h' t' c (by rw [takeStr_len]; omega) F N) hs ht
  · have e : orNone (-(k : Int)) u = .int (-(k : Int)) u := by unfold orNone; rw [if_neg (by omega)]
    rw [e]
    have e2 : (-(-(k : Int))).toNat = k := by omega
    refine sl_upneg hF hN (by omega) (by omega) hz (fun h' t' c hl F N => ?_) hs ht
    rw [e2]
    exact h h' t' c (by rw [takeStr_len]; omega) F N
end
end Mine

end
section
set_option maxRecDepth 100000
set_option maxHeartbeats 2000000
namespace Mine
noncomputable def cost1 (x y : Nat) : Int := subCost ⟨#[x]⟩ ⟨#[y]⟩
/-- the inner loop, from a place on: the new row's rest, the last result, the least -/
noncomputable def lvIn (bc : Nat) : List Nat → List Int → Int → Int → Int → List Int × Int × Int
  | a :: as, d :: ds, dist, res, mn =>
    let sub := dist + cost1 bc a
    let ins := min res d + 2
    let res' := min ins sub
    let r := lvIn bc as ds d res' (if res' < mn then res' else mn)
    (res' :: r.1, r.2)
  | _, _, _, res, mn => ([], res, mn)
/-- the outer loop -/
noncomputable def lvOut (as : List Nat) (mc : Int) : List Nat → Int → List Int → Int → Int
  | [], _, _, res => res
  | b :: bs, i, row, _ =>
    let r := lvIn b as row (i * 2) (i * 2) 9223372036854775807
    if r.2.2 > mc then mc + 1 else lvOut as mc bs (i + 1) r.1 r.2.1
noncomputable def rowInit (n : Nat) : List Int := (List.range n).map fun (k : Nat) => 2 + (k : Int) * 2
noncomputable def levCore (x y : Str) (mc : Int) : Int := if ((y.length : Int) - x.length) * 2 > mc then mc + 1 else lvOut x.cps.toList mc y.cps.toList 0 (rowInit x.length) 0
noncomputable def levSwap (x y : Str) (mc : Int) : Int := if y.length < x.length then levCore y x mc else levCore x y mc
noncomputable def lev1 (a b : Str) : Str := dropStr a (preS a b)
noncomputable def lev2 (a b : Str) : Str := dropStr b (preS a b)
noncomputable def levA (a b : Str) : Str := takeStr (lev1 a b) ((lev1 a b).length - sufS (lev1 a b) (lev2 a b))
noncomputable def levB (a b : Str) : Str := takeStr (lev2 a b) ((lev2 a b).length - sufS (lev1 a b) (lev2 a b))
noncomputable def levFn (a b : Str) (mc : Int) : Int := if (a == b) = true then 0 else if (levA a b).length = 0 ∨ (levB a b).length = 0 then 2 * (((levA a b).length : Int) + (levB a b).length) else levSwap (levA a b) (levB a b) mc
theorem levFn_same {a b : Str} {mc : Int} (h : (a == b) = true) : levFn a b mc = 0 := by unfold levFn; rw [if_pos h]
theorem levFn_empty {a b : Str} {mc : Int} (h : (a == b) = false) (h2 : (levA a b).length = 0 ∨ (levB a b).length = 0) : levFn a b mc = 2 * (((levA a b).length : Int) + (levB a b).length) := by
  unfold levFn; rw [h, if_neg Bool.false_ne_true, if_pos h2]
theorem levFn_swap {a b : Str} {mc : Int} (h : (a == b) = false) (h1 : (levA a b).length ≠ 0) (h2 : (levB a b).length ≠ 0) : levFn a b mc = levSwap (levA a b) (levB a b) mc := by
  unfold levFn; rw [h, if_neg Bool.false_ne_true, if_neg (by omega)]
section
variable {prog : Program} {w : World} {A : Around} {E : Value → Shared → Prop} {Q : Flow → Shared → Prop} {s : Shared} {env : Env} {h₀ : Heap} {L : Addr}
noncomputable def SwapX (x y : Str) (m₀ : Str → Option Value) (news : List (Addr × Obj)) (m' : Str → Option Value) (nw : List (Addr × Obj)) : Prop :=
  nw = news ∧ ∃ u v tu tv, (if y.length < x.length then u = y ∧ v = x else u = x ∧ v = y) ∧ m' = (fun z => if z = Str.ofString "b" then some (.str v tv) else if z = Str.ofString "a" then some (.str u tu) else m₀ z)
theorem swapX_yes {x y : Str} {tx ty : Tok} {m₀ : Str → Option Value} {news : List (Addr × Obj)} {h' : Heap} {tk : Nat} (F : Fr h₀ L h' (fun z => if z = Str.ofString "a" then some (.str y ty) else if z = Str.ofString "b" then some (.str x tx) else m₀ z)) (N : News h₀ L h' news) (h : y.length < x.length) :
    WEx h₀ L s (SwapX x y m₀ news) { s with heap := h', toks := tk } := by
  refine WEx.intro F N ⟨rfl, y, x, ty, tx, by rw [if_pos h]; exact ⟨rfl, rfl⟩, ?_⟩
  funext z
  by_cases h1 : z = Str.ofString "a"
  · rw [if_pos h1, if_neg (by rw [h1]; decide +kernel), if_pos h1]
  · rw [if_neg h1, if_neg h1]
theorem swapX_no {x y : Str} {tx ty : Tok} {m₀ : Str → Option Value} {news : List (Addr × Obj)} {h' : Heap} {tk : Nat} (F : Fr h₀ L h' m₀) (N : News h₀ L h' news) (hx : m₀ (Str.ofString "a") = some (.str x tx)) (hy : m₀ (Str.ofString "b") = some (.str y ty)) (h : ¬ y.length < x.length) :
    WEx h₀ L s (SwapX x y m₀ news) { s with heap := h', toks := tk } := by
  refine WEx.intro F N ⟨rfl, x, y, tx, ty, by rw [if_neg h]; exact ⟨rfl, rfl⟩, ?_⟩
  funext z
  by_cases h1 : z = Str.ofString "b"
  · rw [if_pos h1, h1]; exact hy
  · rw [if_neg h1]
    by_cases h2 : z = Str.ofString "a"
    · rw [if_pos h2, h2]; exact hx
    · rw [if_neg h2]
theorem cut_swap {x y : Str} {m₀ : Str → Option Value} {news : List (Addr × Obj)} {st : Stmt} (_F : Fr h₀ L s.heap m₀) (h : wpAny (model prog w) A (exec st env) (CutX h₀ L s (SwapX x y m₀ news)) E s)
    (rest : ∀ u v tu tv h' tk, u.length ≤ v.length → v.length ≤ max x.length y.length → min x.length y.length ≤ u.length → (∀ mc, levSwap x y mc = levCore u v mc) → Fr h₀ L h' (fun z => if z = Str.ofString "b" then some (.str v tv) else if z = Str.ofString "a" then some (.str u tu) else m₀ z) → News h₀ L h' news → Q .next { s with heap := h', toks := tk }) :
    wpAny (model prog w) A (exec st env) Q E s := by
  refine cut h fun h' tk m' nw F' N' => ?_
  rintro ⟨rfl, u, v, tu, tv, hc, rfl⟩
  by_cases hl : y.length < x.length
  · rw [if_pos hl] at hc
    obtain ⟨rfl, rfl⟩ := hc
    exact rest _ _ tu tv h' tk (by omega) (by omega) (by omega) (fun mc => by unfold levSwap; rw [if_pos hl]) F' N'
  · rw [if_neg hl] at hc
    obtain ⟨rfl, rfl⟩ := hc
    exact rest _ _ tu tv h' tk (by omega) (by omega) (by omega) (fun mc => by unfold levSwap; rw [if_neg hl]) F' N'
end
end Mine

end
section
set_option maxRecDepth 100000
set_option maxHeartbeats 2000000
namespace Mine
theorem intsAre_of : ∀ {vs : List Value} {ns : List Int}, vs.length = ns.length → (∀ (i : Nat) (v : Value), vs[i]? = some v → ∃ (k : Int) (t : Tok), ns[i]? = some k ∧ v = Value.int k t) → IntsAre vs ns
  | [], [], _, _ => .nil
  | v :: vs, n :: ns, hl, h => by
    have ih := intsAre_of (vs := vs) (ns := ns) (by simpa using hl) (fun i z hz => by simpa using h (i + 1) z (by simpa using hz))
    obtain ⟨k, t, hx, rfl⟩ := h 0 v rfl
    cases hx
    exact .cons _ _ ih
theorem ints_set : ∀ {vs : List Value} {ns : List Int} (k : Nat) (i : Int) (t : Tok), IntsAre vs ns → IntsAre (vs.set k (.int i t)) (ns.set k i)
  | _, _, _, _, _, .nil => .nil
  | _, _, 0, i, t, .cons m u h => .cons i t h
  | _, _, k + 1, i, t, .cons m u h => .cons m u (ints_set k i t h)
theorem ki_setL_set : ∀ (vs : List Value) (k : Nat) (v : Value), k < vs.length → ki_setL vs k v = some (vs.set k v)
  | [], k, v, h => by simp at h
  | a :: vs, 0, v, h => rfl
  | a :: vs, k + 1, v, h => by
    have := ki_setL_set vs k v (by simpa using h)
    simp only [ki_setL, this, List.set_cons_succ]
section
variable {prog : Program} {w : World} {A : Around} {E : Value → Shared → Prop} {s : Shared} {h₀ : Heap} {L D : Addr} {m : Str → Option Value} {news news' : List (Addr × Obj)} {vs : List Value} {r : List Int} {n : Nat}
theorem rowGet {value slice : PySem.Expr} {k : Nat} {u : Tok} {Q : Value → Shared → Prop} (N : News h₀ L s.heap news) (hm : (D, PySem.W.listOf vs.toArray n) ∈ news) (hi : IntsAre vs r) (hk : k < r.length) (hz : r.length ≤ 1000) (h : ∀ t, Q (.int (r.getD k 0) t) s)
    (hs : subscripted slice false (.ref D) (.int (k : Int) u) = operate [.ref D, .int (k : Int) u] (getItem (.ref D) (.int (k : Int) u)) := by with_unfolding_all rfl) :
    wpAny (model prog w) A (subscriptTail value slice (.ref D) (.int (k : Int) u)) Q E s := by
  obtain ⟨t, ht⟩ := hi.get k r[k] (List.getElem?_eq_getElem hk)
  have e : r.getD k 0 = r[k] := by simp [List.getD_eq_getElem?_getD, hk]
  exact itemN N hm (by omega) (by omega) (v := .int r[k] t) (by rw [Int.toNat_natCast]; simpa using ht) (e ▸ h t) hs
theorem rowSet {k : Nat} {u t : Tok} {i : Int} {Q : Unit → Shared → Prop} (F : Fr h₀ L s.heap m) (N : News h₀ L s.heap news) (_hm : (D, PySem.W.listOf vs.toArray n) ∈ news) (hi : IntsAre vs r) (hk : k < r.length) (hz : r.length ≤ 1000)
    (U : Upd D (PySem.W.listOf vs.toArray n) (PySem.W.listOf (vs.set k (.int i t)).toArray n) news news')
    (h : ∀ h', IntsAre (vs.set k (.int i t)) (r.set k i) → Fr h₀ L h' m → News h₀ L h' news' → Q () { s with heap := h' }) : wpAny (model prog w) A (setItem (.ref D) (.int (k : Int) u) (.int i t)) Q E s := by
  have hlen := hi.length
  refine ki_set F N (by omega) (by omega) (q := vs.set k (.int i t)) ?_ U (fun h' F' N' => h h' (ints_set k i t hi) F' N')
  rw [Int.toNat_natCast]
  exact ki_setL_set _ _ _ (by rw [hlen]; exact hk)
theorem rowInit_len (n : Nat) : (rowInit n).length = n := by simp [rowInit]
theorem list_two {rg : Addr} {n : Nat} {t u v : Tok} {Q : Value → Shared → Prop} (hh : A.handled = none) (F : Fr h₀ L s.heap m) (N : News h₀ L s.heap news) (hr : IsRange s.heap rg 2 (2 * ((n : Int) + 1)) 2 t u v) (hn : n ≤ 100)
    (h : ∀ D its k h' tk, IntsAre its (rowInit n) → Fr h₀ L h' m → News h₀ L h' ((D, PySem.W.listOf its.toArray k) :: news) → (∀ p ∈ news, p.1 < D) → Q (.ref D) { s with heap := h', toks := tk }) :
    wpAny (model prog w) A (call (.type "list") [.ref rg]) Q E s := by
  have hsz : Builtin.Range.rangeSize 2 (2 * ((n : Int) + 1)) 2 = (n : Int) := by
    unfold Builtin.Range.rangeSize
    rw [if_pos (by decide)]
    split <;> omega
  have hsmall : Builtin.Range.small 2 (2 * ((n : Int) + 1)) 2 = true := by
    unfold Builtin.Range.small
    rw [hsz]
    have f : ∀ i : Int, 0 ≤ i → i < 1000000 → Builtin.Range.rangeFitsLong i = true := by
      intro i h1 h2
      unfold Builtin.Range.rangeFitsLong
      rw [Bool.and_eq_true]
      exact ⟨decide_eq_true (by omega), decide_eq_true (by omega)⟩
    rw [f 2 (by decide) (by decide), f (2 * ((n : Int) + 1)) (by omega) (by omega), f n (by omega) (by omega)]
    rw [if_pos (by decide), f (2 * ((n : Int) + 1) + (2 - 1)) (by omega) (by omega)]
    simp only [Bool.and_self, Bool.or_true]
  refine call_list_range hh hr hsmall hsz (by omega) fun h' tk acc c' hk hS hacc => ?_
  refine h s.heap.objs.size acc.toList c' h' tk ?_ (F.keeps hk) (fun p hp => ?_) (fun p hp => Heap.lt_size (N p hp).1)
  · refine intsAre_of (by rw [rowInit_len, Array.length_toList]; exact hacc.1) fun i z hz => ?_
    rw [Array.getElem?_toList] at hz
    obtain ⟨t', rfl⟩ := hacc.2 i z hz
    have hi : i < n := by
      have := (Array.getElem?_eq_some_iff.mp hz).1
      rw [hacc.1] at this; exact this
    exact ⟨2 + (i : Int) * 2, t', by simp [rowInit, hi], rfl⟩
  · rcases List.mem_cons.mp hp with rfl | hp
    · refine ⟨?_, Nat.ne_of_gt F.ns.lt, ?_⟩
      · rw [Array.toArray_toList]; exact hS
      · cases e : h₀.get? s.heap.objs.size with
        | none => rfl
        | some o => exact absurd (Heap.lt_size (F.keep _ _ e)) (Nat.lt_irrefl _)
    · exact ⟨hk _ _ (N p hp).1, (N p hp).2⟩
end
section
variable {prog : Program} {w : World} {A : Around} {E : Value → Shared → Prop} {s : Shared} {env : Env} {h₀ : Heap} {x : Str} {body : List Stmt} {Q : Flow → Shared → Prop}
theorem iterR0 {r : Addr} {t u v : Tok} {n : Nat} {m₀ : Str → Option Value} {news : List (Addr × Obj)} (J : Nat → (Str → Option Value) → List (Addr × Obj) → Prop)
    (hh : A.handled = none) (hr : IsRange s.heap r 0 (n : Int) 1 t u v) (hn : n ≤ 1000) (F : Fr h₀ env.locals s.heap m₀) (N : News h₀ env.locals s.heap news) (hj : J 0 m₀ news)
    (turn : ∀ i tv m₁ news₁ I oI h tk, i < n → J i m₁ news₁ → Fr h₀ env.locals h (fun y => if y = x then some (.int (i : Int) tv) else m₁ y) → News h₀ env.locals h ((I, oI) :: news₁) → (∀ p ∈ news₁, p.1 ≠ I) →
      wpAny (model prog w) A (execs body env) (TurnEnd h₀ env.locals [(I, oI)] (J (i + 1)) Q { s with heap := h, toks := tk }) E { s with heap := h, toks := tk })
    (done : ∀ m₁ news₁ h tk, J n m₁ news₁ → Fr h₀ env.locals h m₁ → News h₀ env.locals h news₁ → Q .next { s with heap := h, toks := tk }) :
    MyIter prog w A h₀ env x body Q E (.ref r) s := by
  have hsz : Builtin.Range.rangeSize 0 (n : Int) 1 = (n : Int) := by rw [rangeSize_one]; split <;> omega
  refine iterR J hh hr (small_one (by omega) (by omega) (by omega) (by omega)) hsz F N hj (fun i tv m₁ news₁ I oI h tk hi hJ F₁ N₁ ho => ?_) done
  rw [Int.zero_add] at F₁
  exact turn i tv m₁ news₁ I oI h tk hi hJ F₁ N₁ ho
end
theorem lvIn_step {bc : Nat} {as : List Nat} {r : List Int} {d res mn : Int} {j : Nat} (ha : j < as.length) (hr : j < r.length) {T : List Int × Int × Int}
    (h : (r.take j ++ (lvIn bc (as.drop j) (r.drop j) d res mn).1, (lvIn bc (as.drop j) (r.drop j) d res mn).2) = T) {res' mn' : Int} (e1 : res' = min (min res (r.getD j 0) + 2) (d + cost1 bc (as.getD j 0))) (e2 : mn' = if res' < mn then res' else mn) :
    (((r.set j res').take (j + 1)) ++ (lvIn bc (as.drop (j + 1)) ((r.set j res').drop (j + 1)) (r.getD j 0) res' mn').1, (lvIn bc (as.drop (j + 1)) ((r.set j res').drop (j + 1)) (r.getD j 0) res' mn').2) = T := by
  have ha' : as.drop j = as.getD j 0 :: as.drop (j + 1) := by
    rw [List.drop_eq_getElem_cons ha]
    simp [List.getD_eq_getElem?_getD, ha]
  have hr' : r.drop j = r.getD j 0 :: r.drop (j + 1) := by
    rw [List.drop_eq_getElem_cons hr]
    simp [List.getD_eq_getElem?_getD, hr]
  rw [ha', hr'] at h
  rw [← h]
  have e3 : (r.set j res').drop (j + 1) = r.drop (j + 1) := by
    rw [List.drop_set_of_lt (by omega)]
  have e4 : (r.set j res').take (j + 1) = r.take j ++ [res'] := by
    rw [List.take_add_one, List.take_set_of_le (by omega)]
    simp [hr]
  rw [e3, e4]
  have e5 : lvIn bc (as.getD j 0 :: as.drop (j + 1)) (r.getD j 0 :: r.drop (j + 1)) d res mn = (res' :: (lvIn bc (as.drop (j + 1)) (r.drop (j + 1)) (r.getD j 0) res' mn').1, (lvIn bc (as.drop (j + 1)) (r.drop (j + 1)) (r.getD j 0) res' mn').2) := by
    subst e1; subst e2
    rfl
  rw [e5]
  simp
theorem lvIn_done {bc : Nat} {as : List Nat} {r : List Int} {d res mn : Int} {j : Nat} (ha : as.length ≤ j) (hr : r.length ≤ j) {T : List Int × Int × Int}
    (h : (r.take j ++ (lvIn bc (as.drop j) (r.drop j) d res mn).1, (lvIn bc (as.drop j) (r.drop j) d res mn).2) = T) : (r, res, mn) = T := by
  rw [List.drop_eq_nil_of_le ha, List.drop_eq_nil_of_le hr, List.take_of_length_le hr] at h
  rw [← h]
  simp [lvIn]
end Mine

end
section
set_option maxRecDepth 100000
set_option maxHeartbeats 2000000
namespace Mine
/-- the frame between two turns of the outer loop -/
noncomputable def outMap (m₀ : Str → Option Value) (res : Int) (tr : Tok) (u : Nat → Option Value) : Str → Option Value := fun z =>
  if z = Str.ofString "result" then some (.int res tr) else if z = Str.ofString "bindex" then u 1 else if z = Str.ofString "bchar" then u 2 else if z = Str.ofString "distance" then u 3 else
  if z = Str.ofString "minimum" then u 4 else if z = Str.ofString "index" then u 5 else if z = Str.ofString "substitute" then u 6 else if z = Str.ofString "insert_delete" then u 7 else m₀ z
/-- the frame between two turns of the inner loop -/
noncomputable def inMap (m₁ : Str → Option Value) (d : Int) (td : Tok) (res : Int) (tr : Tok) (mn : Int) (tm : Tok) (u : Nat → Option Value) : Str → Option Value := fun z =>
  if z = Str.ofString "result" then some (.int res tr) else if z = Str.ofString "distance" then some (.int d td) else if z = Str.ofString "minimum" then some (.int mn tm) else
  if z = Str.ofString "index" then u 5 else if z = Str.ofString "substitute" then u 6 else if z = Str.ofString "insert_delete" then u 7 else m₁ z
noncomputable def pick (a b c d e f g : Option Value) : Nat → Option Value
  | 1 => a | 2 => b | 3 => c | 4 => d | 5 => e | 6 => f | _ => g
theorem outMap_self {m : Str → Option Value} {res : Int} {tr : Tok} (h : m (Str.ofString "result") = some (.int res tr)) :
    m = outMap m res tr (pick (m (Str.ofString "bindex")) (m (Str.ofString "bchar")) (m (Str.ofString "distance")) (m (Str.ofString "minimum")) (m (Str.ofString "index")) (m (Str.ofString "substitute")) (m (Str.ofString "insert_delete"))) := by
  funext z
  unfold outMap
  by_cases h1 : z = Str.ofString "result"
  · rw [if_pos h1, h1]; exact h
  rw [if_neg h1]
  by_cases h2 : z = Str.ofString "bindex"
  · rw [if_pos h2, h2]; rfl
  rw [if_neg h2]
  by_cases h3 : z = Str.ofString "bchar"
  · rw [if_pos h3, h3]; rfl
  rw [if_neg h3]
  by_cases h4 : z = Str.ofString "distance"
  · rw [if_pos h4, h4]; rfl
  rw [if_neg h4]
  by_cases h5 : z = Str.ofString "minimum"
  · rw [if_pos h5, h5]; rfl
  rw [if_neg h5]
  by_cases h6 : z = Str.ofString "index"
  · rw [if_pos h6, h6]; rfl
  rw [if_neg h6]
  by_cases h7 : z = Str.ofString "substitute"
  · rw [if_pos h7, h7]; rfl
  rw [if_neg h7]
  by_cases h8 : z = Str.ofString "insert_delete"
  · rw [if_pos h8, h8]; rfl
  rw [if_neg h8]
/-- a frame that differs at the eight names alone -/
theorem outMap_of {m₀ m' : Str → Option Value} {res : Int} {tr : Tok} (h : m' (Str.ofString "result") = some (.int res tr))
    (ho : ∀ z, z ≠ Str.ofString "result" → z ≠ Str.ofString "bindex" → z ≠ Str.ofString "bchar" → z ≠ Str.ofString "distance" → z ≠ Str.ofString "minimum" → z ≠ Str.ofString "index" → z ≠ Str.ofString "substitute" → z ≠ Str.ofString "insert_delete" → m' z = m₀ z) :
    ∃ u, m' = outMap m₀ res tr u := by
  refine ⟨pick (m' (Str.ofString "bindex")) (m' (Str.ofString "bchar")) (m' (Str.ofString "distance")) (m' (Str.ofString "minimum")) (m' (Str.ofString "index")) (m' (Str.ofString "substitute")) (m' (Str.ofString "insert_delete")), (outMap_self h).trans ?_⟩
  · funext z
    unfold outMap
    by_cases h1 : z = Str.ofString "result"
    · rw [if_pos h1, if_pos h1]
    rw [if_neg h1, if_neg h1]
    by_cases h2 : z = Str.ofString "bindex"
    · rw [if_pos h2, if_pos h2]
    rw [if_neg h2, if_neg h2]
    by_cases h3 : z = Str.ofString "bchar"
    · rw [if_pos h3, if_pos h3]
    rw [if_neg h3, if_neg h3]
    by_cases h4 : z = Str.ofString "distance"
    · rw [if_pos h4, if_pos h4]
    rw [if_neg h4, if_neg h4]
    by_cases h5 : z = Str.ofString "minimum"
    · rw [if_pos h5, if_pos h5]
    rw [if_neg h5, if_neg h5]
    by_cases h6 : z = Str.ofString "index"
    · rw [if_pos h6, if_pos h6]
    rw [if_neg h6, if_neg h6]
    by_cases h7 : z = Str.ofString "substitute"
    · rw [if_pos h7, if_pos h7]
    rw [if_neg h7, if_neg h7]
    by_cases h8 : z = Str.ofString "insert_delete"
    · rw [if_pos h8, if_pos h8]
    rw [if_neg h8, if_neg h8]
    exact ho z h1 h2 h3 h4 h5 h6 h7 h8
theorem inMap_of {m₁ m' : Str → Option Value} {d res mn : Int} {td tr tm : Tok} (h : m' (Str.ofString "result") = some (.int res tr)) (hd : m' (Str.ofString "distance") = some (.int d td)) (hm : m' (Str.ofString "minimum") = some (.int mn tm))
    (ho : ∀ z, z ≠ Str.ofString "result" → z ≠ Str.ofString "distance" → z ≠ Str.ofString "minimum" → z ≠ Str.ofString "index" → z ≠ Str.ofString "substitute" → z ≠ Str.ofString "insert_delete" → m' z = m₁ z) :
    ∃ u, m' = inMap m₁ d td res tr mn tm u := by
  refine ⟨pick none none none none (m' (Str.ofString "index")) (m' (Str.ofString "substitute")) (m' (Str.ofString "insert_delete")), ?_⟩
  funext z
  unfold inMap
  by_cases h1 : z = Str.ofString "result"
  · rw [if_pos h1, h1]; exact h
  rw [if_neg h1]
  by_cases h4 : z = Str.ofString "distance"
  · rw [if_pos h4, h4]; exact hd
  rw [if_neg h4]
  by_cases h5 : z = Str.ofString "minimum"
  · rw [if_pos h5, h5]; exact hm
  rw [if_neg h5]
  by_cases h6 : z = Str.ofString "index"
  · rw [if_pos h6, h6]; rfl
  rw [if_neg h6]
  by_cases h7 : z = Str.ofString "substitute"
  · rw [if_pos h7, h7]; rfl
  rw [if_neg h7]
  by_cases h8 : z = Str.ofString "insert_delete"
  · rw [if_pos h8, h8]; rfl
  rw [if_neg h8]
  exact ho z h1 h4 h5 h6 h7 h8
section
variable {prog : Program} {w : World} {A : Around} {E : Value → Shared → Prop} {s : Shared} {env : Env} {h₀ : Heap} {body : List Stmt} {Q : Flow → Shared → Prop}
noncomputable def InEnd (m₁ : Str → Option Value) (D : Addr) (k : Nat) (news : List (Addr × Obj)) (bc : Nat) (as : List Nat) (T : List Int × Int × Int) (j : Nat) (m' : Str → Option Value) (nw : List (Addr × Obj)) : Prop :=
  ∃ (vs : List Value) (r : List Int) (d : Int) (td : Tok) (res : Int) (tr : Tok) (mn : Int) (tm : Tok) (u : Nat → Option Value), nw = (D, PySem.W.listOf vs.toArray k) :: news ∧ IntsAre vs r ∧ r.length = as.length ∧ m' = inMap m₁ d td res tr mn tm u ∧ (r.take j ++ (lvIn bc (as.drop j) (r.drop j) d res mn).1, (lvIn bc (as.drop j) (r.drop j) d res mn).2) = T
theorem lev_inner {D rg : Addr} {vs₀ : List Value} {r₀ : List Int} {k : Nat} {t u v : Tok} {bc : Nat} {as : List Nat} {m₁ : Str → Option Value} {news : List (Addr × Obj)} {d₀ res₀ mn₀ : Int} {td tr tm : Tok}
    (hh : A.handled = none) (hr : IsRange s.heap rg 0 (as.length : Int) 1 t u v) (hn : as.length ≤ 20) (F : Fr h₀ env.locals s.heap m₁) (N : News h₀ env.locals s.heap ((D, PySem.W.listOf vs₀.toArray k) :: news)) (hi : IntsAre vs₀ r₀) (hl : r₀.length = as.length)
    (h1 : m₁ (Str.ofString "result") = some (.int res₀ tr)) (h2 : m₁ (Str.ofString "distance") = some (.int d₀ td)) (h3 : m₁ (Str.ofString "minimum") = some (.int mn₀ tm))
    (turn : ∀ (j : Nat) (tv : Tok) (vs : List Value) (r : List Int) (d : Int) (td : Tok) (res : Int) (tr : Tok) (mn : Int) (tm : Tok) (u : Nat → Option Value) (I : Addr) (oI : Obj) (h : Heap) (tk : Nat), j < as.length → IntsAre vs r → r.length = as.length → (r.take j ++ (lvIn bc (as.drop j) (r.drop j) d res mn).1, (lvIn bc (as.drop j) (r.drop j) d res mn).2) = (r₀.take 0 ++ (lvIn bc (as.drop 0) (r₀.drop 0) d₀ res₀ mn₀).1, (lvIn bc (as.drop 0) (r₀.drop 0) d₀ res₀ mn₀).2) →
      Fr h₀ env.locals h (fun y => if y = Str.ofString "index" then some (.int (j : Int) tv) else inMap m₁ d td res tr mn tm u y) → News h₀ env.locals h ((I, oI) :: (D, PySem.W.listOf vs.toArray k) :: news) → (@Ne Nat I D) → (∀ p ∈ news, p.1 ≠ I) →
      wpAny (model prog w) A (execs body env) (TurnEnd h₀ env.locals [(I, oI)] (InEnd m₁ D k news bc as (r₀.take 0 ++ (lvIn bc (as.drop 0) (r₀.drop 0) d₀ res₀ mn₀).1, (lvIn bc (as.drop 0) (r₀.drop 0) d₀ res₀ mn₀).2) (j + 1)) Q { s with heap := h, toks := tk }) E { s with heap := h, toks := tk })
    (done : ∀ (vs : List Value) (r : List Int) (d : Int) (td : Tok) (res : Int) (tr : Tok) (mn : Int) (tm : Tok) (u : Nat → Option Value) (h : Heap) (tk : Nat), IntsAre vs r → r.length = as.length → (r, res, mn) = lvIn bc as r₀ d₀ res₀ mn₀ → Fr h₀ env.locals h (inMap m₁ d td res tr mn tm u) → News h₀ env.locals h ((D, PySem.W.listOf vs.toArray k) :: news) → Q .next { s with heap := h, toks := tk }) :
    MyIter prog w A h₀ env (Str.ofString "index") body Q E (.ref rg) s := by
  refine iterR0 (m₀ := m₁) (InEnd m₁ D k news bc as (r₀.take 0 ++ (lvIn bc (as.drop 0) (r₀.drop 0) d₀ res₀ mn₀).1, (lvIn bc (as.drop 0) (r₀.drop 0) d₀ res₀ mn₀).2)) hh hr (by omega) F N ?_ ?_ ?_
  · obtain ⟨u, e⟩ := inMap_of (m₁ := m₁) h1 h2 h3 (fun _ _ _ _ _ _ _ => rfl)
    exact ⟨vs₀, r₀, d₀, td, res₀, tr, mn₀, tm, u, rfl, hi, hl, e, rfl⟩
  · rintro j tv m' nw I oI h tk hj ⟨vs, r, d, td, res, tr, mn, tm, u, rfl, hi', hl', rfl, hT⟩ F₁ N₁ ho
    exact turn j tv vs r d td res tr mn tm u I oI h tk hj hi' hl' hT F₁ N₁ (Ne.symm (ho _ List.mem_cons_self)) (fun p hp => ho p (List.mem_cons_of_mem _ hp))
  · rintro m' nw h tk ⟨vs, r, d, td, res, tr, mn, tm, u, rfl, hi', hl', rfl, hT⟩ F₁ N₁
    have := lvIn_done (Nat.le_refl _) (Nat.le_of_eq hl') hT
    exact done vs r d td res tr mn tm u h tk hi' hl' (by rw [this]; simp) F₁ N₁
noncomputable def OutEnd (m₀ : Str → Option Value) (D : Addr) (k : Nat) (news : List (Addr × Obj)) (as bs : List Nat) (mc T : Int) (i : Nat) (m' : Str → Option Value) (nw : List (Addr × Obj)) : Prop :=
  ∃ (vs : List Value) (r : List Int) (res : Int) (tr : Tok) (u : Nat → Option Value), nw = (D, PySem.W.listOf vs.toArray k) :: news ∧ IntsAre vs r ∧ r.length = as.length ∧ m' = outMap m₀ res tr u ∧ lvOut as mc (bs.drop i) (i : Int) r res = T
theorem lev_outer {D rg : Addr} {vs₀ : List Value} {r₀ : List Int} {k : Nat} {t u v : Tok} {as bs : List Nat} {mc : Int} {m₀ : Str → Option Value} {news : List (Addr × Obj)} {tr : Tok}
    (hh : A.handled = none) (hr : IsRange s.heap rg 0 (bs.length : Int) 1 t u v) (hn : bs.length ≤ 20) (F : Fr h₀ env.locals s.heap m₀) (N : News h₀ env.locals s.heap ((D, PySem.W.listOf vs₀.toArray k) :: news)) (hi : IntsAre vs₀ r₀) (hl : r₀.length = as.length)
    (h1 : m₀ (Str.ofString "result") = some (.int 0 tr))
    (turn : ∀ (i : Nat) (tv : Tok) (vs : List Value) (r : List Int) (res : Int) (tr : Tok) (u : Nat → Option Value) (I : Addr) (oI : Obj) (h : Heap) (tk : Nat), i < bs.length → IntsAre vs r → r.length = as.length → lvOut as mc (bs.drop i) (i : Int) r res = lvOut as mc bs 0 r₀ 0 →
      Fr h₀ env.locals h (fun y => if y = Str.ofString "bindex" then some (.int (i : Int) tv) else outMap m₀ res tr u y) → News h₀ env.locals h ((I, oI) :: (D, PySem.W.listOf vs.toArray k) :: news) → (@Ne Nat I D) → (∀ p ∈ news, p.1 ≠ I) →
      wpAny (model prog w) A (execs body env) (TurnEnd h₀ env.locals [(I, oI)] (OutEnd m₀ D k news as bs mc (lvOut as mc bs 0 r₀ 0) (i + 1)) Q { s with heap := h, toks := tk }) E { s with heap := h, toks := tk })
    (done : ∀ (vs : List Value) (res : Int) (tr : Tok) (u : Nat → Option Value) (h : Heap) (tk : Nat), res = lvOut as mc bs 0 r₀ 0 → Fr h₀ env.locals h (outMap m₀ res tr u) → News h₀ env.locals h ((D, PySem.W.listOf vs.toArray k) :: news) → Q .next { s with heap := h, toks := tk }) :
    MyIter prog w A h₀ env (Str.ofString "bindex") body Q E (.ref rg) s := by
  refine iterR0 (m₀ := m₀) (OutEnd m₀ D k news as bs mc (lvOut as mc bs 0 r₀ 0)) hh hr (by omega) F N ?_ ?_ ?_
  · obtain ⟨u, e⟩ := outMap_of (m₀ := m₀) h1 (fun _ _ _ _ _ _ _ _ _ => rfl)
    exact ⟨vs₀, r₀, 0, tr, u, rfl, hi, hl, e, rfl⟩
  · rintro i tv m' nw I oI h tk hj ⟨vs, r, res, tr, u, rfl, hi', hl', rfl, hT⟩ F₁ N₁ ho
    exact turn i tv vs r res tr u I oI h tk hj hi' hl' hT F₁ N₁ (Ne.symm (ho _ List.mem_cons_self)) (fun p hp => ho p (List.mem_cons_of_mem _ hp))
  · rintro m' nw h tk ⟨vs, r, res, tr, u, rfl, hi', hl', rfl, hT⟩ F₁ N₁
    rw [List.drop_length] at hT
    exact done vs res tr u h tk hT F₁ N₁
end
section
variable {s : Shared} {h₀ : Heap} {L : Addr}
theorem inEnd_go {D I : Addr} {oI : Obj} {vs : List Value} {r : List Int} {k : Nat} {bc : Nat} {as : List Nat} {T : List Int × Int × Int} {j : Nat} {m₁ m' : Str → Option Value} {news : List (Addr × Obj)} {d res mn : Int} {td tr tm : Tok} {h' : Heap} {tk : Nat}
    (F : Fr h₀ L h' m') (N : News h₀ L h' ((I, oI) :: (D, PySem.W.listOf vs.toArray k) :: news)) (hid : (@Ne Nat I D)) (hI : ∀ p ∈ news, p.1 ≠ I) (h1 : m' (Str.ofString "result") = some (.int res tr)) (h2 : m' (Str.ofString "distance") = some (.int d td)) (h3 : m' (Str.ofString "minimum") = some (.int mn tm))
    (ho : ∀ z, z ≠ Str.ofString "result" → z ≠ Str.ofString "distance" → z ≠ Str.ofString "minimum" → z ≠ Str.ofString "index" → z ≠ Str.ofString "substitute" → z ≠ Str.ofString "insert_delete" → m' z = m₁ z)
    (hi : IntsAre vs r) (hl : r.length = as.length) (hT : (r.take j ++ (lvIn bc (as.drop j) (r.drop j) d res mn).1, (lvIn bc (as.drop j) (r.drop j) d res mn).2) = T) :
    TurnGo h₀ L [(I, oI)] (InEnd m₁ D k news bc as T j) s { s with heap := h', toks := tk } := by
  obtain ⟨u, e⟩ := inMap_of (m₁ := m₁) h1 h2 h3 ho
  exact TurnGo.intro ((D, PySem.W.listOf vs.toArray k) :: news) F N (fun p hp => hp) (off1 (List.forall_mem_cons.mpr ⟨Ne.symm hid, hI⟩)) ⟨vs, r, d, td, res, tr, mn, tm, u, rfl, hi, hl, e, hT⟩
theorem outEnd_go {D I : Addr} {oI : Obj} {vs : List Value} {r : List Int} {k : Nat} {as bs : List Nat} {mc T : Int} {i : Nat} {m₀ m' : Str → Option Value} {news : List (Addr × Obj)} {res : Int} {tr : Tok} {h' : Heap} {tk : Nat} {all : List (Addr × Obj)}
    (F : Fr h₀ L h' m') (N : News h₀ L h' all) (hm1 : (I, oI) ∈ all) (hm2 : (D, PySem.W.listOf vs.toArray k) ∈ all) (hm3 : ∀ p ∈ news, p ∈ all) (hid : (@Ne Nat I D)) (hI : ∀ p ∈ news, p.1 ≠ I) (h1 : m' (Str.ofString "result") = some (.int res tr))
    (ho : ∀ z, z ≠ Str.ofString "result" → z ≠ Str.ofString "bindex" → z ≠ Str.ofString "bchar" → z ≠ Str.ofString "distance" → z ≠ Str.ofString "minimum" → z ≠ Str.ofString "index" → z ≠ Str.ofString "substitute" → z ≠ Str.ofString "insert_delete" → m' z = m₀ z)
    (hi : IntsAre vs r) (hl : r.length = as.length) (hT : lvOut as mc (bs.drop i) (i : Int) r res = T) :
    TurnGo h₀ L [(I, oI)] (OutEnd m₀ D k news as bs mc T i) s { s with heap := h', toks := tk } := by
  obtain ⟨u, e⟩ := outMap_of (m₀ := m₀) h1 ho
  refine TurnGo.intro ((D, PySem.W.listOf vs.toArray k) :: news) F N (fun p hp => ?_) (off1 (List.forall_mem_cons.mpr ⟨Ne.symm hid, hI⟩)) ⟨vs, r, res, tr, u, rfl, hi, hl, e, hT⟩
  rcases List.mem_cons.mp hp with rfl | hp
  · exact hm1
  · rcases List.mem_cons.mp hp with rfl | hp
    · exact hm2
    · exact hm3 p hp
end
/-- one turn of the outer loop, read off -/
theorem lvOut_step {as bs : List Nat} {mc : Int} {i : Nat} {r : List Int} {res : Int} {T : Int} (hi : i < bs.length) (h : lvOut as mc (bs.drop i) (i : Int) r res = T) {r' : List Int} {res' mn' : Int}
    (e : (r', res', mn') = lvIn (bs.getD i 0) as r ((i : Int) * 2) ((i : Int) * 2) 9223372036854775807) :
    (mc < mn' → mc + 1 = T) ∧ (¬ mc < mn' → lvOut as mc (bs.drop (i + 1)) ((i + 1 : Nat) : Int) r' res' = T) := by
  have hb : bs.drop i = bs.getD i 0 :: bs.drop (i + 1) := by
    rw [List.drop_eq_getElem_cons hi]
    simp [List.getD_eq_getElem?_getD, hi]
  rw [hb, lvOut, ← e] at h
  constructor
  · intro hm
    rw [if_pos hm] at h
    exact h
  · intro hm
    rw [if_neg hm] at h
    exact h
end Mine

end
section
set_option maxRecDepth 100000
set_option maxHeartbeats 2000000
namespace Mine
theorem fr_keep1 {P : Prop} {h₀ h : Heap} {L : Addr} {a b c : Str} {va vb vc : Option Value} {m : Str → Option Value} (F : Fr h₀ L h (fun z => if z = a then va else if z = b then vb else m z)) (hc : m c = vc) (H : ∀ m₀ : Str → Option Value, Fr h₀ L h (fun z => if z = a then va else if z = b then vb else if z = c then vc else m₀ z) → P) : P := H m (by
  have e : (fun z => if z = a then va else if z = b then vb else if z = c then vc else m z) = fun z => if z = a then va else if z = b then vb else m z := by
    funext z
    by_cases h : z = c
    · rw [if_pos h, h, hc]
    · rw [if_neg h]
  rw [e]
  exact F)
local macro_rules | `(tactic| k_all) => `(tactic| assumption)
theorem lev_claim (w : World) (mean : ExcName → Option Value) (mg mb : Str → Option Value) (news : List (Addr × Obj)) (a b : Str) (ta tb : Tok) (mc : Int) (tm : Tok) (ha : a.length ≤ 20) (hb : b.length ≤ 20) :
    CtN 2 w mean mg mb 56 news [.str a ta, .str b tb, .int mc tm] (fun t => .int (levFn a b mc) t) := by
  w_top off
  k_with_none
  k_with "execs cons" => ((refine toks_gen ?_); intro ztkz; (with_reducible refine wpAny_execs_cons ?_); (try dsimp only))
  k_with "exec While BoolOp" => (k_here; refine stuck ?_)
  k_with "eval BoolOp" => (k_here; (with_reducible show wpAny _ _ (eval (PySem.Expr.BoolOp BoolOp.Or [PySem.Expr.Name _ _, PySem.Expr.Constant Const.none _ _] _) _) _ _ _); k_dflt (refine or_none (by k_asm) (by exact rfl) ?_))
  k_with "subscriptTail Name Slice str ref" => (k_here; (first | ((with_reducible show wpAny _ _ (subscriptTail _ (PySem.Expr.Slice (some _) none none _) _ _) _ _ _); (refine sl_from (s := ⟨_, _, _, _, _⟩) (by first | with_reducible k_asm | k_asm) (by first | with_reducible k_asm | k_asm) (by omega) (by omega) ?_ (by with_unfolding_all rfl) (by kmk_pure))) | ((with_reducible show wpAny _ _ (subscriptTail _ (PySem.Expr.Slice none (some (PySem.Expr.BoolOp _ _ _)) none _) _ _) _ _ _); (refine sl_or (s := ⟨_, _, _, _, _⟩) (by first | with_reducible k_asm | k_asm) (by first | with_reducible k_asm | k_asm) (by omega) (by omega) ?_ (by with_unfolding_all rfl) (by kmk_pure)))); intro zhz ztz c' zhlz zFz zNz)
  k_with "subscriptTail Name Name str int" => (k_here; (refine it_k (by omega) (by omega) ?_ (by with_unfolding_all rfl) (by kmk_pure)); intro zhlz)
  k_with "subscriptTail Name BinOp str int" => (k_here; (refine it_nk (by omega) (by omega) ?_ (by with_unfolding_all rfl) (by kmk_pure)); intro zhlz)
  k_with "CntGo" => (dsimp only [CntGo])
  k_with "exec If" => (k_here; (with_reducible show wpAny _ _ (exec (Stmt.If _ [Stmt.Assign [PySem.Expr.Tuple _ _ _] _ _] [] _) _) _ _ _); (fail_if_success (with_reducible show wpAny _ _ _ (CutX _ _ _ _) _ _)); refine stuck ?_)
  k_with "CutX" => (dsimp only [CutX])
  k_with "call type:list" => (k_here; (rename IsRange _ _ _ _ _ _ _ _ => zRz); (refine list_two rfl (by first | with_reducible k_asm | k_asm) (by first | with_reducible k_asm | k_asm) zRz (by omega) ?_); intro zDz zitsz zkz zhz ztkz zhiz zFz zNz zl1z; (try k_lt zl1z); clear zRz)
  k_with "exec For Name Call cons nil" => (k_here; (rename Fr _ _ _ _ => zlFz); k_dflt (refine For_my zlFz (by exact rfl) (by exact rfl) ?_))
  k_with "TurnEnd" => (dsimp only [TurnEnd])
  k_with "call ref" => (k_here; (with_reducible show wpAny _ _ (call (Value.ref 49) _) _ _ _); k_dflt (refine CtV.use (sub_claim _ _ _ _ _ _ _ _ _ (by (rw [chStr_len]; omega)) (by (rw [chStr_len]; omega))) (by first | with_reducible k_asm | k_asm) (by first | with_reducible k_asm | k_asm) (by first | with_reducible k_asm | k_asm) (by first | with_reducible k_asm | k_asm) (by first | with_reducible k_asm | k_asm) (by first | exact rfl | assumption) (by ktr_room) (by ktr_units) ?_); intro ztz zhz ztkz zFz zNz)
  k_with "subscriptTail Name Name ref int" => (k_here; k_dflt (refine rowGet (by first | with_reducible k_asm | k_asm) (by first | with_reducible k_mem | k_mem) (by first | with_reducible assumption | assumption) (by omega) (by omega) ?_ (by with_unfolding_all rfl)); intro ztz)
  k_with "setItem ref int" => (k_here; k_dflt (refine rowSet (by first | with_reducible k_asm | k_asm) (by first | with_reducible k_asm | k_asm) (by first | with_reducible k_mem | k_mem) (by first | with_reducible assumption | assumption) (by omega) (by omega) (by k_upd) ?_); intro zhz zhiz zFz zNz)
  dsimp only [CtN, CbRet]
  k_fill
  intro dp un gd cn cs a' ccd cl outer A₀ base h₀ L m s Q E B F X N T hk hdp hun hret
  refine wpAny_call ?_
  k_dflt cell_enter
  k_steps
  · refine' cb_retI (Q := Q) hret ?_ ?_ ?_
    · exact (levFn_same (by assumption)).symm
    · k_asm
    · k_asm
  · unfold Stuck
    rename Fr _ _ _ _ => F1
    rename News _ _ _ _ => N1
    refine' while_count (x := Str.ofString "pre") (val := fun k => (k : Int)) (P := PreAt a b) (K := preS a b) (news := news) F1 N1 (PreAt.zero a b) ?kl ?kp ?_ ?_ ?kE
    case kE => first | passes_own | with_unfolding_all passes_own
    case kp => exact rfl
    case kl => intro k hk'; have := hk'.le; unfold PreAt at hk'; omega
    · intro k tk h₁ tk₁ hP F₁ N₁
      have hkl := hP.le
      dsimp only at F₁
      refine absQ fun Qw hQw => ?_
      k_steps
      all_goals (apply hQw; k_steps)
      · exact CntNx.intro (by assumption) (by assumption) rfl (hP.yes (by omega) (by omega) (by assumption))
      · exact CntEx.intro (by assumption) (by assumption) (hP.no (by omega) (by omega) (by assumption))
      · exact CntEx.intro (by assumption) (by assumption) (hP.end (by omega))
      · exact CntEx.intro (by assumption) (by assumption) (hP.end (by omega))
    · intro tk h' tk' F₁ N₁
      have hpl := preS_le a b
      dsimp only at F₁
      clear F1 N1
      k_steps
      unfold Stuck
      rename Fr _ _ _ _ => F2
      rename News _ _ _ _ => N2
      refine' while_count (x := Str.ofString "post") (val := fun k => -(k : Int)) (P := SufAt (dropStr a (preS a b)) (dropStr b (preS a b))) (K := sufS (dropStr a (preS a b)) (dropStr b (preS a b))) (news := news) F2 N2 (SufAt.zero _ _) ?kl2 ?kp2 ?_ ?_ ?kE2
      case kE2 => first | passes_own | with_unfolding_all passes_own
      case kp2 => exact rfl
      case kl2 => intro k hk'; have := hk'.le; unfold SufAt at hk'; omega
      · intro k tk h₁ tk₁ hP F₁ N₁
        have hkl := hP.le
        dsimp only at F₁
        refine absQ fun Qw hQw => ?_
        k_steps
        all_goals (apply hQw; k_steps)
        · exact CntNx.intro (by assumption) (by assumption) (by omega) (hP.yes (by omega) (by omega) (by assumption))
        · exact CntEx.intro (by assumption) (by assumption) (hP.no (by omega) (by omega) (by assumption))
        · exact CntEx.intro (by assumption) (by assumption) (hP.end (by omega))
        · exact CntEx.intro (by assumption) (by assumption) (hP.end (by omega))
      · intro tk h' tk' F₁ N₁
        have hpl := sufS_le (dropStr a (preS a b)) (dropStr b (preS a b))
        dsimp only at F₁
        clear F2 N2
        k_steps
        rotate_left
        · refine' cb_retI (Q := Q) hret ?_ ?_ ?_
          · refine (levFn_empty (by assumption) ?_).symm
            unfold levA levB lev1 lev2
            omega
          · k_asm
          · k_asm
        · refine' cb_retI (Q := Q) hret ?_ ?_ ?_
          · refine (levFn_empty (by assumption) ?_).symm
            unfold levA levB lev1 lev2
            omega
          · k_asm
          · k_asm
        unfold Stuck
        rename Fr _ _ _ _ => F3
        rename News _ _ _ _ => N3
        refine cut_swap (x := levA a b) (y := levB a b) (news := news) F3 ?_ ?_
        · unfold levA levB lev1 lev2
          k_steps
          · exact swapX_yes (by assumption) (cb_drop (by assumption) (fun p hp => by (repeat' (first | exact hp | refine List.Mem.tail _ ?_)))) (by omega)
          · exact swapX_no (by assumption) (cb_drop (by assumption) (fun p hp => by (repeat' (first | exact hp | refine List.Mem.tail _ ?_)))) (by rfl) (by rfl) (by omega)
        · intro u v tu tv h' tk' hl1 hl2 hl3 hsw F₀ N₁
          refine fr_keep1 (c := Str.ofString "max_cost") (vc := some (.int mc tm)) F₀ (by rfl) fun m9 F₁ => ?_
          clear F₀
          have hne1 : (levA a b).length ≠ 0 := by unfold levA lev1 lev2; omega
          have hne2 : (levB a b).length ≠ 0 := by unfold levB lev1 lev2; omega
          have hA : (levA a b).length ≤ 20 := by unfold levA lev1 lev2; omega
          have hB : (levB a b).length ≤ 20 := by unfold levB lev1 lev2; omega
          have hlev := levFn_swap (mc := mc) (by assumption) hne1 hne2
          rw [hsw mc] at hlev
          rw [hlev] at hret
          have hu : u.length ≤ 20 := by omega
          have hv : v.length ≤ 20 := by omega
          have hu1 : 1 ≤ u.length := by omega
          clear F3 N3 hlev hsw hne1 hne2 hA hB hl2 hl3
          k_steps
          · refine' cb_retI (Q := Q) hret ?_ ?_ ?_
            · unfold levCore
              rw [if_pos (by omega)]
            · k_asm
            · k_asm
          have hN9 : ∀ p ∈ news, p.1 ≠ _ := fun p hp => Nat.ne_of_lt (by first | exact (‹∀ p ∈ news, p.1 < _›) p hp)
          rename IsRange _ _ _ _ _ _ _ _ => R9
          refine' lev_outer (as := u.cps.toList) (bs := v.cps.toList) (mc := mc) (news := news) ?kh R9 hv ?kF ?kN ?ki ?kl9 ?k1 ?_ ?_
          case kh => exact rfl
          case kF => k_asm
          case kN => k_asm
          case ki => assumption
          case kl9 => exact rowInit_len _
          case k1 => exact rfl
          · intro i tv vs r res tr u9 I oI h tk hi hI hrl hT F₁ N₁ hne hnI
            have hi1 : i < v.length := hi
            have hrl1 : r.length = u.length := hrl
            refine absQ fun Qt1 hQt1 => ?_
            k_steps
            rename IsRange _ _ _ _ _ _ _ _ => R8
            refine' lev_inner (bc := v.cps.toList.getD i 0) (as := u.cps.toList) (news := (I, oI) :: news) ?jh R8 hu ?jF ?jN ?ji ?jl ?j1 ?j2 ?j3 ?_ ?_
            case jh => exact rfl
            case jF => k_asm
            case jN => exact cb_drop (by assumption) (fun p hp => by
              rcases List.mem_cons.mp hp with rfl | hp
              · k_mem
              · rcases List.mem_cons.mp hp with rfl | hp
                · k_mem
                · (repeat' (first | exact hp | refine List.Mem.tail _ ?_)))
            case ji => exact hI
            case jl => exact hrl
            case j1 => exact rfl
            case j2 => exact rfl
            case j3 => exact rfl
            · intro j tj vs' r' d td res' tr' mn tm u8 I' oI' h tk hj hI' hrl' hT' F₂ N₂ hne' hnI'
              have hj1 : j < u.length := hj
              have hrl2 : r'.length = u.length := hrl'
              have hcost : subCost (chStr v i) (chStr u j) = cost1 (v.cps.toList.getD i 0) (u.cps.toList.getD j 0) := rfl
              refine absQ fun Qt2 hQt2 => ?_
              k_steps
              all_goals (apply hQt2; k_steps)
              · refine inEnd_go (by assumption) (by assumption) hne' hnI' (by rfl) (by rfl) (by rfl) (fun z z1 z2 z3 z4 z5 z6 => by simp only [inMap, z1, z2, z3, z4, z5, z6, if_false]) (by assumption) (by rw [List.length_set]; exact hrl') (lvIn_step (by exact hj) (by omega) hT' ?_ ?_)
                · rw [hcost]; simp only [Int.min_def]; (repeat' split) <;> omega
                · exact (if_pos (by assumption)).symm
              · refine inEnd_go (by assumption) (by assumption) hne' hnI' (by rfl) (by rfl) (by rfl) (fun z z1 z2 z3 z4 z5 z6 => by simp only [inMap, z1, z2, z3, z4, z5, z6, if_false]) (by assumption) (by rw [List.length_set]; exact hrl') (lvIn_step (by exact hj) (by omega) hT' ?_ ?_)
                · rw [hcost]; simp only [Int.min_def]; (repeat' split) <;> omega
                · exact (if_neg (by assumption)).symm
            · intro vs' r' d td res' tr' mn tm u8 h tk hI' hrl' hres' F₂ N₂
              obtain ⟨hs1, hs2⟩ := lvOut_step hi hT hres'
              k_steps
              all_goals (apply hQt1; k_steps)
              · refine' cb_retI (Q := Q) hret ?_ ?_ ?_
                · rw [hs1 (by assumption)]
                  unfold levCore
                  rw [if_neg (by omega)]
                · k_asm
                · exact cb_drop (by assumption) (fun p hp => by (repeat' (first | exact hp | refine List.Mem.tail _ ?_)))
              · exact outEnd_go (by assumption) (by assumption) (by k_mem) (by k_mem) (fun p hp => by (repeat' (first | exact hp | refine List.Mem.tail _ ?_))) hne hnI (by rfl) (fun z z1 z2 z3 z4 z5 z6 z7 z8 => by simp only [inMap, outMap, z1, z2, z3, z4, z5, z6, z7, z8, if_false]) hI' hrl' (hs2 (by assumption))
          · intro vs res tr u9 h tk hres F₁ N₁
            k_steps
            refine' cb_retI (Q := Q) hret ?_ ?_ ?_
            · rw [hres]
              unfold levCore
              rw [if_neg (by omega)]
            · k_asm
            · exact cb_drop (by assumption) (fun p hp => by (repeat' (first | exact hp | refine List.Mem.tail _ ?_)))
end Mine

end
section
set_option maxRecDepth 100000
set_option maxHeartbeats 2000000
namespace Mine
noncomputable def lsV (one two : List Int) (tab : List (List Int)) (i j k m : Nat) : Int :=
  (tab.getD k []).getD m 0 + (if one.getD k 0 - two.getD m 0 < 0 then -(one.getD k 0 - two.getD m 0) else one.getD k 0 - two.getD m 0) + 2 * (if (j : Int) - m > (i : Int) - k then (j : Int) - m else (i : Int) - k) - 2
noncomputable def lsM (one two : List Int) (tab : List (List Int)) (i j k : Nat) (l : Int) (m : Nat) : Int :=
  if (one.getD k 0).fdiv 2 = (two.getD m 0).fdiv 2 then (if lsV one two tab i j k m < l then lsV one two tab i j k m else l) else l
noncomputable def cellF (one two : List Int) (tab : List (List Int)) (i j : Nat) : Int :=
  (List.range i).foldl (fun l k => (List.range j).foldl (lsM one two tab i j k) l) (2 * (if (j : Int) > (i : Int) then (j : Int) else (i : Int)))
noncomputable def rowF (one two : List Int) (tab : List (List Int)) (i : Nat) : List Int := (List.range (two.length + 1)).map (cellF one two tab i)
noncomputable def tabOf (one two : List Int) : Nat → List (List Int)
  | 0 => []
  | n + 1 => tabOf one two n ++ [rowF one two (tabOf one two n) n]
noncomputable def priceFn (one two : List Int) : Int := ((tabOf one two (one.length + 1)).getD one.length []).getD two.length 0
theorem tabOf_len (one two : List Int) : ∀ n, (tabOf one two n).length = n
  | 0 => rfl
  | n + 1 => by simp [tabOf, tabOf_len one two n]
/-- the frame inside the two innermost loops -/
noncomputable def kmF (x : Str) (m₀ : Str → Option Value) (l : Int) (tl : Tok) (u : Str → Option Value) : Str → Option Value := fun z =>
  if z = Str.ofString "least" then some (.int l tl) else if z = x then u x else if z = Str.ofString "m" then u (Str.ofString "m") else m₀ z
/-- the frame inside the two outer loops -/
noncomputable def ijF (m₀ : Str → Option Value) (u : Str → Option Value) : Str → Option Value := fun z =>
  if z = Str.ofString "least" then u (Str.ofString "least") else if z = Str.ofString "k" then u (Str.ofString "k") else if z = Str.ofString "m" then u (Str.ofString "m") else if z = Str.ofString "j" then u (Str.ofString "j") else if z = Str.ofString "i" then u (Str.ofString "i") else m₀ z
noncomputable def jF (m₀ : Str → Option Value) (u : Str → Option Value) : Str → Option Value := fun z =>
  if z = Str.ofString "least" then u (Str.ofString "least") else if z = Str.ofString "k" then u (Str.ofString "k") else if z = Str.ofString "m" then u (Str.ofString "m") else if z = Str.ofString "j" then u (Str.ofString "j") else m₀ z
theorem jF_of {m₀ m' : Str → Option Value} (ho : ∀ z, z ≠ Str.ofString "least" → z ≠ Str.ofString "k" → z ≠ Str.ofString "m" → z ≠ Str.ofString "j" → m' z = m₀ z) : m' = jF m₀ m' := by
  funext z
  unfold jF
  by_cases h1 : z = Str.ofString "least"
  · rw [if_pos h1, h1]
  rw [if_neg h1]
  by_cases h2 : z = Str.ofString "k"
  · rw [if_pos h2, h2]
  rw [if_neg h2]
  by_cases h3 : z = Str.ofString "m"
  · rw [if_pos h3, h3]
  rw [if_neg h3]
  by_cases h4 : z = Str.ofString "j"
  · rw [if_pos h4, h4]
  rw [if_neg h4]
  exact ho z h1 h2 h3 h4
theorem kmF_of {x : Str} {m₀ m' : Str → Option Value} {l : Int} {tl : Tok} (h : m' (Str.ofString "least") = some (.int l tl))
    (ho : ∀ z, z ≠ Str.ofString "least" → z ≠ x → z ≠ Str.ofString "m" → m' z = m₀ z) : m' = kmF x m₀ l tl m' := by
  funext z
  unfold kmF
  by_cases h1 : z = Str.ofString "least"
  · rw [if_pos h1, h1]; exact h
  rw [if_neg h1]
  by_cases h2 : z = x
  · rw [if_pos h2, h2]
  rw [if_neg h2]
  by_cases h3 : z = Str.ofString "m"
  · rw [if_pos h3, h3]
  rw [if_neg h3]
  exact ho z h1 h2 h3
theorem ijF_of {m₀ m' : Str → Option Value} (ho : ∀ z, z ≠ Str.ofString "least" → z ≠ Str.ofString "k" → z ≠ Str.ofString "m" → z ≠ Str.ofString "j" → z ≠ Str.ofString "i" → m' z = m₀ z) : m' = ijF m₀ m' := by
  funext z
  unfold ijF
  by_cases h1 : z = Str.ofString "least"
  · rw [if_pos h1, h1]
  rw [if_neg h1]
  by_cases h2 : z = Str.ofString "k"
  · rw [if_pos h2, h2]
  rw [if_neg h2]
  by_cases h3 : z = Str.ofString "m"
  · rw [if_pos h3, h3]
  rw [if_neg h3]
  by_cases h4 : z = Str.ofString "j"
  · rw [if_pos h4, h4]
  rw [if_neg h4]
  by_cases h5 : z = Str.ofString "i"
  · rw [if_pos h5, h5]
  rw [if_neg h5]
  exact ho z h1 h2 h3 h4 h5
/-- the rows that the table's references name -/
noncomputable def RowsIn (tl : List (Addr × Obj)) (refs : List Value) (tab : List (List Int)) : Prop :=
  refs.length = tab.length ∧ ∀ k, k < tab.length → ∃ (a : Addr) (vs : List Value) (n : Nat), refs[k]? = some (.ref a) ∧ (a, PySem.W.listOf vs.toArray n) ∈ tl ∧ IntsAre vs (tab.getD k [])
theorem RowsIn.push {tl tl' : List (Addr × Obj)} {refs : List Value} {tab : List (List Int)} (h : RowsIn tl refs tab) {D : Addr} {vs : List Value} {n : Nat} {row : List Int} (hs : ∀ p ∈ tl, p ∈ tl') (hm : (D, PySem.W.listOf vs.toArray n) ∈ tl') (hi : IntsAre vs row) : RowsIn tl' (refs ++ [.ref D]) (tab ++ [row]) := by
  refine ⟨by simp [h.1], fun k hk => ?_⟩
  rcases Nat.lt_or_ge k tab.length with h1 | h1
  · obtain ⟨a, vs, n, e1, e2, e3⟩ := h.2 k h1
    refine ⟨a, vs, n, ?_, hs _ e2, ?_⟩
    · rw [List.getElem?_append_left (by rw [h.1]; exact h1)]; exact e1
    · rw [List.getD_eq_getElem?_getD, List.getElem?_append_left h1, ← List.getD_eq_getElem?_getD]; exact e3
  · have hk' : k = tab.length := by simp at hk; omega
    subst hk'
    refine ⟨D, vs, n, ?_, hm, ?_⟩
    · rw [← h.1]; simp
    · rw [List.getD_eq_getElem?_getD]; simp; exact hi
section
variable {prog : Program} {w : World} {A : Around} {E : Value → Shared → Prop} {s : Shared} {env : Env} {h₀ : Heap} {body : List Stmt} {Q : Flow → Shared → Prop}
noncomputable def KmEnd (x : Str) (m₁ : Str → Option Value) (news : List (Addr × Obj)) (l : Int) (m' : Str → Option Value) (nw : List (Addr × Obj)) : Prop := nw = news ∧ ∃ tl u, m' = kmF x m₁ l tl u
theorem iterLeast {x : Str} {rg : Addr} {t u v : Tok} {n : Nat} {m₁ : Str → Option Value} {news : List (Addr × Obj)} {l₀ : Int} {t₀ : Tok} (f : Int → Nat → Int)
    (hh : A.handled = none) (hr : IsRange s.heap rg 0 (n : Int) 1 t u v) (hn : n ≤ 20) (F : Fr h₀ env.locals s.heap m₁) (N : News h₀ env.locals s.heap news) (h1 : m₁ (Str.ofString "least") = some (.int l₀ t₀))
    (turn : ∀ (i : Nat) (tv : Tok) (l : Int) (tl : Tok) (u : Str → Option Value) (I : Addr) (oI : Obj) (h : Heap) (tk : Nat), i < n → l = (List.range i).foldl f l₀ → Fr h₀ env.locals h (fun y => if y = x then some (.int (i : Int) tv) else kmF x m₁ l tl u y) → News h₀ env.locals h ((I, oI) :: news) → (∀ p ∈ news, p.1 ≠ I) →
      wpAny (model prog w) A (execs body env) (TurnEnd h₀ env.locals [(I, oI)] (KmEnd x m₁ news (f l i)) Q { s with heap := h, toks := tk }) E { s with heap := h, toks := tk })
    (done : ∀ (tl : Tok) (u : Str → Option Value) (h : Heap) (tk : Nat), Fr h₀ env.locals h (kmF x m₁ ((List.range n).foldl f l₀) tl u) → News h₀ env.locals h news → Q .next { s with heap := h, toks := tk }) :
    MyIter prog w A h₀ env x body Q E (.ref rg) s := by
  refine iterR0 (m₀ := m₁) (fun i m' nw => KmEnd x m₁ news ((List.range i).foldl f l₀) m' nw) hh hr (by omega) F N ?_ ?_ ?_
  · exact ⟨rfl, t₀, m₁, kmF_of h1 (fun _ _ _ _ => rfl)⟩
  · rintro j tv m' nw I oI h tk hj ⟨rfl, tl, u, rfl⟩ F₁ N₁ ho
    have := turn j tv _ tl u I oI h tk hj rfl F₁ N₁ ho
    rw [List.range_succ, List.foldl_append]
    exact this
  · rintro m' nw h tk ⟨rfl, tl, u, rfl⟩ F₁ N₁
    exact done tl u h tk F₁ N₁
noncomputable def RowEnd (m₁ : Str → Option Value) (D : Addr) (news : List (Addr × Obj)) (row : List Int) (m' : Str → Option Value) (nw : List (Addr × Obj)) : Prop := ∃ (vs : List Value) (k : Nat) (u : Str → Option Value), nw = (D, PySem.W.listOf vs.toArray k) :: news ∧ IntsAre vs row ∧ m' = jF m₁ u
theorem iterRow {D rg : Addr} {t u v : Tok} {n : Nat} {m₁ : Str → Option Value} {news : List (Addr × Obj)} (f : Nat → Int)
    (hh : A.handled = none) (hr : IsRange s.heap rg 0 (n : Int) 1 t u v) (hn : n ≤ 20) (F : Fr h₀ env.locals s.heap m₁) (N : News h₀ env.locals s.heap ((D, PySem.W.listOf #[] 0) :: news))
    (turn : ∀ (j : Nat) (tv : Tok) (vs : List Value) (k : Nat) (u : Str → Option Value) (I : Addr) (oI : Obj) (h : Heap) (tk : Nat), j < n → IntsAre vs ((List.range j).map f) → vs.length ≤ 20 → Fr h₀ env.locals h (fun y => if y = Str.ofString "j" then some (.int (j : Int) tv) else jF m₁ u y) → News h₀ env.locals h ((I, oI) :: (D, PySem.W.listOf vs.toArray k) :: news) → (@Ne Nat I D) → (∀ p ∈ news, p.1 ≠ I) →
      wpAny (model prog w) A (execs body env) (TurnEnd h₀ env.locals [(I, oI)] (RowEnd m₁ D news ((List.range j).map f ++ [f j])) Q { s with heap := h, toks := tk }) E { s with heap := h, toks := tk })
    (done : ∀ (vs : List Value) (k : Nat) (u : Str → Option Value) (h : Heap) (tk : Nat), IntsAre vs ((List.range n).map f) → Fr h₀ env.locals h (jF m₁ u) → News h₀ env.locals h ((D, PySem.W.listOf vs.toArray k) :: news) → Q .next { s with heap := h, toks := tk }) :
    MyIter prog w A h₀ env (Str.ofString "j") body Q E (.ref rg) s := by
  refine iterR0 (m₀ := m₁) (fun j m' nw => RowEnd m₁ D news ((List.range j).map f) m' nw) hh hr (by omega) F N ?_ ?_ ?_
  · exact ⟨[], 0, m₁, rfl, .nil, jF_of (fun _ _ _ _ _ => rfl)⟩
  · rintro j tv m' nw I oI h tk hj ⟨vs, k, u, rfl, hi, rfl⟩ F₁ N₁ ho
    have hl := hi.length
    rw [List.length_map, List.length_range] at hl
    have := turn j tv vs k u I oI h tk hj hi (by omega) F₁ N₁ (Ne.symm (ho _ List.mem_cons_self)) (fun p hp => ho p (List.mem_cons_of_mem _ hp))
    rw [List.range_succ, List.map_append]
    exact this
  · rintro m' nw h tk ⟨vs, k, u, rfl, hi, rfl⟩ F₁ N₁
    exact done vs k u h tk hi F₁ N₁
noncomputable def TabEnd (m₁ : Str → Option Value) (T : Addr) (base : List (Addr × Obj)) (tab : List (List Int)) (m' : Str → Option Value) (nw : List (Addr × Obj)) : Prop := ∃ (refs : List Value) (tl : List (Addr × Obj)) (k : Nat) (u : Str → Option Value), nw = (T, PySem.W.listOf refs.toArray k) :: tl ∧ RowsIn tl refs tab ∧ (∀ p ∈ base, p ∈ tl) ∧ (∀ p ∈ tl, p.1 ≠ T) ∧ m' = ijF m₁ u
theorem iterTab {T rg : Addr} {t u v : Tok} {n : Nat} {m₁ : Str → Option Value} {base : List (Addr × Obj)} {one two : List Int}
    (hh : A.handled = none) (hr : IsRange s.heap rg 0 (n : Int) 1 t u v) (hn : n ≤ 20) (F : Fr h₀ env.locals s.heap m₁) (N : News h₀ env.locals s.heap ((T, PySem.W.listOf #[] 0) :: base)) (hT : ∀ p ∈ base, p.1 ≠ T)
    (turn : ∀ (i : Nat) (tv : Tok) (refs : List Value) (tl : List (Addr × Obj)) (k : Nat) (u : Str → Option Value) (I : Addr) (oI : Obj) (h : Heap) (tk : Nat), i < n → RowsIn tl refs (tabOf one two i) → (∀ p ∈ base, p ∈ tl) → (∀ p ∈ tl, p.1 ≠ T) → refs.length = i →
      Fr h₀ env.locals h (fun y => if y = Str.ofString "i" then some (.int (i : Int) tv) else ijF m₁ u y) → News h₀ env.locals h ((I, oI) :: (T, PySem.W.listOf refs.toArray k) :: tl) → (@Ne Nat I T) → (∀ p ∈ tl, p.1 ≠ I) →
      wpAny (model prog w) A (execs body env) (TurnEnd h₀ env.locals [(I, oI)] (TabEnd m₁ T base (tabOf one two i ++ [rowF one two (tabOf one two i) i])) Q { s with heap := h, toks := tk }) E { s with heap := h, toks := tk })
    (done : ∀ (refs : List Value) (tl : List (Addr × Obj)) (k : Nat) (u : Str → Option Value) (h : Heap) (tk : Nat), RowsIn tl refs (tabOf one two n) → (∀ p ∈ base, p ∈ tl) → refs.length = n → Fr h₀ env.locals h (ijF m₁ u) → News h₀ env.locals h ((T, PySem.W.listOf refs.toArray k) :: tl) → Q .next { s with heap := h, toks := tk }) :
    MyIter prog w A h₀ env (Str.ofString "i") body Q E (.ref rg) s := by
  refine iterR0 (m₀ := m₁) (fun i m' nw => TabEnd m₁ T base (tabOf one two i) m' nw) hh hr (by omega) F N ?_ ?_ ?_
  · exact ⟨[], base, 0, m₁, rfl, ⟨rfl, fun k hk => absurd hk (Nat.not_lt_zero _)⟩, fun _ h => h, hT, ijF_of (fun _ _ _ _ _ _ => rfl)⟩
  · rintro i tv m' nw I oI h tk hi ⟨refs, tl, k, u, rfl, hR, hb, hT', rfl⟩ F₁ N₁ ho
    exact turn i tv refs tl k u I oI h tk hi hR hb hT' (by rw [hR.1, tabOf_len]) F₁ N₁ (Ne.symm (ho _ List.mem_cons_self)) (fun p hp => ho p (List.mem_cons_of_mem _ hp))
  · rintro m' nw h tk ⟨refs, tl, k, u, rfl, hR, hb, hT', rfl⟩ F₁ N₁
    exact done refs tl k u h tk hR hb (by rw [hR.1, tabOf_len]) F₁ N₁
theorem kmEnd_go {x : Str} {L I : Addr} {oI : Obj} {m₁ m' : Str → Option Value} {news all : List (Addr × Obj)} {l : Int} {tl : Tok} {s₁ : Shared} {h' : Heap} {tk : Nat} (F : Fr h₀ L h' m') (N : News h₀ L h' all) (hs : ∀ p ∈ (I, oI) :: news, p ∈ all) (hI : ∀ p ∈ news, p.1 ≠ I) (h1 : m' (Str.ofString "least") = some (.int l tl))
    (ho : ∀ z, z ≠ Str.ofString "least" → z ≠ x → z ≠ Str.ofString "m" → m' z = m₁ z) {l' : Int} (e : l' = l) : TurnGo h₀ L [(I, oI)] (KmEnd x m₁ news l') s₁ { s₁ with heap := h', toks := tk } :=
  TurnGo.intro news F N hs (off1 hI) ⟨rfl, tl, m', e ▸ kmF_of h1 ho⟩
theorem rowEnd_go {L I D : Addr} {oI : Obj} {m₁ m' : Str → Option Value} {news all : List (Addr × Obj)} {vs : List Value} {k : Nat} {row : List Int} {s₁ : Shared} {h' : Heap} {tk : Nat} (F : Fr h₀ L h' m') (N : News h₀ L h' all) (hs : ∀ p ∈ (I, oI) :: (D, PySem.W.listOf vs.toArray k) :: news, p ∈ all) (hD : @Ne Nat I D) (hI : ∀ p ∈ news, p.1 ≠ I) (hi : IntsAre vs row)
    (ho : ∀ z, z ≠ Str.ofString "least" → z ≠ Str.ofString "k" → z ≠ Str.ofString "m" → z ≠ Str.ofString "j" → m' z = m₁ z) : TurnGo h₀ L [(I, oI)] (RowEnd m₁ D news row) s₁ { s₁ with heap := h', toks := tk } :=
  TurnGo.intro ((D, PySem.W.listOf vs.toArray k) :: news) F N hs (off1 (List.forall_mem_cons.mpr ⟨Ne.symm hD, hI⟩)) ⟨vs, k, m', rfl, hi, jF_of ho⟩
theorem tabEnd_go {L I T : Addr} {oI : Obj} {m₁ m' : Str → Option Value} {base tl all : List (Addr × Obj)} {refs : List Value} {k : Nat} {tab : List (List Int)} {s₁ : Shared} {h' : Heap} {tk : Nat} (F : Fr h₀ L h' m') (N : News h₀ L h' all) (hs : ∀ p ∈ (I, oI) :: (T, PySem.W.listOf refs.toArray k) :: tl, p ∈ all) (hT : @Ne Nat I T) (hI : ∀ p ∈ tl, p.1 ≠ I) (hTl : ∀ p ∈ tl, p.1 ≠ T) (hR : RowsIn tl refs tab) (hb : ∀ p ∈ base, p ∈ tl)
    (ho : ∀ z, z ≠ Str.ofString "least" → z ≠ Str.ofString "k" → z ≠ Str.ofString "m" → z ≠ Str.ofString "j" → z ≠ Str.ofString "i" → m' z = m₁ z) : TurnGo h₀ L [(I, oI)] (TabEnd m₁ T base tab) s₁ { s₁ with heap := h', toks := tk } :=
  TurnGo.intro ((T, PySem.W.listOf refs.toArray k) :: tl) F N hs (off1 (List.forall_mem_cons.mpr ⟨Ne.symm hT, hI⟩)) ⟨refs, tl, k, m', rfl, hR, hb, hTl, ijF_of ho⟩
theorem tabEnd_new {L I T D : Addr} {oI : Obj} {m₁ m' : Str → Option Value} {base tl : List (Addr × Obj)} {c d : Addr × Obj} {refs vs : List Value} {k k' : Nat} {tab : List (List Int)} {row : List Int} {s₁ : Shared} {h' : Heap} {tk : Nat} (F : Fr h₀ L h' m') (N : News h₀ L h' ((D, PySem.W.listOf vs.toArray k') :: (I, oI) :: (T, PySem.W.listOf (refs ++ [Value.ref D]).toArray k) :: c :: d :: tl)) (hlt : @LT.lt Nat _ I D ∧ @LT.lt Nat _ T D ∧ @LT.lt Nat _ c.1 D ∧ @LT.lt Nat _ d.1 D ∧ AllLt D tl) (hT : @Ne Nat I T) (hI : ∀ p ∈ tl, p.1 ≠ I) (hTl : ∀ p ∈ tl, p.1 ≠ T) (hR : RowsIn tl refs tab) (hvs : IntsAre vs row) (hb : ∀ p ∈ base, p ∈ tl)
    (ho : ∀ z, z ≠ Str.ofString "least" → z ≠ Str.ofString "k" → z ≠ Str.ofString "m" → z ≠ Str.ofString "j" → z ≠ Str.ofString "i" → m' z = m₁ z) : TurnGo h₀ L [(I, oI)] (TabEnd m₁ T base (tab ++ [row])) s₁ { s₁ with heap := h', toks := tk } :=
  tabEnd_go (tl := (D, PySem.W.listOf vs.toArray k') :: tl) F N (fun p hp => by
    rcases List.mem_cons.mp hp with rfl | hp
    · exact .tail _ (.head _)
    rcases List.mem_cons.mp hp with rfl | hp
    · exact .tail _ (.tail _ (.head _))
    rcases List.mem_cons.mp hp with rfl | hp
    · exact .head _
    · exact .tail _ (.tail _ (.tail _ (.tail _ (.tail _ hp))))) hT (List.forall_mem_cons.mpr ⟨Nat.ne_of_gt hlt.1, hI⟩) (List.forall_mem_cons.mpr ⟨Nat.ne_of_gt hlt.2.1, hTl⟩)
    (hR.push (fun p hp => List.mem_cons_of_mem _ hp) (List.mem_cons_self) hvs) (fun p hp => List.mem_cons_of_mem _ (hb p hp)) ho
end
end Mine

end
section
set_option maxRecDepth 100000
set_option maxHeartbeats 2000000
namespace Mine
section
variable {prog : Program} {w : World} {A : Around} {E : Value → Shared → Prop} {s : Shared} {h₀ : Heap} {L D : Addr} {m : Str → Option Value} {news news' : List (Addr × Obj)} {vs : List Value} {r : List Int} {n : Nat}
/-- a number put at the end of the row -/
theorem rowPush {i : Int} {t : Tok} {Q : Value → Shared → Prop} (F : Fr h₀ L s.heap m) (N : News h₀ L s.heap news) (_hm : (D, PySem.W.listOf vs.toArray n) ∈ news) (hi : IntsAre vs r) (hl : vs.length ≤ 10000)
    (U : Upd D (PySem.W.listOf vs.toArray n) (PySem.W.listOf (vs ++ [Value.int i t]).toArray (n + 1)) news news')
    (h : ∀ h', IntsAre (vs ++ [Value.int i t]) (r ++ [i]) → Fr h₀ L h' m → News h₀ L h' news' → Q .none { s with heap := h' }) : wpAny (model prog w) A (call (.builtin "list.append") [.ref D, .int i t]) Q E s := by
  have e : (vs ++ [Value.int i t]).toArray = vs.toArray.push (.int i t) := by simp
  rw [e] at U
  exact append_K F N U (fun h' F' N' => h h' (intsAre_of (by simp [hi.length]) (fun k z hz => by
    rcases Nat.lt_or_ge k vs.length with h1 | h1
    · rw [List.getElem?_append_left h1] at hz
      have h2 : k < r.length := by rw [← hi.length]; exact h1
      obtain ⟨t', ht⟩ := hi.get k r[k] (List.getElem?_eq_getElem h2)
      rw [ht] at hz
      cases hz
      exact ⟨_, t', by rw [List.getElem?_append_left h2]; exact List.getElem?_eq_getElem h2, rfl⟩
    · rw [List.getElem?_append_right h1] at hz
      have h2 : r.length ≤ k := by rw [← hi.length]; exact h1
      have h3 : k - vs.length = 0 := by
        have := (List.getElem?_eq_some_iff.mp hz).1
        simpa using this
      rw [h3] at hz
      cases hz
      exact ⟨i, t, by rw [List.getElem?_append_right h2, ← hi.length, h3]; rfl, rfl⟩)) F' N') (by rw [List.size_toArray, sizeLine_eq]; omega)
theorem refPush {rf : Value} {Q : Value → Shared → Prop} (F : Fr h₀ L s.heap m) (N : News h₀ L s.heap news) (_hm : (D, PySem.W.listOf vs.toArray n) ∈ news) (hl : vs.length ≤ 10000)
    (U : Upd D (PySem.W.listOf vs.toArray n) (PySem.W.listOf (vs ++ [rf]).toArray (n + 1)) news news')
    (h : ∀ h', Fr h₀ L h' m → News h₀ L h' news' → Q .none { s with heap := h' }) : wpAny (model prog w) A (call (.builtin "list.append") [.ref D, rf]) Q E s := by
  have e : (vs ++ [rf]).toArray = vs.toArray.push rf := by simp
  rw [e] at U
  exact append_K F N U (fun h' F' N' => h h' F' N') (by rw [List.size_toArray, sizeLine_eq]; omega)
end
theorem tabOf_row (one two : List Int) : ∀ n k, k < n → ((tabOf one two n).getD k []).length = two.length + 1
  | 0, k, h => absurd h (Nat.not_lt_zero _)
  | n + 1, k, h => by
    unfold tabOf
    rw [List.getD_eq_getElem?_getD]
    rcases Nat.lt_or_ge k n with h1 | h1
    · rw [List.getElem?_append_left (by rw [tabOf_len]; exact h1), ← List.getD_eq_getElem?_getD]
      exact tabOf_row one two n k h1
    · have hk : k = n := by omega
      subst hk
      rw [List.getElem?_append_right (by rw [tabOf_len]; exact Nat.le_refl _), tabOf_len, Nat.sub_self]
      simp [rowF]
section
variable {prog : Program} {w : World} {A : Around} {E : Value → Shared → Prop} {s : Shared} {h₀ : Heap} {L D : Addr} {m : Str → Option Value} {news tl : List (Addr × Obj)} {refs : List Value} {n : Nat}
theorem refAt {value slice : PySem.Expr} {k i : Nat} {u : Tok} {one two : List Int} {more : List Value} {Q : Value → Shared → Prop} (N : News h₀ L s.heap news) (hm : (D, PySem.W.listOf (refs ++ more).toArray n) ∈ news) (hR : RowsIn tl refs (tabOf one two i)) (hk : k < i) (hz : i ≤ 1000)
    (h : ∀ (a : Addr) (vs : List Value) (n : Nat), (a, PySem.W.listOf vs.toArray n) ∈ tl → IntsAre vs ((tabOf one two i).getD k []) → ((tabOf one two i).getD k []).length = two.length + 1 → Q (.ref a) s)
    (hs : subscripted slice false (.ref D) (.int (k : Int) u) = operate [.ref D, .int (k : Int) u] (getItem (.ref D) (.int (k : Int) u)) := by with_unfolding_all rfl) :
    wpAny (model prog w) A (subscriptTail value slice (.ref D) (.int (k : Int) u)) Q E s := by
  obtain ⟨a, vs, n', e1, e2, e3⟩ := hR.2 k (by rw [tabOf_len]; exact hk)
  have h1 : k < refs.length := by rw [hR.1, tabOf_len]; exact hk
  exact itemN N hm (by omega) (by omega) (v := .ref a) (by rw [Int.toNat_natCast, List.getElem?_toArray, List.getElem?_append_left h1]; exact e1) (h a vs n' e2 e3 (tabOf_row _ _ _ _ hk)) hs
theorem refLast {value slice : PySem.Expr} {i : Nat} {u : Tok} {rf : Value} {Q : Value → Shared → Prop} (N : News h₀ L s.heap news) (hm : (D, PySem.W.listOf (refs ++ [rf]).toArray n) ∈ news) (hl : refs.length = i) (hz : i ≤ 1000)
    (h : Q rf s) (hs : subscripted slice false (.ref D) (.int (i : Int) u) = operate [.ref D, .int (i : Int) u] (getItem (.ref D) (.int (i : Int) u)) := by with_unfolding_all rfl) :
    wpAny (model prog w) A (subscriptTail value slice (.ref D) (.int (i : Int) u)) Q E s := by
  exact itemN N hm (by omega) (by omega) (v := rf) (by rw [Int.toNat_natCast, List.getElem?_toArray, List.getElem?_append_right (by omega), hl, Nat.sub_self]; rfl) h hs
theorem refNeg {value slice : PySem.Expr} {i : Nat} {u : Tok} {one two : List Int} {Q : Value → Shared → Prop} (N : News h₀ L s.heap news) (hm : (D, PySem.W.listOf refs.toArray n) ∈ news) (hR : RowsIn tl refs (tabOf one two (i + 1))) (hz : i ≤ 1000)
    (h : ∀ (a : Addr) (vs : List Value) (n : Nat), (a, PySem.W.listOf vs.toArray n) ∈ tl → IntsAre vs ((tabOf one two (i + 1)).getD i []) → ((tabOf one two (i + 1)).getD i []).length = two.length + 1 → Q (.ref a) s)
    (hs : subscripted slice false (.ref D) (.int (-1) u) = operate [.ref D, .int (-1) u] (getItem (.ref D) (.int (-1) u)) := by with_unfolding_all rfl) :
    wpAny (model prog w) A (subscriptTail value slice (.ref D) (.int (-1) u)) Q E s := by
  obtain ⟨a, vs, n', e1, e2, e3⟩ := hR.2 i (by rw [tabOf_len]; omega)
  have h1 : refs.length = i + 1 := by rw [hR.1, tabOf_len]
  have h2 : ((-1 : Int) + (refs.toArray.size : Int)).toNat = i := by simp; omega
  exact itemNeg N hm (by omega) (by simp; omega) (by omega) (v := .ref a) (by rw [h2, List.getElem?_toArray]; exact e1) (h a vs n' e2 e3 (tabOf_row _ _ _ _ (by omega))) hs
theorem rowNeg {value slice : PySem.Expr} {vs : List Value} {r : List Int} {i : Nat} {u : Tok} {Q : Value → Shared → Prop} (N : News h₀ L s.heap news) (hm : (D, PySem.W.listOf vs.toArray n) ∈ news) (hi : IntsAre vs r) (hl : r.length = i + 1) (hz : i ≤ 1000)
    (h : ∀ t, Q (.int (r.getD i 0) t) s)
    (hs : subscripted slice false (.ref D) (.int (-1) u) = operate [.ref D, .int (-1) u] (getItem (.ref D) (.int (-1) u)) := by with_unfolding_all rfl) :
    wpAny (model prog w) A (subscriptTail value slice (.ref D) (.int (-1) u)) Q E s := by
  have hk : i < r.length := by omega
  obtain ⟨t, ht⟩ := hi.get i r[i] (List.getElem?_eq_getElem hk)
  have e : r.getD i 0 = r[i] := by simp [List.getD_eq_getElem?_getD, hk]
  have h1 : vs.length = i + 1 := by rw [hi.length, hl]
  have h2 : ((-1 : Int) + (vs.toArray.size : Int)).toNat = i := by simp; omega
  exact itemNeg N hm (by omega) (by simp; omega) (by omega) (v := .int r[i] t) (by rw [h2, List.getElem?_toArray]; exact ht) (e ▸ h t) hs
end
theorem allLt_ne' {d : Addr} : ∀ {l : List (Addr × Obj)}, AllLt d l → ∀ p ∈ l, p.1 ≠ d
  | [], _, _, h => nomatch h
  | _ :: _, x, p, h => by
    rcases List.mem_cons.mp h with rfl | h
    · exact Nat.ne_of_lt x.1
    · exact allLt_ne' x.2 p h
theorem allLt_ne3 {d a b : Addr} {o1 o2 : Obj} {l : List (Addr × Obj)} (h : @LT.lt Nat _ a d ∧ @LT.lt Nat _ b d ∧ AllLt d l) : ∀ p ∈ (a, o1) :: (b, o2) :: l, p.1 ≠ d :=
  List.forall_mem_cons.mpr ⟨Nat.ne_of_lt h.1, List.forall_mem_cons.mpr ⟨Nat.ne_of_lt h.2.1, allLt_ne' h.2.2⟩⟩
theorem news4 {h₀ h : Heap} {L : Addr} {a b c d : Addr × Obj} {tl : List (Addr × Obj)} (N : News h₀ L h (a :: b :: tl)) (h1 : c ∈ tl) (h2 : d ∈ tl) : News h₀ L h (a :: b :: c :: d :: tl) := fun p hp => by
  rcases List.mem_cons.mp hp with rfl | hp
  · exact N _ (.head _)
  rcases List.mem_cons.mp hp with rfl | hp
  · exact N _ (.tail _ (.head _))
  rcases List.mem_cons.mp hp with rfl | hp
  · exact N _ (.tail _ (.tail _ h1))
  rcases List.mem_cons.mp hp with rfl | hp
  · exact N _ (.tail _ (.tail _ h2))
  · exact N _ (.tail _ (.tail _ hp))
local macro_rules | `(tactic| k_all) => `(tactic| assumption)
theorem price_claim (w : World) (mean : ExcName → Option Value) (mg mb : Str → Option Value) (news : List (Addr × Obj)) (l1 l2 : Addr) (vs1 vs2 : List Value) (n1 n2 : Nat) (one two : List Int) (i1 : IntsAre vs1 one) (i2 : IntsAre vs2 two) (hl1 : one.length ≤ 5) (hl2 : two.length ≤ 5)
    (ho1 : ∀ p ∈ news, p.1 ≠ l1) (ho2 : ∀ p ∈ news, p.1 ≠ l2) (h12 : @Ne Nat l1 l2) :
    CtN 2 w mean mg mb 63 ((l1, PySem.W.listOf vs1.toArray n1) :: (l2, PySem.W.listOf vs2.toArray n2) :: news) [.ref l1, .ref l2] (fun t => .int (priceFn one two) t) := by
  w_top off
  k_with_none
  k_with "execs cons" => ((refine toks_gen ?_); intro ztkz; (with_reducible refine wpAny_execs_cons ?_); (try dsimp only))
  k_with "exec For Name Call cons nil" => (k_here; (rename Fr _ _ _ _ => zlFz); k_dflt (refine For_my zlFz (by exact rfl) (by exact rfl) ?_))
  k_with "TurnEnd" => (dsimp only [TurnEnd])
  k_with "subscriptTail Name Name ref int" => (k_here; k_dflt (refine refLast (by first | with_reducible k_asm | k_asm) (by first | with_reducible k_mem | k_mem) (by first | with_reducible assumption | assumption) (by omega) ?_ (by with_unfolding_all rfl)))
  k_with "subscriptTail Name Name ref int" => (k_here; k_dflt (refine refAt (by first | with_reducible k_asm | k_asm) (by first | with_reducible k_mem | k_mem) (by first | with_reducible assumption | assumption) (by omega) (by omega) ?_ (by with_unfolding_all rfl)); intro za9z zvs9z zn9z zhm9z zhi9z zhl9z)
  k_with "subscriptTail Name Name ref int" => (k_here; k_dflt (refine rowGet (by first | with_reducible k_asm | k_asm) (by first | with_reducible k_mem | k_mem) (by first | with_reducible assumption | assumption) (by omega) (by omega) ?_ (by with_unfolding_all rfl)); intro ztz)
  k_with "subscriptTail Name Name ref int" => (k_here; k_dflt (refine rowGet (by first | with_reducible k_asm | k_asm) (by first | (refine List.Mem.tail _ (?_); assumption) | (refine List.Mem.tail _ (List.Mem.tail _ (?_)); assumption) | (refine List.Mem.tail _ (List.Mem.tail _ (List.Mem.tail _ (?_))); assumption) | (refine List.Mem.tail _ (List.Mem.tail _ (List.Mem.tail _ (List.Mem.tail _ (?_)))); assumption) | (refine List.Mem.tail _ (List.Mem.tail _ (List.Mem.tail _ (List.Mem.tail _ (List.Mem.tail _ (?_))))); assumption) | (refine List.Mem.tail _ (List.Mem.tail _ (List.Mem.tail _ (List.Mem.tail _ (List.Mem.tail _ (List.Mem.tail _ (?_)))))); assumption) | (refine List.Mem.tail _ (List.Mem.tail _ (List.Mem.tail _ (List.Mem.tail _ (List.Mem.tail _ (List.Mem.tail _ (List.Mem.tail _ (?_))))))); assumption) | (refine List.Mem.tail _ (List.Mem.tail _ (List.Mem.tail _ (List.Mem.tail _ (List.Mem.tail _ (List.Mem.tail _ (List.Mem.tail _ (List.Mem.tail _ (?_)))))))); assumption)) (by first | with_reducible assumption | assumption) (by omega) (by omega) ?_ (by with_unfolding_all rfl)); intro ztz)
  k_with "subscriptTail Name UnaryOp ref int" => (k_here; k_dflt (refine refNeg (by first | with_reducible k_asm | k_asm) (by first | with_reducible k_mem | k_mem) (by first | with_reducible assumption | assumption) (by omega) ?_ (by with_unfolding_all rfl)); intro za9z zvs9z zn9z zhm9z zhi9z zhl9z)
  k_with "subscriptTail Name UnaryOp ref int" => (k_here; k_dflt (refine rowNeg (by first | with_reducible k_asm | k_asm) (by first | (refine List.Mem.tail _ (?_); assumption) | (refine List.Mem.tail _ (List.Mem.tail _ (?_)); assumption) | (refine List.Mem.tail _ (List.Mem.tail _ (List.Mem.tail _ (?_))); assumption) | (refine List.Mem.tail _ (List.Mem.tail _ (List.Mem.tail _ (List.Mem.tail _ (?_)))); assumption) | (refine List.Mem.tail _ (List.Mem.tail _ (List.Mem.tail _ (List.Mem.tail _ (List.Mem.tail _ (?_))))); assumption) | (refine List.Mem.tail _ (List.Mem.tail _ (List.Mem.tail _ (List.Mem.tail _ (List.Mem.tail _ (List.Mem.tail _ (?_)))))); assumption) | (refine List.Mem.tail _ (List.Mem.tail _ (List.Mem.tail _ (List.Mem.tail _ (List.Mem.tail _ (List.Mem.tail _ (List.Mem.tail _ (?_))))))); assumption) | (refine List.Mem.tail _ (List.Mem.tail _ (List.Mem.tail _ (List.Mem.tail _ (List.Mem.tail _ (List.Mem.tail _ (List.Mem.tail _ (List.Mem.tail _ (?_)))))))); assumption)) (by first | with_reducible assumption | assumption) (by first | with_reducible assumption | assumption) (by omega) ?_ (by with_unfolding_all rfl)); intro ztz)
  k_with "call builtin:list.append" => (k_here; k_dflt (refine rowPush (by first | with_reducible k_asm | k_asm) (by first | with_reducible k_asm | k_asm) (by first | with_reducible k_mem | k_mem) (by first | with_reducible assumption | assumption) (by omega) (by k_upd) ?_); intro zhz ziz zFz zNz)
  dsimp only [CtN, CbRet]
  k_fill
  intro dp un gd cn cs a' ccd cl outer A₀ base h₀ L m s Q E B F X N T hk hdp hun hret
  refine wpAny_call ?_
  k_dflt cell_enter
  k_steps
  rename IsRange _ _ _ _ _ _ _ _ => R9
  have e1 : vs1.length = one.length := i1.length
  have e2 : vs2.length = two.length := i2.length
  refine' iterTab (n := one.length + 1) (one := one) (two := two) (base := (l1, PySem.W.listOf vs1.toArray n1) :: (l2, PySem.W.listOf vs2.toArray n2) :: news) ?kh R9 ?kn ?kF ?kN ?kT ?_ ?_
  case kh => exact rfl
  case kn => omega
  case kF => k_asm
  case kN => k_asm
  case kT => exact allLt_ne3 (by assumption)
  · intro i tv refs tl k u I oI h tk hi hR hb hT hrl F₁ N₁ hIT hI
    have hm1 := hb _ (List.mem_cons_self)
    have hm2 := hb _ (List.mem_cons_of_mem _ (List.mem_cons_self))
    have N₂ := news4 N₁ hm1 hm2
    have n1T : @Ne Nat l1 _ := hT _ hm1
    have n2T : @Ne Nat l2 _ := hT _ hm2
    have n1I : @Ne Nat l1 I := hI _ hm1
    have n2I : @Ne Nat l2 I := hI _ hm2
    clear R9 N₁
    refine absQ fun Qt1 hQt1 => ?_
    k_steps
    rename IsRange _ _ _ _ _ _ _ _ => R8
    refine' iterRow (n := two.length + 1) (f := cellF one two (tabOf one two i) i) ?kh R8 ?kn ?kF ?kN ?_ ?_
    case kh => exact rfl
    case kn => omega
    case kF => k_asm
    case kN => k_asm
    · intro j tv vs k u I' oI' h tk hj hvs hvl F₂ N₂ hID hI'
      clear R8
      have n1 := hI' _ (.tail _ (.tail _ (.head _)))
      refine absQ fun Qt2 hQt2 => ?_
      k_steps
      rename IsRange _ _ _ _ _ _ _ _ => R7
      refine' iterLeast (n := i) (f := fun l k => (List.range j).foldl (lsM one two (tabOf one two i) i j k) l) ?kh R7 ?kn ?kF ?kN ?k1 ?_ ?_
      case kh => exact rfl
      case kn => omega
      case kF => k_asm
      case kN => k_asm
      case k1 => exact rfl
      · intro k tv' l tl' u' I3 oI3 h tk hk _ F₃ N₃ hI3
        clear R7
        refine absQ fun Qt3 hQt3 => ?_
        k_steps
        rename IsRange _ _ _ _ _ _ _ _ => R6
        refine' iterLeast (n := j) (f := lsM one two (tabOf one two i) i j k) ?kh R6 ?kn ?kF ?kN ?k1 ?_ ?_
        case kh => exact rfl
        case kn => omega
        case kF => k_asm
        case kN => k_asm
        case k1 => exact rfl
        · intro m' tv' l tl' u' I4 oI4 h tk hm' _ F₄ N₄ hI4
          clear R6
          refine absQ fun Qt4 hQt4 => ?_
          k_steps
          all_goals (apply hQt4; k_steps)
          · refine' kmEnd_go (by assumption) (by assumption) (fun p hp => hp) hI4 (by rfl) (fun z z1 z2 z3 => by simp only [kmF, z1, z2, z3, if_false]) ?_
            unfold lsM
            rw [if_pos (by assumption)]
            rfl
          · refine' kmEnd_go (by assumption) (by assumption) (fun p hp => hp) hI4 (by rfl) (fun z z1 z2 z3 => by simp only [kmF, z1, z2, z3, if_false]) ?_
            unfold lsM
            rw [if_neg (by assumption)]
        · intro tl' u' h tk F₄ N₄
          k_steps
          apply hQt3
          k_steps
          refine kmEnd_go (by assumption) (by assumption) (fun p hp => hp) hI3 (by rfl) (fun z z1 z2 z3 => by simp only [kmF, z1, z2, z3, if_false]) (by rfl)
      · intro tl' u' h tk F₃ N₃
        k_steps
        apply hQt2
        k_steps
        exact rowEnd_go (by assumption) (by assumption) (fun p hp => hp) hID hI' (by assumption) (fun z z1 z2 z3 z4 => by simp only [kmF, jF, z1, z2, z3, z4, if_false])
    · intro vs k u h tk hvs F₂ N₂
      k_steps
      apply hQt1
      k_steps
      rename Fr _ _ _ _ => F9
      rename News _ _ _ _ => N9
      exact tabEnd_new F9 N9 (by assumption) hIT hI hT hR hvs hb (fun z z1 z2 z3 z4 z5 => by simp only [jF, ijF, z1, z2, z3, z4, z5, if_false])
  · intro refs tl k u h tk hR hb hrl F₁ N₁
    k_steps
    refine' cb_retI (Q := Q) hret ?_ ?_ ?_
    · rfl
    · k_asm
    · refine cb_drop (by assumption) (fun p hp => .tail _ (hb p hp))
end Mine

end
section
set_option maxRecDepth 100000
set_option maxHeartbeats 2000000
namespace Mine
noncomputable def wordOf (ns : List Int) : List Int := ((ns.take 5 ++ [0, 2, 1]).take 5).map (fun x : Int => x.fmod 4)
noncomputable def otherOf (ns : List Int) : List Int := (ns.take 3).map (fun x : Int => (x.fdiv 4).fmod 4)
theorem wordOf_len (ns : List Int) : 3 ≤ (wordOf ns).length ∧ (wordOf ns).length ≤ 5 := by
  unfold wordOf
  simp only [List.length_map, List.length_take, List.length_append, List.length_cons, List.length_nil]
  omega
theorem otherOf_len (ns : List Int) : (otherOf ns).length ≤ 3 := by
  unfold otherOf
  simp only [List.length_map, List.length_take]
  omega
theorem fmod4 (x : Int) : 0 ≤ x.fmod 4 ∧ x.fmod 4 < 4 := ⟨Int.fmod_nonneg_of_pos _ (by decide), Int.fmod_lt_of_pos _ (by decide)⟩
theorem wordOf_b (ns : List Int) : ∀ x ∈ wordOf ns, 0 ≤ x ∧ x < 4 := by
  unfold wordOf
  intro x hx
  obtain ⟨y, _, rfl⟩ := List.mem_map.mp hx
  exact fmod4 y
theorem otherOf_b (ns : List Int) : ∀ x ∈ otherOf ns, 0 ≤ x ∧ x < 4 := by
  unfold otherOf
  intro x hx
  obtain ⟨y, _, rfl⟩ := List.mem_map.mp hx
  exact fmod4 _
section
variable {prog : Program} {w : World} {A : Around} {E : Value → Shared → Prop} {s : Shared} {h₀ : Heap} {L l l2 : Addr} {m : Str → Option Value} {news : List (Addr × Obj)} {value slice : PySem.Expr} {vs us : List Value} {ns ms : List Int} {n n2 : Nat} {x y : Int} {Q : Value → Shared → Prop}
theorem ints_fit (hi : IntsAre vs ns) (h : ns.length ≤ 1000) : vs.toArray.size ≤ sizeLine := by
  rw [List.size_toArray, hi.length, sizeLine_eq]; omega
/-- a list of numbers cut -/
theorem cutL {vl vu : Value} {lo hi : Option Int} (F : Fr h₀ L s.heap m) (N : News h₀ L s.heap news) (hm : (l, PySem.W.listOf vs.toArray n) ∈ news) (pl : IsPart vl lo) (pu : IsPart vu hi) (hi' : IntsAre vs ns) (hp : IntsAre (slicePick vs.toArray lo hi none).toList ms) (hz : ns.length ≤ 1000)
    (h : ∀ D ws h', IntsAre ws ms → Fr h₀ L h' m → News h₀ L h' ((D, PySem.W.listOf (List.toArray ws) 0) :: news) → (∀ p ∈ news, p.1 < D) → Q (.ref D) { s with heap := h' })
    (hs : subscripted slice false (.ref l) (.ref s.heap.objs.size) = operate [.ref s.heap.objs.size, .ref l] (getItem (.ref l) (.ref s.heap.objs.size))) (ht : ∀ r, letTemporaryGo value (.ref l) r = pure ()) :
    wpAny (model prog w) A (subscriptTail value slice (.ref l) (.ref s.heap.objs.size)) Q E { s with heap := s.heap.push { cls := .type "slice", data := .fields #[vl, vu, .none] } } :=
  kmk_slice_ints F N (N.isList hm) pl pu hi' hp rfl (fun D ws h' F' N' l1 hI _ _ => h D ws h' hI F' N' l1) hs ht (ints_fit hi' hz)
theorem revL {vk : Value} {ops : List Value} (F : Fr h₀ L s.heap m) (N : News h₀ L s.heap news) (hm : (l, PySem.W.listOf vs.toArray n) ∈ news) (pk : IsPart vk (some (-1))) (hi' : IntsAre vs ns) (hz : ns.length ≤ 1000)
    (h : ∀ D ws h', IntsAre ws ns.reverse → Fr h₀ L h' m → News h₀ L h' ((D, PySem.W.listOf (List.toArray ws) 0) :: news) → (∀ p ∈ news, p.1 < D) → Q (.ref D) { s with heap := h' })
    (hs : subscripted slice false (.ref l) (.ref s.heap.objs.size) = operate ops (getItem (.ref l) (.ref s.heap.objs.size))) (ht : ∀ r, letTemporaryGo value (.ref l) r = pure ()) :
    wpAny (model prog w) A (subscriptTail value slice (.ref l) (.ref s.heap.objs.size)) Q E { s with heap := s.heap.push { cls := .type "slice", data := .fields #[.none, .none, vk] } } :=
  krv_ints F N (N.isList hm) pk hi' (fun D ws h' F' N' l1 hI _ => h D ws h' hI F' N' l1) hs ht (ints_fit hi' hz)
theorem addL (F : Fr h₀ L s.heap m) (N : News h₀ L s.heap news) (hm : (l, PySem.W.listOf vs.toArray n) ∈ news) (hm2 : (l2, PySem.W.listOf us.toArray n2) ∈ news) (hi : IntsAre vs ns) (hj : IntsAre us ms) (hz : ns.length ≤ 1000) (hz2 : ms.length ≤ 1000)
    (h : ∀ D ws h', IntsAre ws (ns ++ ms) → Fr h₀ L h' m → News h₀ L h' ((D, PySem.W.listOf (List.toArray ws) 0) :: news) → (∀ p ∈ news, p.1 < D) → Q (.ref D) { s with heap := h' }) :
    wpAny (model prog w) A (binaryOp .Add (.ref l) (.ref l2)) Q E s :=
  kmk_add_ints F N (N.isList hm) (N.isList hm2) hi hj (fun D us h' F' N' l1 hI => h D us h' hI F' N' l1) (by rw [sizeLine_eq]; omega)
/-- a list comprehension from numbers to numbers over a ledger's list -/
theorem mapInts {env : Env} {elt : PySem.Expr} {xn : Str} {scope : Scope} {cl : List (Str × Addr)} {k : Nat} {s₁ : Shared} (f : Int → Int) (hh : A.handled = none) (F : Fr h₀ L s₁.heap m) (N : News h₀ L s₁.heap news) (hm : (l, PySem.W.listOf vs.toArray k) ∈ news) (hi : IntsAre vs ns) (hz : ns.length ≤ 1000)
    (elem : ∀ (x : Int) (t : Tok) I oI C oC D m₂ h tk ys (E' : Value → Shared → Prop), x ∈ ns → LCg.NsObj oC m₂ → m₂ xn = some (.int x t) → Fr h₀ L h m → News h₀ L h ((I, oI) :: (C, oC) :: (D, LCg.lst ys) :: news) →
      wpAny (model prog w) A (eval elt (compEnvC scope cl C env)) (ElEnd h₀ L m ((I, oI) :: (C, oC) :: (D, LCg.lst ys) :: news) (fun y => ∃ t, y = .int (f x) t) { s₁ with heap := h, toks := tk }) E' { s₁ with heap := h, toks := tk })
    (fin : ∀ D ws k h tk, IntsAre ws (ns.map f) → Fr h₀ L h m → News h₀ L h ((D, PySem.W.listOf (List.toArray ws) k) :: news) → LCg.Off1 D news → Q (.ref D) { s₁ with heap := h, toks := tk }) :
    MySrc prog w A h₀ L m env elt xn scope cl (fun s₂ => LCg.FinE h₀ L m s₂ Q) (.ref l) s₁ := by
  refine MySrc.ledger hh F N hm (ints_fit hi hz) fun g => ?_
  refine compRest_map (fun i y => ∃ x t, ns[i]? = some x ∧ y = .int (f x) t) (Or.inr ⟨_, hm, rfl, _, rfl⟩) ?_ ?_
  · intro i v I oI C oC D m₂ h tk ys E' hin hv hC hx F₁ N₁
    obtain ⟨x, t, rfl, hk'⟩ := ints_at hi hv
    refine wpAny_mono (elem x t I oI C oC D m₂ h tk ys E' (List.mem_of_getElem? hk') hC hx F₁ N₁) (fun y s₂ hy => ?_) fun _ _ e => e
    obtain ⟨h', tk', rfl, F', N', t', rfl⟩ := hy
    exact ⟨h', tk', rfl, F', N', x, t', hk', rfl⟩
  · intro ys hlen hR
    unfold LCg.FinE
    intro D h tk F₂ N₂ o1
    refine fin D ys _ h tk (intsAre_of ?_ ?_) F₂ N₂ ?_
    · rw [hlen, List.size_toArray, hi.length, List.length_map]
    · intro i z hz
      obtain ⟨x, t, e1, e2⟩ := hR i z hz
      exact ⟨f x, t, by rw [List.getElem?_map, e1]; rfl, e2⟩
    · exact o1
theorem lenL (N : News h₀ L s.heap news) (hm : (l, PySem.W.listOf vs.toArray n) ∈ news) (hi : IntsAre vs ns) (hz : ns.length ≤ 1000) (h : ∀ t, Q (.int (ns.length : Int) t) { s with toks := s.toks + 1 + 1 }) :
    wpAny (model prog w) A (call (.builtin "len") [.ref l]) Q E s := by
  have e : ((vs.toArray.size : Nat) : Int) = (ns.length : Int) := by rw [List.size_toArray, hi.length]
  refine len_list (N.isList hm) (by rw [e]; omega) ?_
  rw [e]
  exact h _
end
theorem lawText_len (ns : List Int) : (lawText ns).length = ns.length := by
  unfold lawText Str.length
  simp
section
variable {w : World} {mean : ExcName → Option Value} {mg mb : Str → Option Value} {news : List (Addr × Obj)} {dp un : Nat} {gd : Option (List Code)} {cn : Str} {cs : Scope} {a : Addr} {ccd : Value} {cl : List (Str × Addr)} {outer : List Env} {A₀ : Around} {base h₀ : Heap} {L : Addr} {m : Str → Option Value} {s : Shared} {Q E : Value → Shared → Prop}
theorem textCall {l : Addr} {vs : List Value} {n : Nat} {ns : List Int} (hm : (l, PySem.W.listOf vs.toArray n) ∈ news) (hi : IntsAre vs ns) (hb : ∀ x ∈ ns, 0 ≤ x ∧ x < 4) (hl : ns.length ≤ 20)
    (B : Below A₀ base outer h₀) (F : Fr h₀ L s.heap m) (X : (hd.heap_39 w.params).In h₀) (N : News h₀ L s.heap news) (T : Top hd.view_39 (looseW hd.view_39 []) mean mg mb h₀) (hk : cs.kind = .function) (hdp : dp + 10 < recursionLimit) (hun : un + 100 < cLine)
    (ret : ∀ (x : Str) (t : Tok) (h' : Heap) (tk' : Nat), x = lawText ns → x.length ≤ 20 → Fr h₀ L h' m → News h₀ L h' news → Q (.str x t) { s with heap := h', toks := tk' }) :
    wpAny (model Challenge.rw_pm0037_01.row.prog w) (ktrTop dp un gd cn cs L a ccd cl outer) (call (.ref 68) [.ref l]) Q E s :=
  CtV.use (text_claim w mean mg mb news l vs n ns hi hb hl) B F X (fun p hp => by
    rcases List.mem_cons.mp hp with rfl | hp
    · exact N _ hm
    · exact N p hp) T hk hdp hun (fun t h' tk' F' N' => ret _ t h' tk' rfl (by rw [lawText_len]; exact hl) F' (fun p hp => N' p (.tail _ hp)))
end
theorem b_take {ns : List Int} (h : ∀ x ∈ ns, 0 ≤ x ∧ x < 4) (n : Nat) : ∀ x ∈ ns.take n, 0 ≤ x ∧ x < 4 := fun x hx => h x (List.mem_of_mem_take hx)
theorem b_drop {ns : List Int} (h : ∀ x ∈ ns, 0 ≤ x ∧ x < 4) (n : Nat) : ∀ x ∈ ns.drop n, 0 ≤ x ∧ x < 4 := fun x hx => h x (List.mem_of_mem_drop hx)
theorem b_rev {ns : List Int} (h : ∀ x ∈ ns, 0 ≤ x ∧ x < 4) : ∀ x ∈ ns.reverse, 0 ≤ x ∧ x < 4 := fun x hx => h x (List.mem_reverse.mp hx)
theorem b_app {ns ms : List Int} (h : ∀ x ∈ ns, 0 ≤ x ∧ x < 4) (h2 : ∀ x ∈ ms, 0 ≤ x ∧ x < 4) : ∀ x ∈ ns ++ ms, 0 ≤ x ∧ x < 4 := fun x hx => by
  rcases List.mem_append.mp hx with hx | hx
  · exact h x hx
  · exact h2 x hx
section
variable {prog : Program} {w : World} {A : Around} {E : Value → Shared → Prop} {s : Shared} {x y : Str} {t u : Tok}
theorem addS {Q : Value → Shared → Prop} (hx : x.length ≤ 1000) (hy : y.length ≤ 1000) (h : ∀ t' tk, (x ++ y).length = x.length + y.length → Q (.str (x ++ y) t') { s with toks := tk }) : wpAny (model prog w) A (binaryOp .Add (.str x t) (.str y u)) Q E s :=
  add_str (fun t' tk => h t' tk (by show (x.cps ++ y.cps).size = _; simp [Str.length])) (by rw [sizeLine_eq]; omega)
theorem addS2 {p q : Nat} {Q : Value → Shared → Prop} (hx : x.length ≤ p) (hy : y.length ≤ q) (hz : p + q ≤ 1000) (h : ∀ t' tk, (x ++ y).length ≤ p + q → Q (.str (x ++ y) t') { s with toks := tk }) : wpAny (model prog w) A (binaryOp .Add (.str x t) (.str y u)) Q E s :=
  addS (by omega) (by omega) (fun t' tk e => h t' tk (by rw [e]; omega))
end
end Mine

end
section
set_option maxRecDepth 100000
set_option maxHeartbeats 2000000
namespace Mine
/-- the rows after i turns -/
noncomputable def rowsAt (W O : List Int) : Nat → List (List Int)
  | 0 => [W, W.drop 1 ++ W.take 1, O ++ W.take 1 ++ O.reverse, W ++ W.reverse]
  | i + 1 => rowsAt W O i ++ [W.take i ++ (W.take i).reverse, W.take (i + 1) ++ (W.take i).reverse]
theorem rowsAt_len (W O : List Int) : ∀ i, (rowsAt W O i).length = 4 + 2 * i
  | 0 => rfl
  | i + 1 => by simp only [rowsAt, List.length_append, rowsAt_len W O i, List.length_cons, List.length_nil]; omega
/-- the frame between two turns of the loop over i -/
noncomputable def iF (m₀ : Str → Option Value) (u : Str → Option Value) : Str → Option Value := fun z =>
  if z = Str.ofString "i" then u (Str.ofString "i") else if z = Str.ofString "sign" then u (Str.ofString "sign") else if z = Str.ofString "texts" then u (Str.ofString "texts") else if z = Str.ofString "told" then u (Str.ofString "told") else m₀ z
theorem iF_of {m₀ m' : Str → Option Value} (ho : ∀ z, z ≠ Str.ofString "i" → z ≠ Str.ofString "sign" → z ≠ Str.ofString "texts" → z ≠ Str.ofString "told" → m' z = m₀ z) : m' = iF m₀ m' := by
  funext z
  unfold iF
  by_cases h1 : z = Str.ofString "i"
  · rw [if_pos h1, h1]
  rw [if_neg h1]
  by_cases h2 : z = Str.ofString "sign"
  · rw [if_pos h2, h2]
  rw [if_neg h2]
  by_cases h3 : z = Str.ofString "texts"
  · rw [if_pos h3, h3]
  rw [if_neg h3]
  by_cases h4 : z = Str.ofString "told"
  · rw [if_pos h4, h4]
  rw [if_neg h4]
  exact ho z h1 h2 h3 h4
noncomputable def St6 (R b D : Addr) : Prop := (@LT.lt Nat _ (b + 1 + 1 + 1 + 1 + 1 + 1) R) ∧ @Ne Nat D R ∧ @Ne Nat D (b + 1) ∧ @Ne Nat D (b + 1 + 1) ∧ @Ne Nat D (b + 1 + 1 + 1) ∧ @Ne Nat D (b + 1 + 1 + 1 + 1) ∧ @Ne Nat D (b + 1 + 1 + 1 + 1 + 1) ∧ @Ne Nat D (b + 1 + 1 + 1 + 1 + 1 + 1)
/-- an address that the body's stores never meet -/
noncomputable def Off6 (R b : Addr) (p : Addr × Obj) : Prop := @Ne Nat p.1 R ∧ @Ne Nat p.1 (b + 1 + 1) ∧ @Ne Nat p.1 (b + 1 + 1 + 1) ∧ @Ne Nat p.1 (b + 1 + 1 + 1 + 1) ∧ @Ne Nat p.1 (b + 1 + 1 + 1 + 1 + 1) ∧ @Ne Nat p.1 (b + 1 + 1 + 1 + 1 + 1 + 1)
section
variable {prog : Program} {w : World} {A : Around} {E : Value → Shared → Prop} {s : Shared} {env : Env} {h₀ : Heap} {body : List Stmt} {Q : Flow → Shared → Prop}
noncomputable def LawEnd (m₁ : Str → Option Value) (R b D : Addr) (c6 c5 cw oD : Obj) (tab : List (List Int)) (m' : Str → Option Value) (nw : List (Addr × Obj)) : Prop :=
  ∃ (refs : List Value) (tl : List (Addr × Obj)) (k : Nat) (u : Str → Option Value) (od ol of : Obj) (xd xl xf : Option Value), nw = (R, PySem.W.listOf refs.toArray k) :: (b + 1 + 1 + 1 + 1 + 1 + 1, c6) :: (b + 1 + 1 + 1 + 1 + 1, c5) :: (b + 1 + 1 + 1 + 1, od) :: (b + 1 + 1 + 1, ol) :: (b + 1 + 1, of) :: (b + 1, cw) :: (D, oD) :: tl ∧
    od.data = .cell xd ∧ ol.data = .cell xl ∧ of.data = .cell xf ∧ RowsIn ((D, oD) :: tl) refs tab ∧ (∀ p ∈ tl, Off6 R b p) ∧ m' = iF m₁ u
theorem iterI {R b D rg : Addr} {c6 c5 cw oD od0 ol0 of0 : Obj} {xd0 xl0 xf0 : Option Value} {refs0 : List Value} {k0 : Nat} {tl0 : List (Addr × Obj)} {t u v : Tok} {n : Nat} {m₁ : Str → Option Value} {W O : List Int}
    (hh : A.handled = none) (hr : IsRange s.heap rg 0 (n : Int) 1 t u v) (hn : n ≤ 20) (F : Fr h₀ env.locals s.heap m₁)
    (N : News h₀ env.locals s.heap ((R, PySem.W.listOf refs0.toArray k0) :: (b + 1 + 1 + 1 + 1 + 1 + 1, c6) :: (b + 1 + 1 + 1 + 1 + 1, c5) :: (b + 1 + 1 + 1 + 1, od0) :: (b + 1 + 1 + 1, ol0) :: (b + 1 + 1, of0) :: (b + 1, cw) :: (D, oD) :: tl0))
    (hd0 : od0.data = .cell xd0) (hl0 : ol0.data = .cell xl0) (hf0 : of0.data = .cell xf0) (hR0 : RowsIn ((D, oD) :: tl0) refs0 (rowsAt W O 0)) (hT0 : ∀ p ∈ tl0, Off6 R b p) (hst : St6 R b D)
    (turn : St6 R b D → ∀ (i : Nat) (tv : Tok) (refs : List Value) (tl : List (Addr × Obj)) (k : Nat) (u : Str → Option Value) (od ol of : Obj) (xd xl xf : Option Value) (I : Addr) (oI : Obj) (h : Heap) (tk : Nat), i < n → od.data = .cell xd → ol.data = .cell xl → of.data = .cell xf → RowsIn ((D, oD) :: tl) refs (rowsAt W O i) → (∀ p ∈ tl, Off6 R b p) → refs.length = 4 + 2 * i →
      Fr h₀ env.locals h (fun y => if y = Str.ofString "i" then some (.int (i : Int) tv) else iF m₁ u y) →
      News h₀ env.locals h ((I, oI) :: (R, PySem.W.listOf refs.toArray k) :: (b + 1 + 1 + 1 + 1 + 1 + 1, c6) :: (b + 1 + 1 + 1 + 1 + 1, c5) :: (b + 1 + 1 + 1 + 1, od) :: (b + 1 + 1 + 1, ol) :: (b + 1 + 1, of) :: (b + 1, cw) :: (D, oD) :: tl) →
      (∀ p ∈ (R, PySem.W.listOf refs.toArray k) :: (b + 1 + 1 + 1 + 1 + 1 + 1, c6) :: (b + 1 + 1 + 1 + 1 + 1, c5) :: (b + 1 + 1 + 1 + 1, od) :: (b + 1 + 1 + 1, ol) :: (b + 1 + 1, of) :: (b + 1, cw) :: (D, oD) :: tl, p.1 ≠ I) →
      wpAny (model prog w) A (execs body env) (TurnEnd h₀ env.locals [(I, oI)] (LawEnd m₁ R b D c6 c5 cw oD (rowsAt W O (i + 1))) Q { s with heap := h, toks := tk }) E { s with heap := h, toks := tk })
    (done : St6 R b D → ∀ (refs : List Value) (tl : List (Addr × Obj)) (k : Nat) (u : Str → Option Value) (od ol of : Obj) (xd xl xf : Option Value) (h : Heap) (tk : Nat), od.data = .cell xd → ol.data = .cell xl → of.data = .cell xf → RowsIn ((D, oD) :: tl) refs (rowsAt W O n) → (∀ p ∈ tl, Off6 R b p) → Fr h₀ env.locals h (iF m₁ u) →
      News h₀ env.locals h ((R, PySem.W.listOf refs.toArray k) :: (b + 1 + 1 + 1 + 1 + 1 + 1, c6) :: (b + 1 + 1 + 1 + 1 + 1, c5) :: (b + 1 + 1 + 1 + 1, od) :: (b + 1 + 1 + 1, ol) :: (b + 1 + 1, of) :: (b + 1, cw) :: (D, oD) :: tl) → Q .next { s with heap := h, toks := tk }) :
    MyIter prog w A h₀ env (Str.ofString "i") body Q E (.ref rg) s := by
  refine iterR0 (m₀ := m₁) (fun i m' nw => LawEnd m₁ R b D c6 c5 cw oD (rowsAt W O i) m' nw) hh hr (by omega) F N ?_ ?_ ?_
  · exact ⟨refs0, tl0, k0, m₁, od0, ol0, of0, xd0, xl0, xf0, rfl, hd0, hl0, hf0, hR0, hT0, iF_of (fun _ _ _ _ _ => rfl)⟩
  · rintro i tv m' nw I oI h tk hi ⟨refs, tl, k, u, od, ol, of, xd, xl, xf, rfl, e1, e2, e3, hR, hT, rfl⟩ F₁ N₁ ho
    exact turn hst i tv refs tl k u od ol of xd xl xf I oI h tk hi e1 e2 e3 hR hT (by rw [hR.1, rowsAt_len]) F₁ N₁ ho
  · rintro m' nw h tk ⟨refs, tl, k, u, od, ol, of, xd, xl, xf, rfl, e1, e2, e3, hR, hT, rfl⟩ F₁ N₁
    exact done hst refs tl k u od ol of xd xl xf h tk e1 e2 e3 hR hT F₁ N₁
end
end Mine

end
section
set_option maxRecDepth 100000
set_option maxHeartbeats 2000000
namespace Mine
section
variable {prog : Program} {w : World} {A : Around} {E : Value → Shared → Prop} {s : Shared} {env : Env} {h₀ : Heap} {target : Expr} {body : List Stmt} {Q : Flow → Shared → Prop}
/-- the end of a turn that neither returns nor breaks -/
noncomputable def TurnNext (h₀ : Heap) (L : Addr) (fix : List (Addr × Obj)) (J : (Str → Option Value) → List (Addr × Obj) → Prop) (s₁ : Shared) (f : Flow) (s₂ : Shared) : Prop := f = .next ∧ TurnGo h₀ L fix J s₁ s₂
noncomputable def MyIterT (prog : Program) (w : World) (A : Around) (h₀ : Heap) (env : Env) (target : Expr) (body : List Stmt) (Q : Flow → Shared → Prop) (E : Value → Shared → Prop) (xv : Value) (s₁ : Shared) : Prop :=
  wpAny (model prog w) A (pyIter xv) (fun it s₂ => LoopAtT prog w A h₀ env target body Q E it s₂) E s₁
theorem For_myT {m : Str → Option Value} {pos : Pos} {iter : Expr} (_F : Fr h₀ env.locals s.heap m)
    (h : wpAny (model prog w) A (eval iter env) (fun xv s₁ => MyIterT prog w A h₀ env target body Q E xv s₁) E s)
    (hs : ∀ x, foldedSetIterable iter env x = pure x := by intro _; rfl)
    (hE : PassesOwn (model prog w) A env E := by passes_own) :
    wpAny (model prog w) A (exec (.For target iter body [] pos) env) Q E s := For_invTF _F h hs
theorem iterWT {I : Addr} {fp : List Addr} {n : Nat} {P : Nat → Value → Prop} {St : Nat → Heap → Prop} {m₀ : Str → Option Value} {news fixed : List (Addr × Obj)} (J : Nat → (Str → Option Value) → List (Addr × Obj) → Prop)
    (W : Walks prog w A I fp [I] n P St) (hIo : ∀ i h, St i h → ∃ o, h.get? I = some o) (hfp : ∀ b ∈ fp, b = I ∨ ∃ o, (b, o) ∈ fixed) (hL : env.locals ∉ fp) (hI₀ : h₀.get? I = none) (hIf : ∀ p ∈ fixed, p.1 ≠ I)
    (hgo : ∀ i (s' : Shared) v (Q' : Unit → Shared → Prop), St i s'.heap → Q' () s' → wpAny (model prog w) A (letOwnedTupleGo target (.ref I) v) Q' E s')
    (hst : St 0 s.heap) (F : Fr h₀ env.locals s.heap m₀) (N : News h₀ env.locals s.heap (fixed ++ news)) (hIn : ∀ p ∈ news, p.1 ≠ I) (hoff : ∀ p ∈ news, ∀ q ∈ fixed, p.1 ≠ q.1) (hj : J 0 m₀ news)
    (turn : ∀ i v m₁ news₁ oI s₁, i < n → P i v → J i m₁ news₁ → Fr h₀ env.locals s₁.heap m₁ → News h₀ env.locals s₁.heap ((I, oI) :: (fixed ++ news₁)) → (∀ p ∈ news₁, ∀ q ∈ (I, oI) :: fixed, p.1 ≠ q.1) →
      wpAny (model prog w) A (assign target env v) (fun _ s₂ => wpAny (model prog w) A (execs body env) (TurnNext h₀ env.locals ((I, oI) :: fixed) (J (i + 1)) s₁) E s₂) E s₁)
    (done : ∀ m₁ news₁ h tk, J n m₁ news₁ → Fr h₀ env.locals h m₁ → News h₀ env.locals h (fixed ++ news₁) → (∀ p ∈ news₁, ∀ q ∈ fixed, p.1 ≠ q.1) → Q .next { s with heap := h, toks := tk }) :
    LoopAtT prog w A h₀ env target body Q E (.ref I) s := by
  let J' : Nat → (Str → Option Value) → List (Addr × Obj) → Prop := fun i m₁ nw => ∃ nw', nw = fixed ++ nw' ∧ J i m₁ nw' ∧ (∀ p ∈ nw', ∀ q ∈ fixed, p.1 ≠ q.1)
  refine ⟨I, fp, [I], n, P, St, m₀, fixed ++ news, J', rfl, W, hL, ?_, ?_, hst, F, N, hgo, ⟨news, rfl, hj, hoff⟩, ?_, ?_⟩
  · intro b hb; rw [List.mem_singleton.mp hb]; exact hI₀
  · intro p hp hb
    have hb' := List.mem_singleton.mp hb
    rcases List.mem_append.mp hp with h1 | h1
    · exact hIf p h1 hb'
    · exact hIn p h1 hb'
  · rintro i v m₁ news₁ s₁ own hin hP ⟨nw, rfl, hJ, hoff₁⟩ hwr₁ hown hownG hall hst₁ F₁ N₁
    obtain ⟨oI, hoI⟩ := hIo _ _ hst₁
    have hmI : (I, oI) ∈ own := hall I (W.sub I (List.mem_singleton.mpr rfl)) hI₀ oI hoI
    have NI : News h₀ env.locals s₁.heap ((I, oI) :: (fixed ++ nw)) := fun p hp => by
      rcases List.mem_cons.mp hp with rfl | hp
      · exact N₁ _ (List.mem_append_left _ hmI)
      · exact N₁ p (List.mem_append_right _ hp)
    have hoff₂ : ∀ p ∈ nw, ∀ q ∈ (I, oI) :: fixed, p.1 ≠ q.1 := fun p hp q hq => by
      rcases List.mem_cons.mp hq with rfl | hq
      · intro e; exact hwr₁ p (List.mem_append_right _ hp) (List.mem_singleton.mpr e)
      · exact hoff₁ p hp q hq
    have hfix : ∀ q ∈ own, q ∈ (I, oI) :: fixed := fun q hq => by
      have hg := hownG q hq
      rcases hfp q.1 (hown q hq) with e | ⟨o, ho⟩
      · rw [e, hoI] at hg
        have : q = (I, oI) := Prod.ext e (Option.some.inj hg).symm
        rw [this]; exact List.mem_cons_self
      · have h2 := (NI (q.1, o) (List.mem_cons_of_mem _ (List.mem_append_left _ ho))).1
        rw [h2] at hg
        have : q = (q.1, o) := Prod.ext rfl (Option.some.inj hg).symm
        rw [this]; exact List.mem_cons_of_mem _ ho
    refine wpAny_mono (turn i v m₁ nw oI s₁ hin hP hJ F₁ NI hoff₂) (fun _ s₂ p => wpAny_mono p (fun f s₃ q => ?_) fun _ _ e => e) fun _ _ e => e
    obtain ⟨rfl, h', tk', m', news', e, F', N', ho, hj'⟩ := q
    refine ⟨rfl, h', tk', m', fixed ++ news', e, F', fun p hp => ?_, fun p hp hb => ?_, news', rfl, hj', fun p hp q hq => ho p hp q (List.mem_cons_of_mem _ hq)⟩
    · rcases List.mem_append.mp hp with h1 | h1
      · exact N' p (List.mem_append_left _ (hfix p h1))
      · rcases List.mem_append.mp h1 with h2 | h2
        · exact N' p (List.mem_append_left _ (List.mem_cons_of_mem _ h2))
        · exact N' p (List.mem_append_right _ h2)
    · have hb' := List.mem_singleton.mp hb
      rcases List.mem_append.mp hp with h1 | h1
      · exact hIf p h1 hb'
      · exact ho p h1 (I, oI) List.mem_cons_self hb'
  · rintro h' tk m' news' F' N' _ ⟨nw, rfl, hJ, ho⟩
    exact done m' nw h' tk hJ F' N' ho
theorem iterLT {ax : Addr} {its : Array Value} {k : Nat} {m₀ : Str → Option Value} {news : List (Addr × Obj)} (J : Nat → (Str → Option Value) → List (Addr × Obj) → Prop)
    (hh : A.handled = none) (F : Fr h₀ env.locals s.heap m₀) (N : News h₀ env.locals s.heap ((ax, PySem.W.listOf its k) :: news)) (hoff : ∀ p ∈ news, p.1 ≠ ax) (hj : J 0 m₀ news)
    (turn : ∀ i v m₁ news₁ I oI s₁, its[i]? = some v → J i m₁ news₁ → Fr h₀ env.locals s₁.heap m₁ → News h₀ env.locals s₁.heap ((I, oI) :: (ax, PySem.W.listOf its k) :: news₁) → (∀ p ∈ news₁, p.1 ≠ I ∧ p.1 ≠ ax) → I ≠ ax →
      wpAny (model prog w) A (assign target env v) (fun _ s₂ => wpAny (model prog w) A (execs body env) (TurnNext h₀ env.locals [(I, oI), (ax, PySem.W.listOf its k)] (J (i + 1)) s₁) E s₂) E s₁)
    (done : ∀ m₁ news₁ h tk, J its.size m₁ news₁ → Fr h₀ env.locals h m₁ → News h₀ env.locals h ((ax, PySem.W.listOf its k) :: news₁) → (∀ p ∈ news₁, p.1 ≠ ax) → Q .next { s with heap := h, toks := tk }) :
    MyIterT prog w A h₀ env target body Q E (.ref ax) s := by
  have hls : s.heap.IsList ax its := N.isList (.head _)
  have hlt : ax < s.heap.objs.size := Heap.lt_size (N _ (.head _)).1
  have hne : ax ≠ s.heap.objs.size := Nat.ne_of_lt hlt
  refine wpAny_pyIter_list hls ?_
  have W := Walks.list (prog := prog) (w := w) hh s.heap.objs.size ax hne its
  refine iterWT (fixed := [(ax, PySem.W.listOf its k)]) (news := news) (m₀ := m₀) J W (fun i h st => by obtain ⟨o, e, _⟩ := st.1; exact ⟨o, e⟩) (fun b hb => ?_) ?_ (next_is_new F) (fun p hp => by rw [List.mem_singleton.mp hp]; exact hne)
    (fun i s' v Q' st hQ' => letGo_listiter st.1 hQ')
    ⟨⟨_, Heap.get?_push_size _ rfl, rfl, rfl⟩, hls.push _⟩ (F.push _) (fun p hp => ⟨Heap.get?_push_of_some _ (N p hp).1, (N p hp).2⟩) (fun p hp => Nat.ne_of_lt (Heap.lt_size (N p (List.mem_cons_of_mem _ hp)).1)) (fun p hp q hq => by rw [List.mem_singleton.mp hq]; exact hoff p hp) hj ?_ ?_
  · rcases List.mem_cons.mp hb with e | hb
    · exact .inl e
    · rw [List.mem_singleton.mp hb]; exact .inr ⟨_, List.mem_singleton.mpr rfl⟩
  · intro hm
    rcases List.mem_cons.mp hm with e | hm
    · exact absurd F.ns.lt (e ▸ Nat.lt_irrefl _)
    · exact (N _ (.head _)).2.1 (List.mem_singleton.mp hm).symm
  · intro i v m₁ news₁ oI s₁ hi hP hJ F₁ N₁ ho
    exact turn i v m₁ news₁ _ oI s₁ hP hJ F₁ N₁ (fun p hp => ⟨ho p hp _ List.mem_cons_self, ho p hp _ (List.mem_cons_of_mem _ (List.mem_singleton.mpr rfl))⟩) (Ne.symm hne)
  · intro m₁ news₁ h tk hJ F₁ N₁ ho
    exact done m₁ news₁ h tk hJ F₁ N₁ (fun p hp => ho p hp _ (List.mem_singleton.mpr rfl))
end
end Mine

end
section
set_option maxRecDepth 100000
set_option maxHeartbeats 2000000
namespace Mine
theorem off1_ne {D : Addr} : ∀ {l : List (Addr × Obj)}, LCg.Off1 D l → ∀ p ∈ l, p.1 ≠ D
  | [], _, _, h => nomatch h
  | _ :: _, x, p, h => by
    rcases List.mem_cons.mp h with rfl | h
    · exact x.1
    · exact off1_ne x.2 p h
/-- lists of truth values that references name -/
noncomputable def BRows (tl : List (Addr × Obj)) : List Value → List (List Bool) → Prop
  | [], [] => True
  | v :: vs, bs :: bss => (∃ (a : Addr) (n : Nat), v = .ref a ∧ (a, PySem.W.listOf (bs.map Value.bool).toArray n) ∈ tl) ∧ BRows tl vs bss
  | _, _ => False
theorem BRows.push {tl tl' : List (Addr × Obj)} {D : Addr} {n : Nat} {b : List Bool} (hs : ∀ p ∈ tl, p ∈ tl') (hm : (D, PySem.W.listOf (b.map Value.bool).toArray n) ∈ tl') : ∀ {refs : List Value} {tab : List (List Bool)}, BRows tl refs tab → BRows tl' (refs ++ [.ref D]) (tab ++ [b])
  | [], [], _ => ⟨⟨D, n, rfl, hm⟩, trivial⟩
  | _ :: _, _ :: _, ⟨⟨a, k, e, h⟩, r⟩ => ⟨⟨a, k, e, hs _ h⟩, BRows.push hs hm r⟩
  | [], _ :: _, h => h.elim
  | _ :: _, [], h => h.elim
theorem BRows.length {tl : List (Addr × Obj)} : ∀ {refs : List Value} {tab : List (List Bool)}, BRows tl refs tab → refs.length = tab.length
  | [], [], _ => rfl
  | _ :: _, _ :: _, ⟨_, r⟩ => congrArg (· + 1) (BRows.length r)
  | [], _ :: _, h => h.elim
  | _ :: _, [], h => h.elim
theorem reads_bools {h : Heap} : ∀ bs : List Bool, ReadsAll h (bs.map Value.bool) (bs.map PyData.bool) []
  | [] => .nil
  | b :: r => readsAll_cons_val (.bool b) (reads_bools r)
noncomputable def bTab (tab : List (List Bool)) : List PyData := tab.map fun bs => .list (bs.map .bool)
theorem BRows.reads {h₀ h : Heap} {L : Addr} {news tl : List (Addr × Obj)} (N : News h₀ L h news) (hs : ∀ p ∈ tl, p ∈ news) : ∀ {refs : List Value} {tab : List (List Bool)}, BRows tl refs tab → ∃ as, ReadsAll h refs (bTab tab) as
  | [], [], _ => ⟨_, .nil⟩
  | _ :: _, _ :: _, ⟨⟨_, _, e, hm⟩, r⟩ => by
    obtain ⟨as, q⟩ := BRows.reads N hs r
    subst e
    exact ⟨_, .cons (reads_list_at (N.get (hs _ hm)) rfl rfl (by simpa using reads_bools _)) q⟩
  | [], _ :: _, h => h.elim
  | _ :: _, [], h => h.elim
theorem canLay_bools : ∀ bs : List Bool, PyData.canLayAll0 (bs.map PyData.bool) = true
  | [] => rfl
  | _ :: r => by simp [PyData.canLayAll0, PyData.canLay0, canLay_bools r]
theorem depth_bools : ∀ bs : List Bool, PyData.depthAll (bs.map PyData.bool) = 0
  | [] => rfl
  | _ :: r => by simp [PyData.depthAll, PyData.depth, depth_bools r]
theorem eqvAll_bools : ∀ bs cs : List Bool, PyData.eqvAll (bs.map PyData.bool) (cs.map PyData.bool) = decide (bs = cs)
  | [], [] => by simp [PyData.eqvAll]
  | [], _ :: _ => by simp [PyData.eqvAll]
  | _ :: _, [] => by simp [PyData.eqvAll]
  | a :: r, b :: t => by
    simp only [List.map_cons, PyData.eqvAll, PyData.eqv, eqvAll_bools r t]
    by_cases h : a = b <;> by_cases h' : r = t <;> simp [h, h']
theorem canLay_bTab : ∀ tab : List (List Bool), PyData.canLayAll0 (bTab tab) = true
  | [] => rfl
  | b :: r => by
    have := canLay_bTab r
    unfold bTab at this ⊢
    simp [PyData.canLayAll0, PyData.canLay0, canLay_bools, this]
theorem depth_bTab : ∀ tab : List (List Bool), PyData.depthAll (bTab tab) ≤ 1
  | [] => Nat.zero_le _
  | b :: r => by
    have := depth_bTab r
    unfold bTab at this ⊢
    simp only [List.map_cons, PyData.depthAll, PyData.depth, depth_bools]
    omega
theorem shaped_bTab (tab : List (List Bool)) : SeqAt.shaped (.list (bTab tab)) = true := by
  have := depth_bTab tab
  simp only [SeqAt.shaped, PyData.canLay0, canLay_bTab, PyData.depth, Bool.true_and]
  exact decide_eq_true (by omega)
theorem shaped_bools (bs : List Bool) : SeqAt.shaped (.list (bs.map PyData.bool)) = true := by
  simp [SeqAt.shaped, PyData.canLay0, PyData.depth, canLay_bools, depth_bools]
section
variable {prog : Program} {w : World} {A : Around} {E : Value → Shared → Prop} {s : Shared} {h₀ : Heap} {L T D : Addr} {news tl : List (Addr × Obj)}
theorem told_ne {refs : List Value} {tab : List (List Bool)} {k : Nat} {db : PyData} {as : List Addr} {Q : Value → Shared → Prop} (N : News h₀ L s.heap news) (mT : (T, PySem.W.listOf refs.toArray k) ∈ news) (hB : BRows tl refs tab) (hs : ∀ p ∈ tl, p ∈ news) (rb : Reads s.heap (.ref D) db as) (hd : SeqAt.shaped db = true)
    (he : PyData.eqv (.list (bTab tab)) db = true) (hu : A.units + 64 < cLine) (h : Q (.bool false) s) : wpAny (model prog w) A (compareOp .NotEq (.ref T) (.ref D)) Q E s := by
  obtain ⟨as, ra⟩ := hB.reads N hs
  exact ne_dataH (reads_list_at (N.get mT) rfl rfl (by simpa using ra)) rb (shaped_bTab tab) hd hu (by rw [he]; exact h)
theorem bools_ne {bs cs : List Bool} {k n : Nat} {Q : Value → Shared → Prop} (N : News h₀ L s.heap news) (mT : (T, PySem.W.listOf (bs.map Value.bool).toArray k) ∈ news) (mD : (D, PySem.W.listOf (cs.map Value.bool).toArray n) ∈ news)
    (hu : A.units + 64 < cLine) (h : Q (.bool (!decide (bs = cs))) s) : wpAny (model prog w) A (compareOp .NotEq (.ref T) (.ref D)) Q E s :=
  ne_dataH (reads_list_at (N.get mT) rfl rfl (by simpa using reads_bools bs)) (reads_list_at (N.get mD) rfl rfl (by simpa using reads_bools cs)) (shaped_bools bs) (shaped_bools cs) hu (by simp only [PyData.eqv, eqvAll_bools]; exact h)
end
theorem bools_of {ys : List Value} {xs : List Str} {f : Str → Bool} (hl : ys.length = xs.length) (h : ∀ (i : Nat) (y : Value), ys[i]? = some y → ∃ x, xs[i]? = some x ∧ y = Value.bool (f x)) : ys = (xs.map f).map Value.bool := by
  apply List.ext_getElem?
  intro i
  rw [List.map_map, List.getElem?_map]
  rcases Nat.lt_or_ge i ys.length with h1 | h1
  · obtain ⟨x, e1, e2⟩ := h i _ (List.getElem?_eq_getElem h1)
    rw [List.getElem?_eq_getElem h1, e1, e2]; rfl
  · rw [List.getElem?_eq_none h1, List.getElem?_eq_none (by omega)]; rfl
section
variable {prog : Program} {w : World} {A : Around} {E : Value → Shared → Prop} {s : Shared} {h₀ : Heap} {L l : Addr} {m : Str → Option Value} {news : List (Addr × Obj)}
/-- a list comprehension over a ledger's list -/
theorem mapVals {env : Env} {elt : PySem.Expr} {xn : Str} {scope : Scope} {cl : List (Str × Addr)} {k : Nat} {s₁ : Shared} {its : Array Value} {Q : Value → Shared → Prop} (R : Nat → Value → Prop) (hh : A.handled = none) (F : Fr h₀ L s₁.heap m) (N : News h₀ L s₁.heap news) (hm : (l, PySem.W.listOf its k) ∈ news) (hz : its.size ≤ 1000)
    (elem : ∀ (i : Nat) (v : Value) I oI C oC D m₂ h tk ys (E' : Value → Shared → Prop), its[i]? = some v → LCg.NsObj oC m₂ → m₂ xn = some v → Fr h₀ L h m → News h₀ L h ((I, oI) :: (C, oC) :: (D, LCg.lst ys) :: news) →
      wpAny (model prog w) A (eval elt (compEnvC scope cl C env)) (ElEnd h₀ L m ((I, oI) :: (C, oC) :: (D, LCg.lst ys) :: news) (R i) { s₁ with heap := h, toks := tk }) E' { s₁ with heap := h, toks := tk })
    (fin : ∀ D ys k h tk, ys.length = its.size → (∀ i y, ys[i]? = some y → R i y) → Fr h₀ L h m → News h₀ L h ((D, PySem.W.listOf (List.toArray ys) k) :: news) → LCg.Off1 D news → Q (.ref D) { s₁ with heap := h, toks := tk }) :
    MySrc prog w A h₀ L m env elt xn scope cl (fun s₂ => LCg.FinE h₀ L m s₂ Q) (.ref l) s₁ := by
  refine MySrc.ledger hh F N hm (by rw [sizeLine_eq]; omega) fun g => ?_
  refine compRest_map R (Or.inr ⟨_, hm, rfl, _, rfl⟩) ?_ ?_
  · intro i v I oI C oC D m₂ h tk ys E' _ hv hC hx F₁ N₁
    exact elem i v I oI C oC D m₂ h tk ys E' hv hC hx F₁ N₁
  · intro ys hlen hR
    unfold LCg.FinE
    intro D h tk F₂ N₂ o1
    exact fin D ys _ h tk hlen hR F₂ N₂ o1
end
section
variable {prog : Program} {w : World} {A : Around} {E : Value → Shared → Prop} {s : Shared} {h₀ : Heap} {L l : Addr} {m : Str → Option Value} {news : List (Addr × Obj)}
theorem its3 {t1 t2 t3 : Str} {v1 v2 v3 : Tok} {i : Nat} {v : Value} (h1 : t1.length ≤ 200) (h2 : t2.length ≤ 200) (h3 : t3.length ≤ 200) (h : (#[Value.str t1 v1, Value.str t2 v2, Value.str t3 v3] : Array Value)[i]? = some v) : ∃ x t, [t1, t2, t3][i]? = some x ∧ v = Value.str x t ∧ x.length ≤ 200 := by
  rcases i with _ | _ | _ | i
  · exact ⟨t1, v1, rfl, (Option.some.inj h).symm, h1⟩
  · exact ⟨t2, v2, rfl, (Option.some.inj h).symm, h2⟩
  · exact ⟨t3, v3, rfl, (Option.some.inj h).symm, h3⟩
  · simp at h
theorem map3 {env : Env} {elt : PySem.Expr} {xn : Str} {scope : Scope} {cl : List (Str × Addr)} {k : Nat} {s₁ : Shared} {t1 t2 t3 : Str} {v1 v2 v3 : Tok} {Q : Value → Shared → Prop} (g : Str → Bool) (hh : A.handled = none) (F : Fr h₀ L s₁.heap m) (N : News h₀ L s₁.heap news) (hm : (l, PySem.W.listOf #[.str t1 v1, .str t2 v2, .str t3 v3] k) ∈ news) (h1 : t1.length ≤ 200) (h2 : t2.length ≤ 200) (h3 : t3.length ≤ 200)
    (elem : ∀ (x : Str) (t : Tok) I oI C oC D m₂ h tk ys (E' : Value → Shared → Prop), x.length ≤ 200 → LCg.NsObj oC m₂ → m₂ xn = some (.str x t) → Fr h₀ L h m → News h₀ L h ((I, oI) :: (C, oC) :: (D, LCg.lst ys) :: news) →
      wpAny (model prog w) A (eval elt (compEnvC scope cl C env)) (ElEnd h₀ L m ((I, oI) :: (C, oC) :: (D, LCg.lst ys) :: news) (fun y => y = Value.bool (g x)) { s₁ with heap := h, toks := tk }) E' { s₁ with heap := h, toks := tk })
    (fin : ∀ D k h tk, Fr h₀ L h m → News h₀ L h ((D, PySem.W.listOf (([t1, t2, t3].map g).map Value.bool).toArray k) :: news) → LCg.Off1 D news → Q (.ref D) { s₁ with heap := h, toks := tk }) :
    MySrc prog w A h₀ L m env elt xn scope cl (fun s₂ => LCg.FinE h₀ L m s₂ Q) (.ref l) s₁ := by
  refine mapVals (fun i y => ∃ x, [t1, t2, t3][i]? = some x ∧ y = Value.bool (g x)) hh F N hm (show 3 ≤ 1000 by decide) ?_ ?_
  · intro i v I oI C oC D m₂ h tk ys E' hv hC hx F₁ N₁
    obtain ⟨x, t, e1, rfl, e2⟩ := its3 h1 h2 h3 hv
    refine wpAny_mono (elem x t I oI C oC D m₂ h tk ys E' e2 hC hx F₁ N₁) (fun y s₂ hy => ?_) fun _ _ e => e
    obtain ⟨h', tk', rfl, F', N', r⟩ := hy
    exact ⟨h', tk', rfl, F', N', x, e1, r⟩
  · intro D ys k h tk hl hR F₂ N₂ o1
    have e := bools_of (xs := [t1, t2, t3]) (f := g) hl hR
    subst e
    exact fin D k h tk F₂ N₂ o1
end
section
variable {prog : Program} {w : World} {A : Around} {E : Value → Shared → Prop} {s : Shared} {env : Env} {h₀ : Heap} {target : Expr} {body : List Stmt} {Q : Flow → Shared → Prop}
noncomputable def DotEnd (m₁ : Str → Option Value) (T b4 : Addr) (base : List (Addr × Obj)) (tab : List (List Bool)) (m' : Str → Option Value) (nw : List (Addr × Obj)) : Prop :=
  m' = m₁ ∧ ∃ (refs : List Value) (k : Nat) (od : Obj) (xd : Option Value) (tl : List (Addr × Obj)), nw = (T, PySem.W.listOf refs.toArray k) :: (b4, od) :: tl ∧ od.data = .cell xd ∧ BRows tl refs tab ∧ (∀ p ∈ base, p ∈ tl) ∧ (∀ p ∈ tl, p.1 ≠ T) ∧ (∀ p ∈ tl, p.1 ≠ b4)
noncomputable def Ap5 (I ax T b4 : Addr) : Prop := @Ne Nat I ax ∧ @Ne Nat T I ∧ @Ne Nat T ax ∧ @Ne Nat b4 I ∧ @Ne Nat b4 ax ∧ @Ne Nat T b4
theorem iterD {ax T b4 : Addr} {its : Array Value} {k kT : Nat} {m₁ : Str → Option Value} {base : List (Addr × Obj)} {od0 : Obj} {xd0 : Option Value} {D : List Str} (f : Str → List Bool)
    (hh : A.handled = none) (F : Fr h₀ env.locals s.heap m₁) (N : News h₀ env.locals s.heap ((ax, PySem.W.listOf its k) :: (T, PySem.W.listOf #[] kT) :: (b4, od0) :: base)) (hd0 : od0.data = .cell xd0)
    (hits : ∀ (i : Nat) (v : Value), its[i]? = some v → ∃ d t, D[i]? = some d ∧ v = Value.str d t) (hsz : its.size = D.length) (hax : ∀ p ∈ base, p.1 ≠ ax) (hT : ∀ p ∈ base, p.1 ≠ T) (h4 : ∀ p ∈ base, p.1 ≠ b4) (hap : @Ne Nat T ax ∧ @Ne Nat b4 ax ∧ @Ne Nat T b4)
    (turn : ∀ (i : Nat) (d : Str) (t : Tok) (refs : List Value) (kT : Nat) (od : Obj) (xd : Option Value) (tl : List (Addr × Obj)) (I : Addr) (oI : Obj) (s₁ : Shared), D[i]? = some d → od.data = .cell xd → BRows tl refs ((D.take i).map f) → refs.length ≤ D.length → (∀ p ∈ base, p ∈ tl) → (∀ p ∈ tl, p.1 ≠ T) → (∀ p ∈ tl, p.1 ≠ b4) → (∀ p ∈ tl, p.1 ≠ I) → (∀ p ∈ tl, p.1 ≠ ax) → Ap5 I ax T b4 →
      Fr h₀ env.locals s₁.heap m₁ → News h₀ env.locals s₁.heap ((I, oI) :: (ax, PySem.W.listOf its k) :: (T, PySem.W.listOf refs.toArray kT) :: (b4, od) :: tl) →
      wpAny (model prog w) A (assign target env (.str d t)) (fun _ s₂ => wpAny (model prog w) A (execs body env) (TurnNext h₀ env.locals [(I, oI), (ax, PySem.W.listOf its k)] (DotEnd m₁ T b4 base ((D.take i).map f ++ [f d])) s₁) E s₂) E s₁)
    (done : ∀ (refs : List Value) (kT : Nat) (od : Obj) (xd : Option Value) (tl : List (Addr × Obj)) (h : Heap) (tk : Nat), od.data = .cell xd → BRows tl refs (D.map f) → (∀ p ∈ base, p ∈ tl) → (∀ p ∈ tl, p.1 ≠ T) → (∀ p ∈ tl, p.1 ≠ b4) → Fr h₀ env.locals h m₁ →
      News h₀ env.locals h ((ax, PySem.W.listOf its k) :: (T, PySem.W.listOf refs.toArray kT) :: (b4, od) :: tl) → Q .next { s with heap := h, toks := tk }) :
    MyIterT prog w A h₀ env target body Q E (.ref ax) s := by
  refine iterLT (m₀ := m₁) (fun i m' nw => DotEnd m₁ T b4 base ((D.take i).map f) m' nw) hh F N ?_ ?_ ?_ ?_
  · exact List.forall_mem_cons.mpr ⟨hap.1, List.forall_mem_cons.mpr ⟨hap.2.1, hax⟩⟩
  · exact ⟨rfl, [], kT, od0, xd0, base, rfl, hd0, trivial, fun _ h => h, hT, h4⟩
  · rintro i v m' nw I oI s₁ hv ⟨rfl, refs, kT, od, xd, tl, rfl, hd, hB, hb, hT', h4'⟩ F₁ N₁ ho hI
    obtain ⟨d, t, hD, rfl⟩ := hits i v hv
    have hlt : i < D.length := (List.getElem?_eq_some_iff.mp hD).1
    have e : (D.take (i + 1)).map f = (D.take i).map f ++ [f d] := by rw [List.take_add_one, hD]; simp
    rw [e]
    have o1 := ho _ List.mem_cons_self
    have o2 := ho _ (List.mem_cons_of_mem _ List.mem_cons_self)
    refine turn i d t refs kT od xd tl I oI s₁ hD hd hB ?_ hb hT' h4' (fun p hp => (ho p (.tail _ (.tail _ hp))).1) (fun p hp => (ho p (.tail _ (.tail _ hp))).2) ⟨hI, o1.1, o1.2, o2.1, o2.2, hap.2.2⟩ F₁ N₁
    rw [hB.length, List.length_map, List.length_take]
    omega
  · rintro m' nw h tk ⟨rfl, refs, kT, od, xd, tl, rfl, hd, hB, hb, hT', h4'⟩ F₁ N₁ ho
    rw [hsz, List.take_length] at hB
    exact done refs kT od xd tl h tk hd hB hb hT' h4' F₁ N₁
theorem iterD5 {ax T b4 b2 b3 X : Addr} {d0 d1 d2 d3 d4 t1 t2 t3 fi la : Str} {u0 u1 u2 u3 u4 v1 v2 v3 : Tok} {tf tg : Tok} {k kT kX : Nat} {m₁ : Str → Option Value} {rest : List (Addr × Obj)} {od0 of ol : Obj} {xd0 : Option Value}
    (hh : A.handled = none) (F : Fr h₀ env.locals s.heap m₁) (N : News h₀ env.locals s.heap ((ax, PySem.W.listOf #[.str d0 u0, .str d1 u1, .str d2 u2, .str d3 u3, .str d4 u4] k) :: (T, PySem.W.listOf #[] kT) :: (b4, od0) :: (X, PySem.W.listOf #[.str t1 v1, .str t2 v2, .str t3 v3] kX) :: (b2, of) :: (b3, ol) :: rest))
    (hd0 : od0.data = .cell xd0) (hf : of.data = .cell (some (.str fi tf))) (hg : ol.data = .cell (some (.str la tg))) (hl : d0.length ≤ 100 ∧ d1.length ≤ 100 ∧ d2.length ≤ 100 ∧ d3.length ≤ 100 ∧ d4.length ≤ 100)
    (hax : ∀ p ∈ (X, PySem.W.listOf #[.str t1 v1, .str t2 v2, .str t3 v3] kX) :: (b2, of) :: (b3, ol) :: rest, p.1 ≠ ax) (hT : ∀ p ∈ (X, PySem.W.listOf #[.str t1 v1, .str t2 v2, .str t3 v3] kX) :: (b2, of) :: (b3, ol) :: rest, p.1 ≠ T) (h4 : ∀ p ∈ (X, PySem.W.listOf #[.str t1 v1, .str t2 v2, .str t3 v3] kX) :: (b2, of) :: (b3, ol) :: rest, p.1 ≠ b4) (hap : @Ne Nat T ax ∧ @Ne Nat b4 ax ∧ @Ne Nat T b4)
    (turn : ∀ (d : Str) (g : Str → Bool) (t : Tok) (refs : List Value) (kT : Nat) (od : Obj) (xd : Option Value) (tl : List (Addr × Obj)) (I : Addr) (oI : Obj) (s₁ : Shared) (tab : List (List Bool)), (∀ x, ellFn (fi ++ d ++ la) x = g x) → d.length ≤ 100 → od.data = .cell xd → BRows tl refs tab → refs.length ≤ 5 → (∀ p ∈ (X, PySem.W.listOf #[.str t1 v1, .str t2 v2, .str t3 v3] kX) :: (b2, of) :: (b3, ol) :: rest, p ∈ tl) → (∀ p ∈ tl, p.1 ≠ T) → (∀ p ∈ tl, p.1 ≠ b4) → (∀ p ∈ tl, p.1 ≠ I) → (∀ p ∈ tl, p.1 ≠ ax) → Ap5 I ax T b4 →
      (@Ne Nat X I ∧ @Ne Nat b2 I ∧ @Ne Nat b3 I ∧ @Ne Nat X ax ∧ @Ne Nat b2 ax ∧ @Ne Nat b3 ax ∧ @Ne Nat X T ∧ @Ne Nat b2 T ∧ @Ne Nat b3 T ∧ @Ne Nat X b4 ∧ @Ne Nat b2 b4 ∧ @Ne Nat b3 b4) →
      Fr h₀ env.locals s₁.heap m₁ → News h₀ env.locals s₁.heap ((I, oI) :: (ax, PySem.W.listOf #[.str d0 u0, .str d1 u1, .str d2 u2, .str d3 u3, .str d4 u4] k) :: (T, PySem.W.listOf refs.toArray kT) :: (b4, od) :: (X, PySem.W.listOf #[.str t1 v1, .str t2 v2, .str t3 v3] kX) :: (b2, of) :: (b3, ol) :: tl) →
      wpAny (model prog w) A (assign target env (.str d t)) (fun _ s₂ => wpAny (model prog w) A (execs body env) (TurnNext h₀ env.locals [(I, oI), (ax, PySem.W.listOf #[.str d0 u0, .str d1 u1, .str d2 u2, .str d3 u3, .str d4 u4] k)] (DotEnd m₁ T b4 ((X, PySem.W.listOf #[.str t1 v1, .str t2 v2, .str t3 v3] kX) :: (b2, of) :: (b3, ol) :: rest) (tab ++ [[t1, t2, t3].map g])) s₁) E s₂) E s₁)
    (done : ∀ (refs : List Value) (kT : Nat) (od : Obj) (xd : Option Value) (tl : List (Addr × Obj)) (h : Heap) (tk : Nat), od.data = .cell xd → BRows tl refs ([d0, d1, d2, d3, d4].map fun d => [t1, t2, t3].map (ellFn (fi ++ d ++ la))) → (∀ p ∈ (X, PySem.W.listOf #[.str t1 v1, .str t2 v2, .str t3 v3] kX) :: (b2, of) :: (b3, ol) :: rest, p ∈ tl) → (∀ p ∈ tl, p.1 ≠ T) → (∀ p ∈ tl, p.1 ≠ b4) → Fr h₀ env.locals h m₁ →
      News h₀ env.locals h ((ax, PySem.W.listOf #[.str d0 u0, .str d1 u1, .str d2 u2, .str d3 u3, .str d4 u4] k) :: (T, PySem.W.listOf refs.toArray kT) :: (b4, od) :: tl) → Q .next { s with heap := h, toks := tk }) :
    MyIterT prog w A h₀ env target body Q E (.ref ax) s := by
  refine iterD (D := [d0, d1, d2, d3, d4]) (fun d => [t1, t2, t3].map (ellFn (fi ++ d ++ la))) hh F N hd0 ?_ rfl hax hT h4 hap ?_ done
  · intro i v hv
    rcases i with _ | _ | _ | _ | _ | i
    · exact ⟨d0, u0, rfl, (Option.some.inj hv).symm⟩
    · exact ⟨d1, u1, rfl, (Option.some.inj hv).symm⟩
    · exact ⟨d2, u2, rfl, (Option.some.inj hv).symm⟩
    · exact ⟨d3, u3, rfl, (Option.some.inj hv).symm⟩
    · exact ⟨d4, u4, rfl, (Option.some.inj hv).symm⟩
    · simp at hv
  · intro i d t refs kT od xd tl I oI s₁ hD hd hB hr hb hT' h4' hI' hax' ap F₁ N₁
    have hdl : d.length ≤ 100 := by
      rcases i with _ | _ | _ | _ | _ | i
      · cases hD; exact hl.1
      · cases hD; exact hl.2.1
      · cases hD; exact hl.2.2.1
      · cases hD; exact hl.2.2.2.1
      · cases hD; exact hl.2.2.2.2
      · simp at hD
    have x1 := hb _ (.head _)
    have x2 := hb _ (.tail _ (.head _))
    have x3 := hb _ (.tail _ (.tail _ (.head _)))
    refine turn d (ellFn (fi ++ d ++ la)) t refs kT od xd tl I oI s₁ _ (fun _ => rfl) hdl hd hB hr hb hT' h4' hI' hax' ap ⟨hI' _ x1, hI' _ x2, hI' _ x3, hax' _ x1, hax' _ x2, hax' _ x3, hT' _ x1, hT' _ x2, hT' _ x3, h4' _ x1, h4' _ x2, h4' _ x3⟩ F₁ fun p hp => ?_
    rcases List.mem_cons.mp hp with rfl | hp
    · exact N₁ _ (.head _)
    rcases List.mem_cons.mp hp with rfl | hp
    · exact N₁ _ (.tail _ (.head _))
    rcases List.mem_cons.mp hp with rfl | hp
    · exact N₁ _ (.tail _ (.tail _ (.head _)))
    rcases List.mem_cons.mp hp with rfl | hp
    · exact N₁ _ (.tail _ (.tail _ (.tail _ (.head _))))
    refine N₁ p (.tail _ (.tail _ (.tail _ (.tail _ ?_))))
    rcases List.mem_cons.mp hp with rfl | hp
    · exact x1
    rcases List.mem_cons.mp hp with rfl | hp
    · exact x2
    rcases List.mem_cons.mp hp with rfl | hp
    · exact x3
    exact hp
theorem ext2 {R b : Addr} {L : Addr} {m : Str → Option Value} {news news' : List (Addr × Obj)} {refs : List Value} {x y : Value} {n n2 : Nat} {Q : Value → Shared → Prop} (F : Fr h₀ L s.heap m) (N : News h₀ L s.heap news) (hb : (b, PySem.W.listOf #[x, y] n2) ∈ news) (hl : refs.length ≤ 1000)
    (U : Upd R (PySem.W.listOf refs.toArray n) (PySem.W.listOf (refs ++ [x, y]).toArray (n + 1)) news news')
    (h : ∀ h', Fr h₀ L h' m → News h₀ L h' news' → Q .none { s with heap := h' }) : wpAny (model prog w) A (call (.builtin "list.extend") [.ref R, .ref b]) Q E s := by
  have e1 : refs.toArray.size + (#[x, y] : Array Value).size ≤ sizeLine := by rw [sizeLine_eq, List.size_toArray]; show refs.length + 2 ≤ _; omega
  exact kl_extend F N hb (by simp) (by simp) U (extend_door e1) (by rw [sizeLine_eq]; simp; omega) (by omega) h
theorem ext3 {R b : Addr} {L : Addr} {m : Str → Option Value} {rest : List (Addr × Obj)} {refs : List Value} {x y : Value} {n n2 : Nat} {Q : Value → Shared → Prop} (F : Fr h₀ L s.heap m) (N : News h₀ L s.heap ((R, PySem.W.listOf refs.toArray n) :: rest)) (hb : (b, PySem.W.listOf #[x, y] n2) ∈ rest) (hl : refs.length ≤ 1000) (hne : ∀ p ∈ rest, p.1 ≠ R)
    (h : ∀ h', Fr h₀ L h' m → News h₀ L h' ((R, PySem.W.listOf (refs ++ [x, y]).toArray (n + 1)) :: rest) → Q .none { s with heap := h' }) : wpAny (model prog w) A (call (.builtin "list.extend") [.ref R, .ref b]) Q E s :=
  ext2 F N (.tail _ hb) hl (.head hne) h
theorem pick4 {h₀ h : Heap} {L : Addr} {a0 a1 a2 a3 a4 a5 a6 a7 a8 a9 a10 a11 a12 a13 a14 a15 a16 a17 : Addr × Obj} {tl : List (Addr × Obj)} (N : News h₀ L h (a0 :: a1 :: a2 :: a3 :: a4 :: a5 :: a6 :: a7 :: a8 :: a9 :: a10 :: a11 :: a12 :: a13 :: a14 :: a15 :: a16 :: a17 :: tl)) : News h₀ L h (a10 :: a0 :: a1 :: a5 :: a9 :: a11 :: a12 :: a13 :: a14 :: a15 :: a16 :: a17 :: tl) :=
  have H : ∀ p ∈ a10 :: a0 :: a1 :: a5 :: a9 :: a11 :: a12 :: a13 :: a14 :: a15 :: a16 :: a17 :: tl, p ∈ a0 :: a1 :: a2 :: a3 :: a4 :: a5 :: a6 :: a7 :: a8 :: a9 :: a10 :: a11 :: a12 :: a13 :: a14 :: a15 :: a16 :: a17 :: tl := List.forall_mem_cons.mpr ⟨List.mem_of_getElem? (i := 10) rfl, List.forall_mem_cons.mpr ⟨List.mem_of_getElem? (i := 0) rfl, List.forall_mem_cons.mpr ⟨List.mem_of_getElem? (i := 1) rfl, List.forall_mem_cons.mpr ⟨List.mem_of_getElem? (i := 5) rfl, List.forall_mem_cons.mpr ⟨List.mem_of_getElem? (i := 9) rfl, List.forall_mem_cons.mpr ⟨List.mem_of_getElem? (i := 11) rfl, List.forall_mem_cons.mpr ⟨List.mem_of_getElem? (i := 12) rfl, List.forall_mem_cons.mpr ⟨List.mem_of_getElem? (i := 13) rfl, List.forall_mem_cons.mpr ⟨List.mem_of_getElem? (i := 14) rfl, List.forall_mem_cons.mpr ⟨List.mem_of_getElem? (i := 15) rfl, List.forall_mem_cons.mpr ⟨List.mem_of_getElem? (i := 16) rfl, List.forall_mem_cons.mpr ⟨List.mem_of_getElem? (i := 17) rfl, fun _ h => List.mem_of_mem_drop (i := 18) (l := a0 :: a1 :: a2 :: a3 :: a4 :: a5 :: a6 :: a7 :: a8 :: a9 :: a10 :: a11 :: a12 :: a13 :: a14 :: a15 :: a16 :: a17 :: tl) h⟩⟩⟩⟩⟩⟩⟩⟩⟩⟩⟩⟩
  fun p hp => N p (H p hp)
/-- the end of a turn over i -/
theorem lawEnd_go {L R b D I A B : Addr} {c6 c5 cw oD od ol of oI : Obj} {xd xl xf : Option Value} {W O : List Int} {i : Nat} {refs va vb : List Value} {tl all : List (Addr × Obj)} {k kA kB : Nat} {m₁ m' : Str → Option Value} {s₁ : Shared} {h' : Heap} {tk : Nat}
    (F : Fr h₀ L h' m') (N : News h₀ L h' all)
    (hs : ∀ p ∈ (I, oI) :: (R, PySem.W.listOf (refs ++ [Value.ref A, Value.ref B]).toArray k) :: (b + 1 + 1 + 1 + 1 + 1 + 1, c6) :: (b + 1 + 1 + 1 + 1 + 1, c5) :: (b + 1 + 1 + 1 + 1, od) :: (b + 1 + 1 + 1, ol) :: (b + 1 + 1, of) :: (b + 1, cw) :: (D, oD) :: (A, PySem.W.listOf va.toArray kA) :: (B, PySem.W.listOf vb.toArray kB) :: tl, p ∈ all)
    (hR : RowsIn ((D, oD) :: tl) refs (rowsAt W O i)) (hT : ∀ p ∈ tl, Off6 R b p)
    (hI : @Ne Nat R I ∧ @Ne Nat (b + 1 + 1 + 1 + 1 + 1 + 1) I ∧ @Ne Nat (b + 1 + 1 + 1 + 1 + 1) I ∧ @Ne Nat (b + 1 + 1 + 1 + 1) I ∧ @Ne Nat (b + 1 + 1 + 1) I ∧ @Ne Nat (b + 1 + 1) I ∧ @Ne Nat (b + 1) I ∧ @Ne Nat D I ∧ @Ne Nat A I ∧ @Ne Nat B I) (hIt : ∀ p ∈ tl, p.1 ≠ I)
    (oA : Off6 R b (A, PySem.W.listOf va.toArray kA)) (oB : Off6 R b (B, PySem.W.listOf vb.toArray kB))
    (iA : IntsAre va (W.take i ++ (W.take i).reverse)) (iB : IntsAre vb (W.take (i + 1) ++ (W.take i).reverse)) (hd : od.data = .cell xd) (hl : ol.data = .cell xl) (hf : of.data = .cell xf)
    (ho : ∀ z, z ≠ Str.ofString "i" → z ≠ Str.ofString "sign" → z ≠ Str.ofString "texts" → z ≠ Str.ofString "told" → m' z = m₁ z) :
    TurnGo h₀ L [(I, oI)] (LawEnd m₁ R b D c6 c5 cw oD (rowsAt W O (i + 1))) s₁ { s₁ with heap := h', toks := tk } := by
  refine TurnGo.intro _ F N hs ?_ ⟨refs ++ [Value.ref A, Value.ref B], (A, PySem.W.listOf va.toArray kA) :: (B, PySem.W.listOf vb.toArray kB) :: tl, k, m', od, ol, of, xd, xl, xf, rfl, hd, hl, hf, ?_, ?_, iF_of ho⟩
  · obtain ⟨h1, h2, h3, h4, h5, h6, h7, h8, h9, h10⟩ := hI
    exact off1 (List.forall_mem_cons.mpr ⟨h1, List.forall_mem_cons.mpr ⟨h2, List.forall_mem_cons.mpr ⟨h3, List.forall_mem_cons.mpr ⟨h4, List.forall_mem_cons.mpr ⟨h5, List.forall_mem_cons.mpr ⟨h6, List.forall_mem_cons.mpr ⟨h7, List.forall_mem_cons.mpr ⟨h8, List.forall_mem_cons.mpr ⟨h9, List.forall_mem_cons.mpr ⟨h10, hIt⟩⟩⟩⟩⟩⟩⟩⟩⟩⟩)
  · have q1 := hR.push (tl' := (D, oD) :: (A, PySem.W.listOf va.toArray kA) :: (B, PySem.W.listOf vb.toArray kB) :: tl) (fun p hp => by
      rcases List.mem_cons.mp hp with rfl | hp
      · exact .head _
      · exact .tail _ (.tail _ (.tail _ hp))) (.tail _ (.head _)) iA
    have q2 := q1.push (fun p hp => hp) (.tail _ (.tail _ (.head _))) iB
    simpa [rowsAt, List.append_assoc] using q2
  · exact List.forall_mem_cons.mpr ⟨oA, List.forall_mem_cons.mpr ⟨oB, hT⟩⟩
theorem pick3 {L I R D X b1 b2 b3 b4 b5 b6 : Addr} {h : Heap} {oI oR oD oX c1 c2 c3 c4 c5 c6 : Obj} {a0 a1 a2 a3 a4 a5 a6 a7 : Addr × Obj} {tl9 tl : List (Addr × Obj)} (N : News h₀ L h (a0 :: a1 :: a2 :: a3 :: a4 :: a5 :: a6 :: a7 :: (b4, c4) :: tl9)) (hb : ∀ p ∈ (X, oX) :: (b2, c2) :: (b3, c3) :: (I, oI) :: (R, oR) :: (b6, c6) :: (b5, c5) :: (b1, c1) :: (D, oD) :: tl, p ∈ tl9) :
    News h₀ L h ((I, oI) :: (R, oR) :: (b6, c6) :: (b5, c5) :: (b4, c4) :: (b3, c3) :: (b2, c2) :: (b1, c1) :: (D, oD) :: tl) := fun p hp => by
  have go : ∀ q ∈ tl9, News h₀ L h [q] := fun q hq r hr => by
    rw [List.mem_singleton.mp hr]; exact N q (.tail _ (.tail _ (.tail _ (.tail _ (.tail _ (.tail _ (.tail _ (.tail _ (.tail _ hq)))))))))
  rcases List.mem_cons.mp hp with rfl | hp
  · exact go _ (hb _ (.tail _ (.tail _ (.tail _ (.head _))))) _ (.head _)
  rcases List.mem_cons.mp hp with rfl | hp
  · exact go _ (hb _ (.tail _ (.tail _ (.tail _ (.tail _ (.head _)))))) _ (.head _)
  rcases List.mem_cons.mp hp with rfl | hp
  · exact go _ (hb _ (.tail _ (.tail _ (.tail _ (.tail _ (.tail _ (.head _))))))) _ (.head _)
  rcases List.mem_cons.mp hp with rfl | hp
  · exact go _ (hb _ (.tail _ (.tail _ (.tail _ (.tail _ (.tail _ (.tail _ (.head _)))))))) _ (.head _)
  rcases List.mem_cons.mp hp with rfl | hp
  · exact N _ (.tail _ (.tail _ (.tail _ (.tail _ (.tail _ (.tail _ (.tail _ (.tail _ (.head _)))))))))
  rcases List.mem_cons.mp hp with rfl | hp
  · exact go _ (hb _ (.tail _ (.tail _ (.head _)))) _ (.head _)
  rcases List.mem_cons.mp hp with rfl | hp
  · exact go _ (hb _ (.tail _ (.head _))) _ (.head _)
  rcases List.mem_cons.mp hp with rfl | hp
  · exact go _ (hb _ (.tail _ (.tail _ (.tail _ (.tail _ (.tail _ (.tail _ (.tail _ (.head _))))))))) _ (.head _)
  rcases List.mem_cons.mp hp with rfl | hp
  · exact go _ (hb _ (.tail _ (.tail _ (.tail _ (.tail _ (.tail _ (.tail _ (.tail _ (.tail _ (.head _)))))))))) _ (.head _)
  exact go _ (hb _ (.tail _ (.tail _ (.tail _ (.tail _ (.tail _ (.tail _ (.tail _ (.tail _ (.tail _ hp)))))))))) _ (.head _)
/-- the end of a turn over dots -/
theorem dotEnd_go {L I ax T b4 D' : Addr} {oI oA od c1 c2 c3 : Obj} {a1 a2 a3 : Addr} {m₁ : Str → Option Value} {base tl : List (Addr × Obj)} {refs : List Value} {k k' : Nat} {tab : List (List Bool)} {b : List Bool} {xd : Option Value} {s₁ : Shared} {h' : Heap} {tk : Nat}
    (F : Fr h₀ L h' m₁) (N : News h₀ L h' ((D', PySem.W.listOf (b.map Value.bool).toArray k') :: (I, oI) :: (ax, oA) :: (T, PySem.W.listOf (refs ++ [Value.ref D']).toArray k) :: (b4, od) :: (a1, c1) :: (a2, c2) :: (a3, c3) :: tl))
    (o1 : LCg.Off1 D' ((I, oI) :: (ax, oA) :: (T, PySem.W.listOf refs.toArray k) :: (b4, od) :: (a1, c1) :: (a2, c2) :: (a3, c3) :: tl)) (hd : od.data = .cell xd) (hB : BRows tl refs tab) (hb : ∀ p ∈ base, p ∈ tl) (hT : ∀ p ∈ tl, p.1 ≠ T) (h4 : ∀ p ∈ tl, p.1 ≠ b4) (hI : ∀ p ∈ tl, p.1 ≠ I) (hax : ∀ p ∈ tl, p.1 ≠ ax) (ap : Ap5 I ax T b4) :
    TurnNext h₀ L [(I, oI), (ax, oA)] (DotEnd m₁ T b4 base (tab ++ [b])) s₁ .next { s₁ with heap := h', toks := tk } := by
  refine ⟨rfl, TurnGo.intro ((T, PySem.W.listOf (refs ++ [Value.ref D']).toArray k) :: (b4, od) :: (D', PySem.W.listOf (b.map Value.bool).toArray k') :: tl) F N ?_ ?_ ?_⟩
  · intro p hp
    simp only [List.mem_append, List.mem_cons, List.not_mem_nil, or_false] at hp ⊢
    rcases hp with (h | h) | h | h | h | h <;> simp [h]
  · refine off2 (List.forall_mem_cons.mpr ⟨⟨ap.2.1, ap.2.2.1⟩, List.forall_mem_cons.mpr ⟨⟨ap.2.2.2.1, ap.2.2.2.2.1⟩, List.forall_mem_cons.mpr ⟨⟨Ne.symm o1.1, Ne.symm o1.2.1⟩, fun p hp => ⟨hI p hp, hax p hp⟩⟩⟩⟩)
  · exact ⟨rfl, _, k, od, xd, _, rfl, hd, hB.push (fun p hp => .tail _ hp) (.head _), fun p hp => .tail _ (hb p hp), List.forall_mem_cons.mpr ⟨Ne.symm o1.2.2.1, hT⟩, List.forall_mem_cons.mpr ⟨Ne.symm o1.2.2.2.1, h4⟩⟩
end
end Mine

end
section
set_option maxRecDepth 100000
set_option maxHeartbeats 2000000
namespace Mine
theorem rowsAt_b {W O : List Int} (hW : ∀ x ∈ W, 0 ≤ x ∧ x < 4) (hO : ∀ x ∈ O, 0 ≤ x ∧ x < 4) (_hl : W.length ≤ 5) : ∀ i, ∀ row ∈ rowsAt W O i, ∀ x ∈ row, 0 ≤ x ∧ x < 4
  | 0, row, h => by
    simp only [rowsAt, List.mem_cons, List.not_mem_nil, or_false] at h
    rcases h with rfl | rfl | rfl | rfl
    · exact hW
    · exact b_app (b_drop hW 1) (b_take hW 1)
    · exact b_app (b_app hO (b_take hW 1)) (b_rev hO)
    · exact b_app hW (b_rev hW)
  | i + 1, row, h => by
    rw [rowsAt] at h
    rcases List.mem_append.mp h with h | h
    · exact rowsAt_b hW hO _hl i row h
    · simp only [List.mem_cons, List.not_mem_nil, or_false] at h
      rcases h with rfl | rfl
      · exact b_app (b_take hW i) (b_rev (b_take hW i))
      · exact b_app (b_take hW (i + 1)) (b_rev (b_take hW i))
theorem rowsAt_l {W O : List Int} (hl : W.length ≤ 5) (hO : O.length ≤ 3) : ∀ i, ∀ row ∈ rowsAt W O i, row.length ≤ 10
  | 0, row, h => by
    simp only [rowsAt, List.mem_cons, List.not_mem_nil, or_false] at h
    rcases h with rfl | rfl | rfl | rfl <;> (try simp only [List.length_append, List.length_drop, List.length_take, List.length_reverse]) <;> omega
  | i + 1, row, h => by
    rw [rowsAt] at h
    rcases List.mem_append.mp h with h | h
    · exact rowsAt_l hl hO i row h
    · simp only [List.mem_cons, List.not_mem_nil, or_false] at h
      rcases h with rfl | rfl <;> simp only [List.length_append, List.length_take, List.length_reverse] <;> omega
theorem rowsIn_at {tl : List (Addr × Obj)} {refs : List Value} {tab : List (List Int)} (h : RowsIn tl refs tab) {i : Nat} {v : Value} (hv : refs.toArray[i]? = some v) : ∃ row a vs n, tab[i]? = some row ∧ v = Value.ref a ∧ (a, PySem.W.listOf (List.toArray vs) n) ∈ tl ∧ IntsAre vs row := by
  rw [List.getElem?_toArray] at hv
  have hlt : i < refs.length := (List.getElem?_eq_some_iff.mp hv).1
  have hlt' : i < tab.length := by rw [← h.1]; exact hlt
  obtain ⟨a, vs, n, e1, e2, e3⟩ := h.2 i hlt'
  rw [e1] at hv
  cases hv
  refine ⟨tab[i], a, vs, n, List.getElem?_eq_getElem hlt', rfl, e2, ?_⟩
  rw [List.getD_eq_getElem?_getD, List.getElem?_eq_getElem hlt'] at e3
  exact e3
theorem strsM_of {α : Type} {ys : List Value} {xs : List α} {f : α → Str} (hl : ys.length = xs.length) (h : ∀ (i : Nat) (y : Value), ys[i]? = some y → ∃ x t, xs[i]? = some x ∧ y = Value.str (f x) t) : ∃ ls, ys = strValues ls ∧ ls.map (·.1) = xs.map f := by
  induction ys generalizing xs with
  | nil =>
    cases xs with
    | nil => exact ⟨[], rfl, rfl⟩
    | cons _ _ => simp at hl
  | cons y r ih =>
    cases xs with
    | nil => simp at hl
    | cons x q =>
      obtain ⟨ls, e1, e2⟩ := ih (xs := q) (by simpa using hl) (fun i z hz => h (i + 1) z hz)
      obtain ⟨x', t, e3, e4⟩ := h 0 y rfl
      cases e3
      exact ⟨(f x, t) :: ls, by rw [e4, e1]; rfl, by simp [e2]⟩
theorem bools_of' {α : Type} {ys : List Value} {xs : List α} {f : α → Bool} (hl : ys.length = xs.length) (h : ∀ (i : Nat) (y : Value), ys[i]? = some y → ∃ x, xs[i]? = some x ∧ y = Value.bool (f x)) : ys = (xs.map f).map Value.bool := by
  apply List.ext_getElem?
  intro i
  rw [List.map_map, List.getElem?_map]
  rcases Nat.lt_or_ge i ys.length with h1 | h1
  · obtain ⟨x, e1, e2⟩ := h i _ (List.getElem?_eq_getElem h1)
    rw [List.getElem?_eq_getElem h1, e1, e2]; rfl
  · rw [List.getElem?_eq_none h1, List.getElem?_eq_none (by omega)]; rfl
theorem strs_at' {ls : List (Str × Tok)} {i : Nat} {v : Value} (h : (strValues ls).toArray[i]? = some v) : ∃ x t, (ls.map (·.1))[i]? = some x ∧ v = Value.str x t ∧ x ∈ ls.map (·.1) := by
  rw [List.getElem?_toArray] at h
  unfold strValues at h
  rw [List.getElem?_map] at h
  cases hq : ls[i]? with
  | none => rw [hq] at h; cases h
  | some p =>
    rw [hq] at h
    cases h
    exact ⟨p.1, p.2, by rw [List.getElem?_map, hq]; rfl, rfl, List.mem_map.mpr ⟨p, List.mem_of_getElem? hq, rfl⟩⟩
section
variable {prog : Program} {w : World} {A : Around} {E : Value → Shared → Prop} {s : Shared} {h₀ : Heap} {L l : Addr} {m : Str → Option Value} {news tl : List (Addr × Obj)}
theorem mapRowsA {env : Env} {elt : PySem.Expr} {xn yn : Str} {scope : Scope} {cl : List (Str × Addr)} {k : Nat} {s₁ : Shared} {refs : List Value} {tab : List (List Int)} {Q : Flow → Shared → Prop} (f : List Int → Str) (hh : A.handled = none) (F : Fr h₀ L s₁.heap m) (N : News h₀ L s₁.heap news) (hm : (l, PySem.W.listOf refs.toArray k) ∈ news) (hR : RowsIn tl refs tab) (hs : ∀ p ∈ tl, p ∈ news) (hz : tab.length ≤ 1000)
    (elem : ∀ (row : List Int) (a : Addr) (vs : List Value) (n : Nat) I oI C oC D m₂ h tk ys (E' : Value → Shared → Prop), row ∈ tab → IntsAre vs row → LCg.NsObj oC m₂ → m₂ xn = some (.ref a) → Fr h₀ L h m → News h₀ L h ((a, PySem.W.listOf vs.toArray n) :: (I, oI) :: (C, oC) :: (D, LCg.lst ys) :: news) →
      wpAny (model prog w) A (eval elt (compEnvC scope cl C env)) (ElEnd h₀ L m ((I, oI) :: (C, oC) :: (D, LCg.lst ys) :: news) (fun y => ∃ t, y = Value.str (f row) t) { s₁ with heap := h, toks := tk }) E' { s₁ with heap := h, toks := tk })
    (fin : ∀ D ls k h tk, ls.map (·.1) = tab.map f → Fr h₀ L h (fun z => if z = yn then some (.ref D) else m z) → News h₀ L h ((D, PySem.W.listOf (strValues ls).toArray k) :: news) → LCg.Off1 D news → Q .next { s₁ with heap := h, toks := tk }) :
    MySrc prog w A h₀ L m env elt xn scope cl (fun s₂ => LCg.FinA h₀ L m s₂ yn Q) (.ref l) s₁ := by
  refine MySrc.ledger hh F N hm (by rw [sizeLine_eq, List.size_toArray, hR.1]; omega) fun g => ?_
  refine compRest_map (fun i y => ∃ row t, tab[i]? = some row ∧ y = Value.str (f row) t) (Or.inr ⟨_, hm, rfl, _, rfl⟩) ?_ ?_
  · intro i v I oI C oC D m₂ h tk ys E' _ hv hC hx F₁ N₁
    obtain ⟨row, a, vs, n, e1, rfl, e2, e3⟩ := rowsIn_at hR hv
    refine wpAny_mono (elem row a vs n I oI C oC D m₂ h tk ys E' (List.mem_of_getElem? e1) e3 hC hx F₁ (fun p hp => ?_)) (fun y s₂ hy => ?_) fun _ _ e => e
    · rcases List.mem_cons.mp hp with rfl | hp
      · exact N₁ _ (.tail _ (.tail _ (.tail _ (hs _ e2))))
      · exact N₁ p hp
    · obtain ⟨h', tk', rfl, F', N', t, r⟩ := hy
      exact ⟨h', tk', rfl, F', N', row, t, e1, r⟩
  · intro ys hlen hr
    obtain ⟨ls, rfl, e⟩ := strsM_of (xs := tab) (f := f) (by rw [hlen, List.size_toArray, hR.1]) hr
    unfold LCg.FinA
    intro D h tk F₂ N₂ o1
    exact fin D ls _ h tk e F₂ N₂ o1
theorem mapRowsB {env : Env} {elt : PySem.Expr} {xn : Str} {scope : Scope} {cl : List (Str × Addr)} {k : Nat} {s₁ : Shared} {refs : List Value} {tab : List (List Int)} {Q : Value → Shared → Prop} (f : List Int → Bool) (hh : A.handled = none) (F : Fr h₀ L s₁.heap m) (N : News h₀ L s₁.heap news) (hm : (l, PySem.W.listOf refs.toArray k) ∈ news) (hR : RowsIn tl refs tab) (hs : ∀ p ∈ tl, p ∈ news) (hz : tab.length ≤ 1000)
    (elem : ∀ (row : List Int) (a : Addr) (vs : List Value) (n : Nat) I oI C oC D m₂ h tk ys (E' : Value → Shared → Prop), row ∈ tab → IntsAre vs row → LCg.NsObj oC m₂ → m₂ xn = some (.ref a) → Fr h₀ L h m → News h₀ L h ((a, PySem.W.listOf vs.toArray n) :: (I, oI) :: (C, oC) :: (D, LCg.lst ys) :: news) →
      wpAny (model prog w) A (eval elt (compEnvC scope cl C env)) (ElEnd h₀ L m ((I, oI) :: (C, oC) :: (D, LCg.lst ys) :: news) (fun y => y = Value.bool (f row)) { s₁ with heap := h, toks := tk }) E' { s₁ with heap := h, toks := tk })
    (fin : ∀ D k h tk, Fr h₀ L h m → News h₀ L h ((D, PySem.W.listOf ((tab.map f).map Value.bool).toArray k) :: news) → LCg.Off1 D news → Q (.ref D) { s₁ with heap := h, toks := tk }) :
    MySrc prog w A h₀ L m env elt xn scope cl (fun s₂ => LCg.FinE h₀ L m s₂ Q) (.ref l) s₁ := by
  refine mapVals (fun i y => ∃ row, tab[i]? = some row ∧ y = Value.bool (f row)) hh F N hm (by rw [List.size_toArray, hR.1]; exact hz) ?_ ?_
  · intro i v I oI C oC D m₂ h tk ys E' hv hC hx F₁ N₁
    obtain ⟨row, a, vs, n, e1, rfl, e2, e3⟩ := rowsIn_at hR hv
    refine wpAny_mono (elem row a vs n I oI C oC D m₂ h tk ys E' (List.mem_of_getElem? e1) e3 hC hx F₁ (fun p hp => ?_)) (fun y s₂ hy => ?_) fun _ _ e => e
    · rcases List.mem_cons.mp hp with rfl | hp
      · exact N₁ _ (.tail _ (.tail _ (.tail _ (hs _ e2))))
      · exact N₁ p hp
    · obtain ⟨h', tk', rfl, F', N', r⟩ := hy
      exact ⟨h', tk', rfl, F', N', row, e1, r⟩
  · intro D ys k h tk hl hr F₂ N₂ o1
    have e := bools_of' (xs := tab) (f := f) (by rw [hl, List.size_toArray, hR.1]) hr
    subst e
    exact fin D k h tk F₂ N₂ o1
theorem mapStrsB {env : Env} {elt : PySem.Expr} {xn : Str} {scope : Scope} {cl : List (Str × Addr)} {k : Nat} {s₁ : Shared} {ls : List (Str × Tok)} {Q : Value → Shared → Prop} (f : Str → Bool) (hh : A.handled = none) (F : Fr h₀ L s₁.heap m) (N : News h₀ L s₁.heap news) (hm : (l, PySem.W.listOf (strValues ls).toArray k) ∈ news) (hz : ls.length ≤ 1000)
    (elem : ∀ (x : Str) (t : Tok) I oI C oC D m₂ h tk ys (E' : Value → Shared → Prop), x ∈ ls.map (·.1) → LCg.NsObj oC m₂ → m₂ xn = some (.str x t) → Fr h₀ L h m → News h₀ L h ((I, oI) :: (C, oC) :: (D, LCg.lst ys) :: news) →
      wpAny (model prog w) A (eval elt (compEnvC scope cl C env)) (ElEnd h₀ L m ((I, oI) :: (C, oC) :: (D, LCg.lst ys) :: news) (fun y => y = Value.bool (f x)) { s₁ with heap := h, toks := tk }) E' { s₁ with heap := h, toks := tk })
    (fin : ∀ D k h tk, Fr h₀ L h m → News h₀ L h ((D, PySem.W.listOf (((ls.map (·.1)).map f).map Value.bool).toArray k) :: news) → LCg.Off1 D news → Q (.ref D) { s₁ with heap := h, toks := tk }) :
    MySrc prog w A h₀ L m env elt xn scope cl (fun s₂ => LCg.FinE h₀ L m s₂ Q) (.ref l) s₁ := by
  have hsz : (strValues ls).toArray.size = ls.length := by simp [strValues]
  refine mapVals (fun i y => ∃ x, (ls.map (·.1))[i]? = some x ∧ y = Value.bool (f x)) hh F N hm (by omega) ?_ ?_
  · intro i v I oI C oC D m₂ h tk ys E' hv hC hx F₁ N₁
    obtain ⟨x, t, e1, rfl, e2⟩ := strs_at' hv
    refine wpAny_mono (elem x t I oI C oC D m₂ h tk ys E' e2 hC hx F₁ N₁) (fun y s₂ hy => ?_) fun _ _ e => e
    obtain ⟨h', tk', rfl, F', N', r⟩ := hy
    exact ⟨h', tk', rfl, F', N', x, e1, r⟩
  · intro D ys k h tk hl hr F₂ N₂ o1
    have e := bools_of' (xs := ls.map (·.1)) (f := f) (by rw [hl, hsz, List.length_map]) hr
    subst e
    exact fin D k h tk F₂ N₂ o1
theorem mapStrsI {env : Env} {elt : PySem.Expr} {xn : Str} {scope : Scope} {cl : List (Str × Addr)} {k : Nat} {s₁ : Shared} {ls : List (Str × Tok)} {Q : Value → Shared → Prop} (f : Str → Int) (hh : A.handled = none) (F : Fr h₀ L s₁.heap m) (N : News h₀ L s₁.heap news) (hm : (l, PySem.W.listOf (strValues ls).toArray k) ∈ news) (hz : ls.length ≤ 1000)
    (elem : ∀ (x : Str) (t : Tok) I oI C oC D m₂ h tk ys (E' : Value → Shared → Prop), x ∈ ls.map (·.1) → LCg.NsObj oC m₂ → m₂ xn = some (.str x t) → Fr h₀ L h m → News h₀ L h ((I, oI) :: (C, oC) :: (D, LCg.lst ys) :: news) →
      wpAny (model prog w) A (eval elt (compEnvC scope cl C env)) (ElEnd h₀ L m ((I, oI) :: (C, oC) :: (D, LCg.lst ys) :: news) (fun y => ∃ t, y = Value.int (f x) t) { s₁ with heap := h, toks := tk }) E' { s₁ with heap := h, toks := tk })
    (fin : ∀ D ws k h tk, IntsAre ws ((ls.map (·.1)).map f) → Fr h₀ L h m → News h₀ L h ((D, PySem.W.listOf (List.toArray ws) k) :: news) → LCg.Off1 D news → Q (.ref D) { s₁ with heap := h, toks := tk }) :
    MySrc prog w A h₀ L m env elt xn scope cl (fun s₂ => LCg.FinE h₀ L m s₂ Q) (.ref l) s₁ := by
  have hsz : (strValues ls).toArray.size = ls.length := by simp [strValues]
  refine mapVals (fun i y => ∃ x t, (ls.map (·.1))[i]? = some x ∧ y = Value.int (f x) t) hh F N hm (by omega) ?_ ?_
  · intro i v I oI C oC D m₂ h tk ys E' hv hC hx F₁ N₁
    obtain ⟨x, t, e1, rfl, e2⟩ := strs_at' hv
    refine wpAny_mono (elem x t I oI C oC D m₂ h tk ys E' e2 hC hx F₁ N₁) (fun y s₂ hy => ?_) fun _ _ e => e
    obtain ⟨h', tk', rfl, F', N', t', r⟩ := hy
    exact ⟨h', tk', rfl, F', N', x, t', e1, r⟩
  · intro D ys k h tk hl hr F₂ N₂ o1
    refine fin D ys k h tk (intsAre_of (by rw [hl, hsz, List.length_map, List.length_map]) fun i z hz => ?_) F₂ N₂ o1
    obtain ⟨x, t, e1, e2⟩ := hr i z hz
    exact ⟨f x, t, by rw [List.getElem?_map, e1]; rfl, e2⟩
theorem assignComp {env : Env} {elt iter : PySem.Expr} {x y : Str} {px py : Pos} {scope : Scope} {cl : List (Str × Addr)} {pos spos : Pos} {Q : Flow → Shared → Prop} (F₀ : Fr h₀ L s.heap m) (hLe : env.locals = L)
    (hsw : swapsWith (.ListComp elt [⟨.Name x px, iter, [], 0⟩] scope pos) (some (.Name y py)) spos.line env = pure true)
    (hclos : closureFor scope env = pure cl) (hcell : ∀ z ∈ scope.names, z.2 ≠ .cell) (hkind : scope.kind = .function)
    (hnames : ∀ z ∈ scope.names, z.2 = .local → scope.names.lookup z.1 = some .local) (hx : scope.names.lookup x = some .local)
    (hy : env.kindOf y = some .local) (hp : (env.scope.kind == .class || (env.scope.kind == .module && env.locals != env.globals)) = false)
    (h : wpAny (model prog w) A (eval iter env) (MySrc prog w A h₀ L m env elt x scope cl (fun s₂ => LCg.FinA h₀ L m s₂ y Q)) E s)
    (hs : ∀ x, foldedSetIterable iter env x = pure x := by intro _; rfl) :
    wpAny (model prog w) A (exec (.Assign [.Name y py] (.ListComp elt [⟨.Name x px, iter, [], 0⟩] scope pos) spos) env) Q E s :=
  LCg.Assign_ListComp_U F₀ hLe hsw hclos hcell hkind hnames hx hy hp h hs
/-- two lists of numbers compared -/
theorem eqL {a b : Addr} {vs us : List Value} {ns ms : List Int} {j k : Nat} {Q : Value → Shared → Prop} (N : News h₀ L s.heap news) (ma : (a, PySem.W.listOf vs.toArray j) ∈ news) (mb : (b, PySem.W.listOf us.toArray k) ∈ news) (hi : IntsAre vs ns) (hj : IntsAre us ms) (hu : A.units + 64 < cLine) (h : Q (.bool (decide (ns = ms))) s) :
    wpAny (model prog w) A (compareOp .Eq (.ref a) (.ref b)) Q E s := ke_eq_ints (N.isList ma) (N.isList mb) hi hj hu h
theorem reads_strs {h : Heap} : ∀ ls : List (Str × Tok), ReadsAll h (strValues ls) ((ls.map (·.1)).map PyData.str) []
  | [] => .nil
  | p :: r => readsAll_cons_val (.str p.1 p.2) (reads_strs r)
theorem canLay_strs : ∀ xs : List Str, (∀ x ∈ xs, PyData.strOk x = true) → PyData.canLayAll0 (xs.map PyData.str) = true
  | [], _ => rfl
  | x :: r, h => by simp [PyData.canLayAll0, PyData.canLay0, canLay_strs r (fun y hy => h y (.tail _ hy)), h x (.head _)]
theorem depth_strs : ∀ xs : List Str, PyData.depthAll (xs.map PyData.str) = 0
  | [] => rfl
  | _ :: r => by simp [PyData.depthAll, PyData.depth, depth_strs r]
theorem eqvAll_strs : ∀ xs : List Str, PyData.eqvAll (xs.map PyData.str) (xs.map PyData.str) = true
  | [] => by simp [PyData.eqvAll]
  | _ :: r => by simp [PyData.eqvAll, PyData.eqv, eqvAll_strs r]
theorem bools_same {bs cs : List Bool} {T D : Addr} {k n : Nat} {Q : Value → Shared → Prop} (N : News h₀ L s.heap news) (mT : (T, PySem.W.listOf (bs.map Value.bool).toArray k) ∈ news) (mD : (D, PySem.W.listOf (cs.map Value.bool).toArray n) ∈ news) (he : bs = cs)
    (hu : A.units + 64 < cLine) (h : Q (.bool false) s) : wpAny (model prog w) A (compareOp .NotEq (.ref T) (.ref D)) Q E s :=
  bools_ne N mT mD hu (by rw [decide_eq_true he]; exact h)
/-- two pairs of lists of texts compared, which are the same -/
theorem pairs_same {t t' y n y' n' : Addr} {ly ln ly' ln' : List (Str × Tok)} {c c' k k1 k' k1' : Nat} {Q : Value → Shared → Prop} (N : News h₀ L s.heap news)
    (mt : (t, ({ cls := .type "tuple", data := .seq #[.ref y, .ref n] c } : Obj)) ∈ news) (mt' : (t', ({ cls := .type "tuple", data := .seq #[.ref y', .ref n'] c' } : Obj)) ∈ news)
    (my : (y, PySem.W.listOf (strValues ly).toArray k) ∈ news) (mn : (n, PySem.W.listOf (strValues ln).toArray k1) ∈ news) (my' : (y', PySem.W.listOf (strValues ly').toArray k') ∈ news) (mn' : (n', PySem.W.listOf (strValues ln').toArray k1') ∈ news)
    (e1 : ly.map (·.1) = ly'.map (·.1)) (e2 : ln.map (·.1) = ln'.map (·.1)) (h1 : ∀ x ∈ ly.map (·.1), PyData.strOk x = true) (h2 : ∀ x ∈ ln.map (·.1), PyData.strOk x = true)
    (hu : A.units + 64 < cLine) (h : Q (.bool false) s) : wpAny (model prog w) A (compareOp .NotEq (.ref t) (.ref t')) Q E s := by
  have rd : ∀ {t y n : Addr} {ly ln : List (Str × Tok)} {c k k1 : Nat}, (t, ({ cls := .type "tuple", data := .seq #[.ref y, .ref n] c } : Obj)) ∈ news → (y, PySem.W.listOf (strValues ly).toArray k) ∈ news → (n, PySem.W.listOf (strValues ln).toArray k1) ∈ news →
      ∃ as, Reads s.heap (.ref t) (.tuple [.list ((ly.map (·.1)).map .str), .list ((ln.map (·.1)).map .str)]) as := fun a b c =>
    ⟨_, reads_tuple_at (N.get a) rfl rfl (.cons (reads_list_at (N.get b) rfl rfl (by simpa using reads_strs _)) (.cons (reads_list_at (N.get c) rfl rfl (by simpa using reads_strs _)) .nil))⟩
  obtain ⟨as, ra⟩ := rd mt my mn
  obtain ⟨bs, rb⟩ := rd mt' my' mn'
  rw [← e1, ← e2] at rb
  have sh : SeqAt.shaped (.tuple [.list ((ly.map (·.1)).map .str), .list ((ln.map (·.1)).map .str)]) = true := by
    have q1 := canLay_strs _ h1
    have q2 := canLay_strs _ h2
    simp only [SeqAt.shaped, PyData.canLay0, PyData.canLayAll0, PyData.depth, PyData.depthAll, q1, q2, depth_strs]
    rfl
  refine ne_dataH ra rb sh sh hu ?_
  have : PyData.eqv (.tuple [.list ((ly.map (·.1)).map .str), .list ((ln.map (·.1)).map .str)]) (.tuple [.list ((ly.map (·.1)).map .str), .list ((ln.map (·.1)).map .str)]) = true := by
    simp only [PyData.eqv, PyData.eqvAll, eqvAll_strs, Bool.and_self]
  rw [this]
  exact h
end
theorem pick5 {h₀ h : Heap} {L : Addr} {a0 a1 a2 a3 a4 a5 a6 a7 a8 a9 a10 a11 a12 a13 : Addr × Obj} {tl : List (Addr × Obj)} (N : News h₀ L h (a0 :: a1 :: a2 :: a3 :: a4 :: a5 :: a6 :: a7 :: a8 :: a9 :: a10 :: a11 :: a12 :: a13 :: tl)) : News h₀ L h (a6 :: a1 :: a2 :: a0 :: a5 :: a7 :: a8 :: a12 :: a13 :: tl) :=
  have H : ∀ p ∈ a6 :: a1 :: a2 :: a0 :: a5 :: a7 :: a8 :: a12 :: a13 :: tl, p ∈ a0 :: a1 :: a2 :: a3 :: a4 :: a5 :: a6 :: a7 :: a8 :: a9 :: a10 :: a11 :: a12 :: a13 :: tl := List.forall_mem_cons.mpr ⟨List.mem_of_getElem? (i := 6) rfl, List.forall_mem_cons.mpr ⟨List.mem_of_getElem? (i := 1) rfl, List.forall_mem_cons.mpr ⟨List.mem_of_getElem? (i := 2) rfl, List.forall_mem_cons.mpr ⟨List.mem_of_getElem? (i := 0) rfl, List.forall_mem_cons.mpr ⟨List.mem_of_getElem? (i := 5) rfl, List.forall_mem_cons.mpr ⟨List.mem_of_getElem? (i := 7) rfl, List.forall_mem_cons.mpr ⟨List.mem_of_getElem? (i := 8) rfl, List.forall_mem_cons.mpr ⟨List.mem_of_getElem? (i := 12) rfl, List.forall_mem_cons.mpr ⟨List.mem_of_getElem? (i := 13) rfl, fun _ h => List.mem_of_mem_drop (i := 14) (l := a0 :: a1 :: a2 :: a3 :: a4 :: a5 :: a6 :: a7 :: a8 :: a9 :: a10 :: a11 :: a12 :: a13 :: tl) h⟩⟩⟩⟩⟩⟩⟩⟩⟩
  fun p hp => N p (H p hp)
section
variable {prog : Program} {w : World} {A : Around} {E : Value → Shared → Prop} {s : Shared} {env : Env} {h₀ : Heap} {x : Str} {body : List Stmt} {Q : Flow → Shared → Prop}
noncomputable def DueEnd (x : Str) (m₀ : Str → Option Value) (n2 y : Addr) (base : List (Addr × Obj)) (row : List Int) (ly ln : List (Str × Tok)) (m' : Str → Option Value) (nw : List (Addr × Obj)) : Prop :=
  ∃ (t : Tok) (ky kn : Nat) (u : Option Value), nw = (n2, PySem.W.listOf (strValues (if row = row.reverse then ln else ln ++ [(lawText row, t)])).toArray kn) :: (y, PySem.W.listOf (strValues (if row = row.reverse then ly ++ [(lawText row, t)] else ly)).toArray ky) :: base ∧ m' = (fun z => if z = x then u else m₀ z)
abbrev DueInv (x : Str) (m₀ : Str → Option Value) (n2 y : Addr) (base : List (Addr × Obj)) (tab : List (List Int)) (i : Nat) (m' : Str → Option Value) (nw : List (Addr × Obj)) : Prop :=
  ∃ (ly ln : List (Str × Tok)) (ky kn : Nat), nw = (n2, PySem.W.listOf (strValues ln).toArray kn) :: (y, PySem.W.listOf (strValues ly).toArray ky) :: base ∧ (∃ u, m' = (fun z => if z = x then u else m₀ z)) ∧
      ly.map (·.1) = ((tab.take i).filter (fun row => decide (row = row.reverse))).map lawText ∧ ln.map (·.1) = ((tab.take i).filter (fun row => !decide (row = row.reverse))).map lawText ∧ ly.length + ln.length = min i tab.length
theorem due_go {R n2 y I L : Addr} {oI oR : Obj} {base all : List (Addr × Obj)} {m₀ : Str → Option Value} {kn ky : Nat} {row : List Int} {ly ln ly' ln' : List (Str × Tok)} {t : Tok} {u : Option Value} {s₁ : Shared} {h' : Heap} {tk : Nat}
    (F : Fr h₀ L h' (fun z => if z = x then u else m₀ z)) (N : News h₀ L h' all) (hs : ∀ p ∈ (I, oI) :: (R, oR) :: (n2, PySem.W.listOf (strValues ln').toArray kn) :: (y, PySem.W.listOf (strValues ly').toArray ky) :: base, p ∈ all)
    (e1 : ly' = if row = row.reverse then ly ++ [(lawText row, t)] else ly) (e2 : ln' = if row = row.reverse then ln else ln ++ [(lawText row, t)]) (v2 : @Ne Nat n2 I) (v3 : @Ne Nat y I) (h1 : @Ne Nat n2 R) (h2 : @Ne Nat y R) (hI : ∀ p ∈ base, p.1 ≠ I) (hR : ∀ p ∈ base, p.1 ≠ R) :
    TurnGo h₀ L [(I, oI), (R, oR)] (DueEnd x m₀ n2 y base row ly ln) s₁ { s₁ with heap := h', toks := tk } := by
  subst e1 e2
  exact TurnGo.intro _ F N hs (off2 (List.forall_mem_cons.mpr ⟨⟨v2, h1⟩, List.forall_mem_cons.mpr ⟨⟨v3, h2⟩, fun p hp => ⟨hI p hp, hR p hp⟩⟩⟩)) ⟨t, ky, kn, u, rfl, rfl⟩
theorem iterDue {R n2 y : Addr} {refs : List Value} {tab : List (List Int)} {base tl : List (Addr × Obj)} {m₀ : Str → Option Value} {k kn0 ky0 : Nat}
    (hh : A.handled = none) (F : Fr h₀ env.locals s.heap m₀) (N : News h₀ env.locals s.heap ((R, PySem.W.listOf refs.toArray k) :: (n2, PySem.W.listOf #[] kn0) :: (y, PySem.W.listOf #[] ky0) :: base))
    (hR : RowsIn tl refs tab) (hs : ∀ p ∈ tl, p ∈ base) (h1 : @Ne Nat n2 R) (h2 : @Ne Nat y R) (hbR : ∀ p ∈ base, p.1 ≠ R) (hbn : ∀ p ∈ base, p.1 ≠ n2) (hby : ∀ p ∈ base, p.1 ≠ y)
    (turn : ∀ (row : List Int) (a : Addr) (vs : List Value) (n : Nat) (I : Addr) (oI : Obj) (h : Heap) (tk : Nat) (ly ln : List (Str × Tok)) (ky kn : Nat), row ∈ tab → IntsAre vs row → ly.length + ln.length ≤ tab.length → (@Ne Nat R I) → (@Ne Nat n2 I) → (@Ne Nat y I) → (@Ne Nat a I) → (@Ne Nat a R) → (@Ne Nat a n2) → (@Ne Nat a y) → (∀ p ∈ base, p.1 ≠ I) → (@Ne Nat n2 R) → (@Ne Nat y R) → (∀ p ∈ base, p.1 ≠ R) →
      Fr h₀ env.locals h (fun z => if z = x then some (.ref a) else m₀ z) →
      News h₀ env.locals h ((I, oI) :: (R, PySem.W.listOf refs.toArray k) :: (n2, PySem.W.listOf (strValues ln).toArray kn) :: (y, PySem.W.listOf (strValues ly).toArray ky) :: (a, PySem.W.listOf vs.toArray n) :: base) →
      wpAny (model prog w) A (execs body env) (TurnEnd h₀ env.locals [(I, oI), (R, PySem.W.listOf refs.toArray k)] (DueEnd x m₀ n2 y base row ly ln) Q { s with heap := h, toks := tk }) E { s with heap := h, toks := tk })
    (done : ∀ u h tk (ly ln : List (Str × Tok)) ky kn, ly.map (·.1) = (tab.filter (fun row => decide (row = row.reverse))).map lawText → ln.map (·.1) = (tab.filter (fun row => !decide (row = row.reverse))).map lawText → Fr h₀ env.locals h (fun z => if z = x then u else m₀ z) →
      News h₀ env.locals h ((R, PySem.W.listOf refs.toArray k) :: (n2, PySem.W.listOf (strValues ln).toArray kn) :: (y, PySem.W.listOf (strValues ly).toArray ky) :: base) → Q .next { s with heap := h, toks := tk }) :
    MyIter prog w A h₀ env x body Q E (.ref R) s := by
  have hoff : ∀ p ∈ (n2, PySem.W.listOf #[] kn0) :: (y, PySem.W.listOf #[] ky0) :: base, p.1 ≠ R := List.forall_mem_cons.mpr ⟨h1, List.forall_mem_cons.mpr ⟨h2, hbR⟩⟩
  refine iterL (m₀ := m₀) (news := (n2, PySem.W.listOf #[] kn0) :: (y, PySem.W.listOf #[] ky0) :: base) (DueInv x m₀ n2 y base tab) hh F N hoff ⟨[], [], ky0, kn0, rfl, ⟨m₀ x, ?_⟩, rfl, rfl, by simp⟩ ?_ ?_
  · funext z
    by_cases hz : z = x
    · rw [if_pos hz, hz]
    · rw [if_neg hz]
  · rintro i v m₁ nw I oI h tk hv ⟨ly, ln, ky, kn, rfl, ⟨u, rfl⟩, e1, e2, e3⟩ F₁ N₁ ho hI
    obtain ⟨row, a, vs, n, hr, rfl, hm, hvs⟩ := rowsIn_at hR hv
    have hi : i < tab.length := (List.getElem?_eq_some_iff.mp hr).1
    have htake : tab.take (i + 1) = tab.take i ++ [row] := by rw [List.take_add_one, hr]; rfl
    have hnI := ho _ (List.mem_cons_self)
    have hyI := ho _ (List.mem_cons_of_mem _ (List.mem_cons_self))
    have hma := hs _ hm
    have haI := ho _ (List.mem_cons_of_mem _ (List.mem_cons_of_mem _ hma))
    have eF : (fun z => if z = x then some (Value.ref a) else if z = x then u else m₀ z) = (fun z => if z = x then some (Value.ref a) else m₀ z) := by
      funext z
      by_cases hz : z = x
      · rw [if_pos hz, if_pos hz]
      · rw [if_neg hz, if_neg hz, if_neg hz]
    rw [eF] at F₁
    have N₂ : News h₀ env.locals h ((I, oI) :: (R, PySem.W.listOf refs.toArray k) :: (n2, PySem.W.listOf (strValues ln).toArray kn) :: (y, PySem.W.listOf (strValues ly).toArray ky) :: (a, PySem.W.listOf vs.toArray n) :: base) := fun p hp => by
      rcases List.mem_cons.mp hp with rfl | hp
      · exact N₁ _ (.head _)
      rcases List.mem_cons.mp hp with rfl | hp
      · exact N₁ _ (.tail _ (.head _))
      rcases List.mem_cons.mp hp with rfl | hp
      · exact N₁ _ (.tail _ (.tail _ (.head _)))
      rcases List.mem_cons.mp hp with rfl | hp
      · exact N₁ _ (.tail _ (.tail _ (.tail _ (.head _))))
      rcases List.mem_cons.mp hp with rfl | hp
      · exact N₁ _ (.tail _ (.tail _ (.tail _ (.tail _ hma))))
      exact N₁ _ (.tail _ (.tail _ (.tail _ (.tail _ hp))))
    refine wpAny_mono (turn row a vs n I oI h tk ly ln ky kn (List.mem_of_getElem? hr) hvs (by omega) (Ne.symm hI) hnI.1 hyI.1 haI.1 haI.2 (hbn _ hma) (hby _ hma) (fun p hp => (ho p (List.mem_cons_of_mem _ (List.mem_cons_of_mem _ hp))).1) h1 h2 hbR F₁ N₂) (fun fl s₂ h₂ => ?_) fun _ _ e => e
    have key : TurnGo h₀ env.locals [(I, oI), (R, PySem.W.listOf refs.toArray k)] (DueEnd x m₀ n2 y base row ly ln) { s with heap := h, toks := tk } s₂ →
        TurnGo h₀ env.locals [(I, oI), (R, PySem.W.listOf refs.toArray k)] (DueInv x m₀ n2 y base tab (i + 1)) { s with heap := h, toks := tk } s₂ := by
      rintro ⟨h', tk', m', nw', e, F', N', ho', t, ky', kn', u', rfl, rfl⟩
      refine ⟨h', tk', _, _, e, F', N', ho', _, _, ky', kn', rfl, ⟨u', rfl⟩, ?_, ?_, ?_⟩
      · rw [htake, List.filter_append, List.map_append, ← e1]
        by_cases hf : row = row.reverse
        · rw [if_pos hf, List.filter_cons_of_pos (by simpa using hf)]; simp
        · rw [if_neg hf, List.filter_cons_of_neg (by simpa using hf)]; simp
      · rw [htake, List.filter_append, List.map_append, ← e2]
        by_cases hf : row = row.reverse
        · rw [if_pos hf, List.filter_cons_of_neg (by simpa using hf)]; simp
        · rw [if_neg hf, List.filter_cons_of_pos (by simpa using hf)]; simp
      · by_cases hf : row = row.reverse
        · rw [if_pos hf, if_pos hf, List.length_append, List.length_cons, List.length_nil]; omega
        · rw [if_neg hf, if_neg hf, List.length_append, List.length_cons, List.length_nil]; omega
    cases fl with
    | ret r => exact h₂
    | brk => exact h₂
    | next => exact key h₂
    | cont => exact key h₂
  · rintro m₁ nw h tk ⟨ly, ln, ky, kn, rfl, ⟨u, rfl⟩, e1, e2, e3⟩ F₁ N₁ ho
    rw [List.size_toArray, hR.1, List.take_length] at e1 e2
    exact done u h tk ly ln ky kn e1 e2 F₁ N₁
end
theorem pick6 {h₀ h : Heap} {L : Addr} {a0 a1 a2 a3 a4 a5 a6 a7 a8 : Addr × Obj} {tl : List (Addr × Obj)} (N : News h₀ L h (a0 :: a1 :: a2 :: a3 :: a4 :: a5 :: a6 :: a7 :: a8 :: tl)) : News h₀ L h (a4 :: a0 :: a1 :: a2 :: a3 :: a5 :: a6 :: a7 :: a8 :: tl) :=
  have H : ∀ p ∈ a4 :: a0 :: a1 :: a2 :: a3 :: a5 :: a6 :: a7 :: a8 :: tl, p ∈ a0 :: a1 :: a2 :: a3 :: a4 :: a5 :: a6 :: a7 :: a8 :: tl := List.forall_mem_cons.mpr ⟨List.mem_of_getElem? (i := 4) rfl, List.forall_mem_cons.mpr ⟨List.mem_of_getElem? (i := 0) rfl, List.forall_mem_cons.mpr ⟨List.mem_of_getElem? (i := 1) rfl, List.forall_mem_cons.mpr ⟨List.mem_of_getElem? (i := 2) rfl, List.forall_mem_cons.mpr ⟨List.mem_of_getElem? (i := 3) rfl, List.forall_mem_cons.mpr ⟨List.mem_of_getElem? (i := 5) rfl, List.forall_mem_cons.mpr ⟨List.mem_of_getElem? (i := 6) rfl, List.forall_mem_cons.mpr ⟨List.mem_of_getElem? (i := 7) rfl, List.forall_mem_cons.mpr ⟨List.mem_of_getElem? (i := 8) rfl, fun _ h => List.mem_of_mem_drop (i := 9) (l := a0 :: a1 :: a2 :: a3 :: a4 :: a5 :: a6 :: a7 :: a8 :: tl) h⟩⟩⟩⟩⟩⟩⟩⟩⟩
  fun p hp => N p (H p hp)
theorem pick7 {h₀ h : Heap} {L : Addr} {a0 a1 a2 a3 a4 a5 a6 a7 a8 a9 a10 a11 : Addr × Obj} {tl : List (Addr × Obj)} (N : News h₀ L h (a0 :: a1 :: a2 :: a3 :: a4 :: a5 :: a6 :: a7 :: a8 :: a9 :: a10 :: a11 :: tl)) : News h₀ L h ([a11, a0, a3, a8, a9, a10]) :=
  have H : ∀ p ∈ [a11, a0, a3, a8, a9, a10], p ∈ a0 :: a1 :: a2 :: a3 :: a4 :: a5 :: a6 :: a7 :: a8 :: a9 :: a10 :: a11 :: tl := List.forall_mem_cons.mpr ⟨List.mem_of_getElem? (i := 11) rfl, List.forall_mem_cons.mpr ⟨List.mem_of_getElem? (i := 0) rfl, List.forall_mem_cons.mpr ⟨List.mem_of_getElem? (i := 3) rfl, List.forall_mem_cons.mpr ⟨List.mem_of_getElem? (i := 8) rfl, List.forall_mem_cons.mpr ⟨List.mem_of_getElem? (i := 9) rfl, List.forall_mem_cons.mpr ⟨List.mem_of_getElem? (i := 10) rfl, fun _ h => nomatch h⟩⟩⟩⟩⟩⟩
  fun p hp => N p (H p hp)
theorem pick8 {h₀ h : Heap} {L : Addr} {a0 a1 a2 a3 a4 a5 a6 : Addr × Obj} (N : News h₀ L h ([a0, a1, a2, a3, a4, a5, a6])) : News h₀ L h ([a1, a0, a2, a3, a4, a5, a6]) :=
  have H : ∀ p ∈ [a1, a0, a2, a3, a4, a5, a6], p ∈ [a0, a1, a2, a3, a4, a5, a6] := List.forall_mem_cons.mpr ⟨List.mem_of_getElem? (i := 1) rfl, List.forall_mem_cons.mpr ⟨List.mem_of_getElem? (i := 0) rfl, List.forall_mem_cons.mpr ⟨List.mem_of_getElem? (i := 2) rfl, List.forall_mem_cons.mpr ⟨List.mem_of_getElem? (i := 3) rfl, List.forall_mem_cons.mpr ⟨List.mem_of_getElem? (i := 4) rfl, List.forall_mem_cons.mpr ⟨List.mem_of_getElem? (i := 5) rfl, List.forall_mem_cons.mpr ⟨List.mem_of_getElem? (i := 6) rfl, fun _ h => nomatch h⟩⟩⟩⟩⟩⟩⟩
  fun p hp => N p (H p hp)
end Mine

end
section
set_option maxRecDepth 100000
set_option maxHeartbeats 2000000
namespace Mine
/-- an alignment of two words that costs no more than the number -/
inductive Al : List Nat → List Nat → Int → Prop
  | nil {c : Int} : 0 ≤ c → Al [] [] c
  | del {a : Nat} {as bs : List Nat} {c d : Int} : Al as bs c → c + 2 ≤ d → Al (a :: as) bs d
  | ins {b : Nat} {as bs : List Nat} {c d : Int} : Al as bs c → c + 2 ≤ d → Al as (b :: bs) d
  | sub {a b : Nat} {as bs : List Nat} {c d : Int} : Al as bs c → c + cost1 a b ≤ d → Al (a :: as) (b :: bs) d
theorem cost1_def (x y : Nat) : cost1 x y = if x = y then 0 else if (Txt.lower ⟨#[x]⟩ == Txt.lower ⟨#[y]⟩) = true then 1 else 2 := by
  unfold cost1 subCost
  by_cases h : x = y
  · subst h; simp
  · have : ((⟨#[x]⟩ : Str) == ⟨#[y]⟩) = false := by
      rw [beq_eq_false_iff_ne]
      intro e
      injection e with e
      exact h (by simpa using e)
    rw [this, if_neg h]; simp
theorem cost_self (x : Nat) : cost1 x x = 0 := by rw [cost1_def, if_pos rfl]
theorem cost_symm (x y : Nat) : cost1 x y = cost1 y x := by
  rw [cost1_def, cost1_def]
  by_cases h : x = y
  · rw [if_pos h, if_pos h.symm]
  · rw [if_neg h, if_neg (Ne.symm h), Bool.beq_comm]
theorem cost_bounds (x y : Nat) : 0 ≤ cost1 x y ∧ cost1 x y ≤ 2 ∧ (x ≠ y → 1 ≤ cost1 x y) := by
  rw [cost1_def]
  by_cases h : x = y
  · rw [if_pos h]; exact ⟨by omega, by omega, fun g => absurd h g⟩
  · rw [if_neg h]
    split <;> exact ⟨by omega, by omega, fun _ => by omega⟩
theorem cost_tri (x y z : Nat) : cost1 x z ≤ cost1 x y + cost1 y z := by
  have h1 := cost_bounds x y
  have h2 := cost_bounds y z
  have h3 := cost_bounds x z
  by_cases e1 : x = y
  · subst e1; omega
  by_cases e2 : y = z
  · subst e2; omega
  have := h1.2.2 e1
  have := h2.2.2 e2
  omega
theorem Al.mono {as bs : List Nat} {c d : Int} (h : Al as bs c) (hcd : c ≤ d) : Al as bs d := by
  cases h with
  | nil h => exact .nil (by omega)
  | del h e => exact .del h (by omega)
  | ins h e => exact .ins h (by omega)
  | sub h e => exact .sub h (by omega)
theorem Al.nonneg {as bs : List Nat} {c : Int} (h : Al as bs c) : 0 ≤ c := by
  induction h with
  | nil h => exact h
  | del _ e ih => omega
  | ins _ e ih => omega
  | @sub a b _ _ _ _ _ e ih => have := (cost_bounds a b).1; omega
theorem Al.len {as bs : List Nat} {c : Int} (h : Al as bs c) : 2 * ((bs.length : Int) - as.length) ≤ c ∧ 2 * ((as.length : Int) - bs.length) ≤ c := by
  induction h with
  | nil h => simp; omega
  | del _ e ih => simp only [List.length_cons]; omega
  | ins _ e ih => simp only [List.length_cons]; omega
  | @sub a b _ _ _ _ _ e ih => have := (cost_bounds a b).1; simp only [List.length_cons]; omega
theorem Al.refl : ∀ as : List Nat, Al as as 0
  | [] => .nil (by omega)
  | a :: as => .sub (Al.refl as) (by rw [cost_self]; omega)
theorem Al.dels : ∀ as : List Nat, Al as [] (2 * as.length)
  | [] => .nil (by simp)
  | a :: as => .del (Al.dels as) (by simp only [List.length_cons]; omega)
theorem Al.inss : ∀ bs : List Nat, Al [] bs (2 * bs.length)
  | [] => .nil (by simp)
  | a :: as => .ins (Al.inss as) (by simp only [List.length_cons]; omega)
theorem Al.max : ∀ as bs : List Nat, Al as bs (2 * (if (bs.length : Int) > as.length then (bs.length : Int) else as.length))
  | [], bs => (Al.inss bs).mono (by simp only [List.length_nil]; split <;> omega)
  | a :: as, [] => (Al.dels (a :: as)).mono (by simp only [List.length_nil, List.length_cons]; split <;> omega)
  | a :: as, b :: bs => .sub (Al.max as bs) (by
      have := (cost_bounds a b).2.1
      simp only [List.length_cons]
      split <;> split <;> omega)
theorem Al.app {as bs cs ds : List Nat} {c d : Int} (h : Al as bs c) (g : Al cs ds d) : Al (as ++ cs) (bs ++ ds) (c + d) := by
  induction h with
  | nil h => exact g.mono (by omega)
  | del _ e ih => exact .del ih (by omega)
  | ins _ e ih => exact .ins ih (by omega)
  | sub _ e ih => exact .sub ih (by omega)
theorem Al.rev {as bs : List Nat} {c : Int} (h : Al as bs c) : Al as.reverse bs.reverse c := by
  induction h with
  | nil h => exact .nil h
  | @del a _ _ _ _ _ e ih => rw [List.reverse_cons]; have := ih.app (Al.dels [a]); rw [List.append_nil] at this; exact this.mono (by simp; omega)
  | @ins b _ _ _ _ _ e ih => rw [List.reverse_cons]; have := ih.app (Al.inss [b]); rw [List.append_nil] at this; exact this.mono (by simp; omega)
  | @sub a b _ _ _ _ _ e ih => rw [List.reverse_cons, List.reverse_cons]; exact (ih.app (Al.sub (d := cost1 a b) (Al.nil (Int.le_refl 0)) (by omega))).mono e
theorem Al.symm {as bs : List Nat} {c : Int} (h : Al as bs c) : Al bs as c := by
  induction h with
  | nil h => exact .nil h
  | del _ e ih => exact .ins ih e
  | ins _ e ih => exact .del ih e
  | @sub a b _ _ _ _ _ e ih => exact .sub ih (by rw [cost_symm]; exact e)
theorem Al.tri {as bs : List Nat} {c : Int} (h : Al as bs c) : ∀ {cs : List Nat} {d : Int}, Al bs cs d → Al as cs (c + d) := by
  induction h with
  | nil h => intro cs d g; exact g.mono (by omega)
  | del _ e ih => intro cs d g; exact .del (ih g) (by omega)
  | @ins b as bs c₀ c₁ h₀ e ih =>
    intro cs d g
    generalize hb : b :: bs = bb at g
    induction g with
    | nil _ => cases hb
    | @del x _ _ _ _ g' e' _ => cases hb; exact (ih g').mono (by omega)
    | @ins x _ _ _ _ g' e' ih' => exact .ins (ih' hb) (by omega)
    | @sub x y _ _ _ _ g' e' _ => cases hb; have := (cost_bounds b y).1; exact .ins (ih g') (by omega)
  | @sub a b as bs c₀ c₁ h₀ e ih =>
    intro cs d g
    generalize hb : b :: bs = bb at g
    induction g with
    | nil _ => cases hb
    | @del x _ _ _ _ g' e' _ => cases hb; have := (cost_bounds a b).1; exact .del (ih g') (by omega)
    | @ins x _ _ _ _ g' e' ih' => exact .ins (ih' hb) (by omega)
    | @sub x y _ _ _ _ g' e' _ => cases hb; have := cost_tri a b y; exact .sub (ih g') (by omega)
theorem Al.strip1 {x : Nat} {as bs : List Nat} {c : Int} (h : Al (x :: as) (x :: bs) c) : Al as bs c := by
  cases h with
  | del h e => exact (h.tri (Al.del (Al.refl bs) (Int.le_refl _))).mono (by omega)
  | ins h e => exact ((Al.ins (Al.refl as) (Int.le_refl _)).tri h).mono (by omega)
  | sub h e => rw [cost_self] at e; exact h.mono (by omega)
theorem Al.strip : ∀ {p as bs : List Nat} {c : Int}, Al (p ++ as) (p ++ bs) c → Al as bs c
  | [], _, _, _, h => h
  | _ :: _, _, _, _, h => Al.strip h.strip1
/-- the least cost -/
noncomputable def IsMin (as bs : List Nat) (d : Int) : Prop := Al as bs d ∧ ∀ c, Al as bs c → d ≤ c
theorem IsMin.symm {as bs : List Nat} {d : Int} (h : IsMin as bs d) : IsMin bs as d := ⟨h.1.symm, fun c g => h.2 c g.symm⟩
theorem IsMin.rev {as bs : List Nat} {d : Int} (h : IsMin as bs d) : IsMin as.reverse bs.reverse d := ⟨h.1.rev, fun c g => h.2 c (by have := g.rev; rwa [List.reverse_reverse, List.reverse_reverse] at this)⟩
theorem IsMin.dels (as : List Nat) : IsMin as [] (2 * as.length) := ⟨Al.dels as, fun c g => by have := g.len.2; simp at this; omega⟩
theorem IsMin.inss (bs : List Nat) : IsMin [] bs (2 * bs.length) := ⟨Al.inss bs, fun c g => by have := g.len.1; simp at this; omega⟩
theorem IsMin.same (as : List Nat) : IsMin as as 0 := ⟨Al.refl as, fun _ g => g.nonneg⟩
theorem IsMin.step {a b : Nat} {as bs : List Nat} {res d dist : Int} (h1 : IsMin as (b :: bs) d) (h2 : IsMin (a :: as) bs res) (h3 : IsMin as bs dist) : IsMin (a :: as) (b :: bs) (min (min d res + 2) (dist + cost1 b a)) := by
  constructor
  · rcases Int.le_total (min d res + 2) (dist + cost1 b a) with e | e
    · rw [Int.min_eq_left e]
      rcases Int.le_total d res with e2 | e2
      · rw [Int.min_eq_left e2]; exact .del h1.1 (Int.le_refl _)
      · rw [Int.min_eq_right e2]; exact .ins h2.1 (Int.le_refl _)
    · rw [Int.min_eq_right e, cost_symm]; exact .sub h3.1 (Int.le_refl _)
  · intro c g
    cases g with
    | del g e => have := h1.2 _ g; omega
    | ins g e => have := h2.2 _ g; omega
    | sub g e => have := h3.2 _ g; rw [cost_symm] at e; omega
/-- where an alignment passes a place of the second word -/
theorem Al.cutR {as zs : List Nat} {c : Int} (h : Al as zs c) : ∀ {ys bs : List Nat}, zs = ys ++ bs → ∃ a1 a2 c2, as = a1 ++ a2 ∧ Al a2 bs c2 ∧ c2 ≤ c := by
  induction h with
  | @nil c h => intro ys bs e; exact ⟨[], [], c, rfl, by rw [(List.append_eq_nil_iff.mp e.symm).2]; exact .nil h, Int.le_refl _⟩
  | @del a as zs c d h e ih =>
    intro ys bs hz
    obtain ⟨a1, a2, c2, e1, e2, e3⟩ := ih hz
    exact ⟨a :: a1, a2, c2, by rw [e1]; rfl, e2, by omega⟩
  | @ins b as zs c d h e ih =>
    intro ys bs hz
    cases ys with
    | nil => exact ⟨[], as, d, rfl, by rw [← (show b :: zs = bs from hz)]; exact .ins h e, Int.le_refl _⟩
    | cons y ys =>
      obtain ⟨a1, a2, c2, e1, e2, e3⟩ := ih (List.cons.inj hz).2
      exact ⟨a1, a2, c2, e1, e2, by omega⟩
  | @sub a b as zs c d h e ih =>
    intro ys bs hz
    cases ys with
    | nil => exact ⟨[], a :: as, d, rfl, by rw [← (show b :: zs = bs from hz)]; exact .sub h e, Int.le_refl _⟩
    | cons y ys =>
      obtain ⟨a1, a2, c2, e1, e2, e3⟩ := ih (List.cons.inj hz).2
      have := (cost_bounds a b).1
      exact ⟨a :: a1, a2, c2, by rw [e1]; rfl, e2, by omega⟩
/-- an alignment passes a cross line at a place, or over a pair -/
noncomputable def Mid (as bs : List Nat) (k : Nat) (c : Int) : Prop :=
  ∃ i j d c1 c2, i + j + d = k ∧ d ≤ 1 ∧ i + d ≤ as.length ∧ j + d ≤ bs.length ∧ Al (as.take i) (bs.take j) c1 ∧ Al (as.drop (i + d)) (bs.drop (j + d)) c2 ∧ c1 + c2 ≤ c
theorem Mid.zero {as bs : List Nat} {c : Int} (h : Al as bs c) : Mid as bs 0 c := ⟨0, 0, 0, 0, c, rfl, Nat.zero_le _, Nat.zero_le _, Nat.zero_le _, .nil (Int.le_refl 0), h, Int.le_of_eq (Int.zero_add c)⟩
theorem add_shift {c1 c2 c d t : Int} (h : c1 + c2 ≤ c) (e : c + t ≤ d) : c1 + t + c2 ≤ d := by omega
theorem Mid.del {a : Nat} {as bs : List Nat} {k : Nat} {c d : Int} (h : Mid as bs k c) (e : c + 2 ≤ d) : Mid (a :: as) bs (k + 1) d := by
  obtain ⟨i, j, q, c1, c2, e1, e2, e3, e4, g1, g2, e5⟩ := h
  refine ⟨i + 1, j, q, c1 + 2, c2, by omega, e2, by rw [List.length_cons]; omega, e4, .del g1 (Int.le_refl _), ?_, add_shift e5 e⟩
  rw [Nat.add_right_comm]; exact g2
theorem Mid.ins {b : Nat} {as bs : List Nat} {k : Nat} {c d : Int} (h : Mid as bs k c) (e : c + 2 ≤ d) : Mid as (b :: bs) (k + 1) d := by
  obtain ⟨i, j, q, c1, c2, e1, e2, e3, e4, g1, g2, e5⟩ := h
  refine ⟨i, j + 1, q, c1 + 2, c2, by omega, e2, e3, by rw [List.length_cons]; omega, .ins g1 (Int.le_refl _), ?_, add_shift e5 e⟩
  rw [Nat.add_right_comm j]; exact g2
theorem Mid.sub {a b : Nat} {as bs : List Nat} {k : Nat} {c d : Int} (h : Mid as bs k c) (e : c + cost1 a b ≤ d) : Mid (a :: as) (b :: bs) (k + 2) d := by
  obtain ⟨i, j, q, c1, c2, e1, e2, e3, e4, g1, g2, e5⟩ := h
  refine ⟨i + 1, j + 1, q, c1 + cost1 a b, c2, by omega, e2, by rw [List.length_cons]; omega, by rw [List.length_cons]; omega, .sub g1 (Int.le_refl _), ?_, add_shift e5 e⟩
  rw [Nat.add_right_comm, Nat.add_right_comm j]; exact g2
theorem Al.mid {as bs : List Nat} {c : Int} (h : Al as bs c) : ∀ k, k ≤ as.length + bs.length → Mid as bs k c := by
  induction h with
  | nil h => intro k hk; cases Nat.le_zero.mp hk; exact Mid.zero (.nil h)
  | del h e ih =>
    intro k hk
    cases k with
    | zero => exact Mid.zero (.del h e)
    | succ k => exact (ih k (by rw [List.length_cons] at hk; omega)).del e
  | ins h e ih =>
    intro k hk
    cases k with
    | zero => exact Mid.zero (.ins h e)
    | succ k => exact (ih k (by rw [List.length_cons] at hk; omega)).ins e
  | @sub a b as bs c d h e ih =>
    intro k hk
    cases k with
    | zero => exact Mid.zero (.sub h e)
    | succ k =>
      cases k with
      | zero =>
        refine ⟨0, 0, 1, 0, c, rfl, Nat.le_refl _, Nat.le_add_left _ _, Nat.le_add_left _ _, .nil (Int.le_refl 0), h, ?_⟩
        have := (cost_bounds a b).1
        omega
      | succ k => exact (ih k (by simp only [List.length_cons] at hk; omega)).sub e
end Mine

end
section
set_option maxRecDepth 100000
set_option maxHeartbeats 2000000
namespace Mine
/-- what a row of the table holds: the least costs of the beginnings -/
noncomputable def RowOk (pb : List Nat) : List Nat → List Nat → List Int → Prop
  | _, [], [] => True
  | pa, a :: as, d :: ds => IsMin (a :: pa) pb d ∧ RowOk pb (a :: pa) as ds
  | _, _, _ => False
theorem RowOk.at {pb : List Nat} : ∀ {pa as : List Nat} {ds : List Int}, RowOk pb pa as ds → ∀ j, j < as.length → ∃ e ∈ ds, IsMin ((as.take (j + 1)).reverse ++ pa) pb e
  | _, [], [], _, j, hj => by simp at hj
  | pa, a :: as, d :: ds, h, 0, _ => ⟨d, .head _, by simpa using h.1⟩
  | pa, a :: as, d :: ds, h, j + 1, hj => by
    obtain ⟨e, h1, h2⟩ := RowOk.at h.2 j (by simpa using hj)
    exact ⟨e, .tail _ h1, by simpa using h2⟩
  | _, [], _ :: _, h, _, _ => h.elim
  | _, _ :: _, [], h, _, _ => h.elim
theorem lvIn_ok {bc : Nat} {pb : List Nat} : ∀ {pa as : List Nat} {ds : List Int} {dist res mn : Int}, IsMin pa pb dist → IsMin pa (bc :: pb) res → RowOk pb pa as ds →
    RowOk (bc :: pb) pa as (lvIn bc as ds dist res mn).1 ∧ IsMin (as.reverse ++ pa) (bc :: pb) (lvIn bc as ds dist res mn).2.1 ∧ (lvIn bc as ds dist res mn).2.2 ≤ mn ∧ ∀ e ∈ (lvIn bc as ds dist res mn).1, (lvIn bc as ds dist res mn).2.2 ≤ e
  | pa, [], [], dist, res, mn, _, h2, _ => ⟨trivial, h2, Int.le_refl _, fun _ h => nomatch h⟩
  | pa, a :: as, d :: ds, dist, res, mn, h1, h2, h3 => by
    have hs := IsMin.step h2 h3.1 h1
    obtain ⟨r1, r2, r3, r4⟩ := lvIn_ok (bc := bc) (pb := pb) (pa := a :: pa) (as := as) (ds := ds) (dist := d) (res := min (min res d + 2) (dist + cost1 bc a)) (mn := if min (min res d + 2) (dist + cost1 bc a) < mn then min (min res d + 2) (dist + cost1 bc a) else mn) h3.1 hs h3.2
    simp only [lvIn]
    refine ⟨⟨hs, r1⟩, by rw [List.reverse_cons, List.append_assoc]; exact r2, ?_, ?_⟩
    · refine Int.le_trans r3 ?_
      split <;> omega
    · intro e he
      rcases List.mem_cons.mp he with rfl | he
      · refine Int.le_trans r3 ?_
        split <;> omega
      · exact r4 e he
  | _, [], _ :: _, _, _, _, _, _, h => h.elim
  | _, _ :: _, [], _, _, _, _, _, h => h.elim
/-- told rightly: the least cost, or one more than the bound where it lies above it -/
noncomputable def Told (as bs : List Nat) (mc v : Int) : Prop := IsMin as bs v ∨ (v = mc + 1 ∧ ∀ c, Al as bs c → mc < c)
theorem Told.symm {as bs : List Nat} {mc v : Int} (h : Told as bs mc v) : Told bs as mc v := h.elim (fun h => .inl h.symm) fun h => .inr ⟨h.1, fun c g => h.2 c g.symm⟩
theorem Told.rev {as bs : List Nat} {mc v : Int} (h : Told as bs mc v) : Told as.reverse bs.reverse mc v := h.elim (fun h => .inl h.rev) fun h => .inr ⟨h.1, fun c g => h.2 c (by have := g.rev; rwa [List.reverse_reverse, List.reverse_reverse] at this)⟩
theorem row_over {as pb : List Nat} {ds : List Int} {mc mn : Int} (h : RowOk pb [] as ds) (has : as ≠ []) (hb : pb ≠ []) (hm : ∀ e ∈ ds, mn ≤ e) (ho : mn > mc) {ys : List Nat} {c : Int} (g : Al as.reverse (ys ++ pb) c) : mc < c := by
  obtain ⟨a1, a2, c2, e1, e2, e3⟩ := g.cutR rfl
  have ha : as = a2.reverse ++ a1.reverse := by have := congrArg List.reverse e1; simpa using this
  cases hz : a2.reverse with
  | nil =>
    have h0 : a2 = [] := by simpa using hz
    subst h0
    have l1 := e2.len.1
    simp only [List.length_nil] at l1
    cases as with
    | nil => exact absurd rfl has
    | cons a as =>
      cases ds with
      | nil => exact h.elim
      | cons d ds =>
        have := h.1.2 _ (Al.max [a] pb)
        have hd := hm d (.head _)
        have : 1 ≤ pb.length := by cases pb with | nil => exact absurd rfl hb | cons _ _ => simp
        simp only [List.length_cons, List.length_nil] at *
        split at * <;> omega
  | cons z zs =>
    have hl : (z :: zs).length ≤ as.length := by rw [ha, hz]; simp
    obtain ⟨e, h1, h2⟩ := h.at zs.length (by simp only [List.length_cons] at hl; omega)
    have ht : as.take (zs.length + 1) = z :: zs := by rw [ha, hz]; simp
    rw [ht, ← hz, List.reverse_reverse, List.append_nil] at h2
    have := h2.2 _ e2
    have := hm e h1
    omega
theorem lvOut_ok {as : List Nat} {mc : Int} (has : as ≠ []) : ∀ {bs pb : List Nat} {row : List Int} {res : Int}, RowOk pb [] as row → (pb ≠ [] → IsMin as.reverse pb res) → (bs ++ pb ≠ []) →
    Told as.reverse (bs.reverse ++ pb) mc (lvOut as mc bs (pb.length : Int) row res)
  | [], pb, row, res, h1, h2, h3 => .inl (h2 (by simpa using h3))
  | b :: bs, pb, row, res, h1, h2, h3 => by
    have hd : IsMin [] pb ((pb.length : Int) * 2) := by have := IsMin.inss pb; rwa [Int.mul_comm] at this
    have hd' : IsMin [] (b :: pb) ((pb.length : Int) * 2 + 2) := by have := IsMin.inss (b :: pb); rw [List.length_cons] at this; exact (by omega : (pb.length : Int) * 2 + 2 = 2 * ((pb.length + 1 : Nat) : Int)) ▸ this
    obtain ⟨r1, r2, r3, r4⟩ := lvIn_ok (mn := 9223372036854775807) hd hd' h1
    have e : lvIn b as row ((pb.length : Int) * 2) ((pb.length : Int) * 2) 9223372036854775807 = lvIn b as row ((pb.length : Int) * 2) ((pb.length : Int) * 2 + 2) 9223372036854775807 := by
      cases as with
      | nil => exact absurd rfl has
      | cons a as =>
        cases row with
        | nil => exact h1.elim
        | cons d ds =>
          have hc := (cost_bounds b a)
          have : min (min ((pb.length : Int) * 2) d + 2) ((pb.length : Int) * 2 + cost1 b a) = min (min ((pb.length : Int) * 2 + 2) d + 2) ((pb.length : Int) * 2 + cost1 b a) := by omega
          simp only [lvIn, this]
    simp only [lvOut]
    rw [e]
    split
    · rename_i ho
      refine .inr ⟨rfl, fun c g => ?_⟩
      rw [List.reverse_cons, List.append_assoc] at g
      exact row_over r1 has (by simp) r4 ho g
    · have := lvOut_ok (mc := mc) has (bs := bs) (pb := b :: pb) r1 (fun _ => by rw [List.append_nil] at r2; exact r2) (by simp)
      rw [List.reverse_cons, List.append_assoc]
      rw [List.length_cons, Int.natCast_add] at this
      exact this
theorem rowInit_ok : ∀ (pa as : List Nat), RowOk [] pa as ((List.range as.length).map fun (k : Nat) => 2 * (pa.length : Int) + 2 + (k : Int) * 2)
  | _, [] => trivial
  | pa, a :: as => by
    rw [List.length_cons, List.range_succ_eq_map, List.map_cons]
    refine ⟨?_, ?_⟩
    · have := IsMin.dels (a :: pa)
      rw [List.length_cons] at this
      exact (by omega : 2 * (pa.length : Int) + 2 + ((0 : Nat) : Int) * 2 = 2 * ((pa.length + 1 : Nat) : Int)) ▸ this
    · have := rowInit_ok (a :: pa) as
      rw [List.map_map]
      refine (congrArg (RowOk [] (a :: pa) as) (List.map_congr_left fun k _ => ?_)) ▸ this
      simp only [Function.comp, List.length_cons]
      omega
theorem levCore_ok {x y : Str} {mc : Int} (hx : x.cps.toList ≠ []) (hy : y.cps.toList ≠ []) : Told x.cps.toList y.cps.toList mc (levCore x y mc) := by
  unfold levCore
  split
  · rename_i h
    refine .inr ⟨rfl, fun c g => ?_⟩
    have := g.len.1
    have e1 : (x.cps.toList.length : Int) = x.length := by simp [Str.length]
    have e2 : (y.cps.toList.length : Int) = y.length := by simp [Str.length]
    omega
  · have h := lvOut_ok (mc := mc) hx (bs := y.cps.toList) (pb := []) (row := rowInit x.length) (res := 0) (by
      have := rowInit_ok [] x.cps.toList
      have e1 : x.cps.toList.length = x.length := by simp [Str.length]
      rw [e1] at this
      unfold rowInit
      refine (congrArg (RowOk [] [] x.cps.toList) (List.map_congr_left fun k _ => ?_)) ▸ this
      simp) (fun h => absurd rfl h) (by simpa using hy)
    have h2 := h.rev
    simpa using h2
theorem levSwap_ok {x y : Str} {mc : Int} (hx : x.cps.toList ≠ []) (hy : y.cps.toList ≠ []) : Told x.cps.toList y.cps.toList mc (levSwap x y mc) := by
  unfold levSwap
  split
  · exact (levCore_ok hy hx).symm
  · exact levCore_ok hx hy
theorem preL_take : ∀ a b : List Nat, a.take (preL a b) = b.take (preL a b)
  | [], b => by simp [preL]
  | a :: as, [] => by simp [preL]
  | a :: as, b :: bs => by
    unfold preL
    by_cases h : a = b
    · subst h
      simp [preL_take as bs, Nat.add_comm 1]
    · simp [h]
theorem strip_pre {a b : List Nat} {k : Nat} (h : a.take k = b.take k) {mc v : Int} (g : Told (a.drop k) (b.drop k) mc v) : Told a b mc v := by
  have ea : a = a.take k ++ a.drop k := (List.take_append_drop k a).symm
  have eb : b = a.take k ++ b.drop k := by rw [h]; exact (List.take_append_drop k b).symm
  have key : ∀ c, Al a b c → Al (a.drop k) (b.drop k) c := fun c q => by
    rw [ea, eb] at q
    simpa using q.strip
  have key2 : ∀ c, Al (a.drop k) (b.drop k) c → Al a b c := fun c q => by
    have := (Al.refl (a.take k)).app q
    rw [← ea, ← eb] at this
    exact this.mono (by omega)
  rcases g with g | g
  · exact .inl ⟨key2 _ g.1, fun c q => g.2 c (key c q)⟩
  · exact .inr ⟨g.1, fun c q => g.2 c (key c q)⟩
theorem lev_told (a b : Str) (mc : Int) : Told a.cps.toList b.cps.toList mc (levFn a b mc) := by
  have h1 : (lev1 a b).cps.toList = a.cps.toList.drop (preS a b) := by simp [lev1, dropStr]
  have h2 : (lev2 a b).cps.toList = b.cps.toList.drop (preS a b) := by simp [lev2, dropStr]
  have n1 : (lev1 a b).cps.toList.length = (lev1 a b).length := by simp [Str.length]
  have n2 : (lev2 a b).cps.toList.length = (lev2 a b).length := by simp [Str.length]
  have h3 : (lev1 a b).cps.toList.reverse.drop (sufS (lev1 a b) (lev2 a b)) = (levA a b).cps.toList.reverse := by
    rw [List.drop_reverse, n1]; simp [levA, takeStr]
  have h4 : (lev2 a b).cps.toList.reverse.drop (sufS (lev1 a b) (lev2 a b)) = (levB a b).cps.toList.reverse := by
    rw [List.drop_reverse, n2]; simp [levB, takeStr]
  have up : ∀ v, Told (levA a b).cps.toList (levB a b).cps.toList mc v → Told a.cps.toList b.cps.toList mc v := fun v g => by
    refine strip_pre (k := preS a b) (preL_take _ _) ?_
    rw [← h1, ← h2]
    have q := g.rev
    rw [← h3, ← h4] at q
    have := (strip_pre (k := sufS (lev1 a b) (lev2 a b)) (preL_take _ _) q).rev
    rwa [List.reverse_reverse, List.reverse_reverse] at this
  have lA : (levA a b).length = (levA a b).cps.toList.length := by simp [Str.length]
  have lB : (levB a b).length = (levB a b).cps.toList.length := by simp [Str.length]
  unfold levFn
  split
  · rename_i h
    rw [eq_of_beq h]
    exact .inl (IsMin.same _)
  · split
    · rename_i h
      refine up _ (.inl ?_)
      rw [lA, lB] at h ⊢
      rcases h with h | h
      · rw [List.eq_nil_of_length_eq_zero h]
        simpa using IsMin.inss (levB a b).cps.toList
      · rw [List.eq_nil_of_length_eq_zero h]
        simpa using IsMin.dels (levA a b).cps.toList
    · rename_i h
      rw [lA, lB] at h
      refine up _ (levSwap_ok ?_ ?_)
      · intro e; exact h (.inl (by rw [e]; rfl))
      · intro e; exact h (.inr (by rw [e]; rfl))
end Mine

end
section
set_option maxRecDepth 100000
set_option maxHeartbeats 2000000
namespace Mine
noncomputable def absI (x : Int) : Int := if x < 0 then -x else x
theorem sgn_cost : ∀ x y : Int, 0 ≤ x → x < 4 → 0 ≤ y → y < 4 → cost1 (sgn x) (sgn y) = if x.fdiv 2 = y.fdiv 2 then (if x - y < 0 then -(x - y) else x - y) else 2 := by
  have key : ∀ i : Fin 4, ∀ j : Fin 4, cost1 (sgn (i.val : Int)) (sgn (j.val : Int)) = if ((i.val : Int)).fdiv 2 = ((j.val : Int)).fdiv 2 then (if (i.val : Int) - (j.val : Int) < 0 then -((i.val : Int) - (j.val : Int)) else (i.val : Int) - (j.val : Int)) else 2 := by decide +kernel
  intro x y h1 h2 h3 h4
  have := key ⟨x.toNat, by omega⟩ ⟨y.toNat, by omega⟩
  simpa only [Int.toNat_of_nonneg h1, Int.toNat_of_nonneg h3] using this
theorem mx_l (a b : Nat) : (if (b : Int) > ((a + 1 : Nat) : Int) then (b : Int) else ((a + 1 : Nat) : Int)) ≤ (if (b : Int) > (a : Int) then (b : Int) else (a : Int)) + 1 := by split <;> split <;> omega
theorem mx_r (a b : Nat) : (if ((b + 1 : Nat) : Int) > (a : Int) then ((b + 1 : Nat) : Int) else (a : Int)) ≤ (if (b : Int) > (a : Int) then (b : Int) else (a : Int)) + 1 := by split <;> split <;> omega
theorem mx_b (a b : Nat) : (if ((b + 1 : Nat) : Int) > ((a + 1 : Nat) : Int) then ((b + 1 : Nat) : Int) else ((a + 1 : Nat) : Int)) ≤ (if (b : Int) > (a : Int) then (b : Int) else (a : Int)) + 1 := by split <;> split <;> omega
theorem mx_0 {u v c d : Int} (h : v ≤ u + 1) (ih : 2 * u ≤ c) (e : c + 2 ≤ d) : 2 * v ≤ d := by omega
theorem mx_1 {u v c d t : Int} (h : v ≤ u + 1) (ih : t + 2 * u ≤ c) (e : c + 2 ≤ d) : t + 2 * v ≤ d := by omega
theorem mx_gap {i j k m : Nat} (hk : k < i) (hm : m < j) : (if ((j - m - 1 : Nat) : Int) > ((i - k - 1 : Nat) : Int) then ((j - m - 1 : Nat) : Int) else ((i - k - 1 : Nat) : Int)) = (if (j : Int) - m > (i : Int) - k then (j : Int) - m else (i : Int) - k) - 1 := by split <;> split <;> omega
/-- the last pair of signs of one letter in an alignment -/
theorem Al.lastPair {as bs : List Nat} {c : Int} (h : Al as bs c) :
    2 * (if (bs.length : Int) > as.length then (bs.length : Int) else as.length) ≤ c ∨
    ∃ a1 a a2 b1 b b2 c2, as = a1 ++ a :: a2 ∧ bs = b1 ++ b :: b2 ∧ cost1 a b < 2 ∧ Al a2 b2 c2 ∧ c2 + cost1 a b + 2 * (if (b1.length : Int) > a1.length then (b1.length : Int) else a1.length) ≤ c := by
  induction h with
  | nil h => exact .inl h
  | @del a as bs c d h e ih =>
    rcases ih with ih | ⟨a1, x, a2, b1, y, b2, c2, rfl, rfl, h1, h2, h3⟩
    · exact .inl (mx_0 (mx_l _ _) ih e)
    · exact .inr ⟨a :: a1, x, a2, b1, y, b2, c2, rfl, rfl, h1, h2, mx_1 (mx_l _ _) h3 e⟩
  | @ins b as bs c d h e ih =>
    rcases ih with ih | ⟨a1, x, a2, b1, y, b2, c2, rfl, rfl, h1, h2, h3⟩
    · exact .inl (mx_0 (mx_r _ _) ih e)
    · exact .inr ⟨a1, x, a2, b :: b1, y, b2, c2, rfl, rfl, h1, h2, mx_1 (mx_r _ _) h3 e⟩
  | @sub a b as bs c d h e ih =>
    by_cases hc : cost1 a b < 2
    · exact .inr ⟨[], a, as, [], b, bs, c, rfl, rfl, hc, h, (Int.add_zero _).symm ▸ e⟩
    · have e' : c + 2 ≤ d := by have := (cost_bounds a b).2.1; omega
      rcases ih with ih | ⟨a1, x, a2, b1, y, b2, c2, rfl, rfl, h1, h2, h3⟩
      · exact .inl (mx_0 (mx_b _ _) ih e')
      · exact .inr ⟨a :: a1, x, a2, b :: b1, y, b2, c2, rfl, rfl, h1, h2, mx_1 (mx_b _ _) h3 e'⟩
theorem fold_le {α : Type} {g : Int → α → Int} (hg : ∀ l x, g l x ≤ l) : ∀ (xs : List α) (l : Int), xs.foldl g l ≤ l
  | [], _ => Int.le_refl _
  | x :: xs, l => Int.le_trans (fold_le hg xs (g l x)) (hg l x)
theorem fold_at {α : Type} {g : Int → α → Int} (hg : ∀ l x, g l x ≤ l) {c : Int} : ∀ (xs : List α) (l : Int) (x : α), x ∈ xs → (∀ l, g l x ≤ c) → xs.foldl g l ≤ c
  | y :: xs, l, x, hx, hc => by
    rcases List.mem_cons.mp hx with rfl | hx
    · exact Int.le_trans (fold_le hg xs _) (hc l)
    · exact fold_at hg xs (g l y) x hx hc
theorem fold_inv {α : Type} {g : Int → α → Int} {P : Int → Prop} : ∀ (xs : List α) (l : Int), P l → (∀ l x, x ∈ xs → P l → P (g l x)) → P (xs.foldl g l)
  | [], _, h, _ => h
  | x :: xs, l, h, hg => fold_inv xs (g l x) (hg l x (.head _) h) (fun l y hy => hg l y (.tail _ hy))
theorem lsM_le {one two : List Int} {tab : List (List Int)} {i j k : Nat} (l : Int) (m : Nat) : lsM one two tab i j k l m ≤ l := by
  unfold lsM
  split
  · split <;> omega
  · exact Int.le_refl _
theorem lsM_at {one two : List Int} {tab : List (List Int)} {i j k m : Nat} (h : (one.getD k 0).fdiv 2 = (two.getD m 0).fdiv 2) (l : Int) : lsM one two tab i j k l m ≤ lsV one two tab i j k m := by
  unfold lsM
  rw [if_pos h]
  split <;> omega
theorem cell_base {one two : List Int} {tab : List (List Int)} {i j : Nat} : cellF one two tab i j ≤ 2 * (if (j : Int) > (i : Int) then (j : Int) else (i : Int)) :=
  fold_le (fun _ _ => fold_le lsM_le _ _) _ _
theorem cell_at {one two : List Int} {tab : List (List Int)} {i j k m : Nat} (hk : k < i) (hm : m < j) (h : (one.getD k 0).fdiv 2 = (two.getD m 0).fdiv 2) : cellF one two tab i j ≤ lsV one two tab i j k m :=
  fold_at (fun _ _ => fold_le lsM_le _ _) _ _ k (List.mem_range.mpr hk) fun _ => fold_at lsM_le _ _ m (List.mem_range.mpr hm) (lsM_at h)
theorem cell_inv {one two : List Int} {tab : List (List Int)} {i j : Nat} {P : Int → Prop} (h0 : P (2 * (if (j : Int) > (i : Int) then (j : Int) else (i : Int)))) (h : ∀ k m, k < i → m < j → (one.getD k 0).fdiv 2 = (two.getD m 0).fdiv 2 → P (lsV one two tab i j k m)) : P (cellF one two tab i j) :=
  fold_inv _ _ h0 fun _ k hk hl => fold_inv _ _ hl fun l m hm hl => by
    unfold lsM
    split
    · split
      · exact h k m (List.mem_range.mp hk) (List.mem_range.mp hm) (by assumption)
      · exact hl
    · exact hl
noncomputable def codes (W : List Int) : List Nat := W.map sgn
theorem lawText_codes (W : List Int) : (lawText W).cps.toList = codes W := rfl
theorem codes_len (W : List Int) : (codes W).length = W.length := List.length_map _
theorem codes_at {W : List Int} {k : Nat} (hk : k < W.length) : (codes W)[k]? = some (sgn (W.getD k 0)) := by
  unfold codes
  rw [List.getElem?_map, List.getD_eq_getElem?_getD, List.getElem?_eq_getElem hk]; rfl
noncomputable def pre (L : List Nat) (i : Nat) : List Nat := (L.take i).reverse
theorem pre_len {L : List Nat} {i : Nat} (h : i ≤ L.length) : (pre L i).length = i := by simp [pre]; omega
theorem pre_split {L : List Nat} {i k x : Nat} (hk : k < i) (hi : i ≤ L.length) (hx : L[k]? = some x) : ∃ r, r.length = i - k - 1 ∧ pre L i = r ++ x :: pre L k := by
  refine ⟨((L.take i).drop (k + 1)).reverse, by simp; omega, ?_⟩
  unfold pre
  have h1 : L.take i = L.take k ++ x :: (L.take i).drop (k + 1) := by
    have h2 : (L.take i).take k = L.take k := by rw [List.take_take, Nat.min_eq_left (by omega)]
    have h3 : (L.take i).drop k = x :: (L.take i).drop (k + 1) := by
      have hl : k < (L.take i).length := by simp; omega
      rw [List.drop_eq_getElem_cons hl]
      congr 1
      have : (L.take i)[k]? = some x := by rw [List.getElem?_take_of_lt hk]; exact hx
      rw [List.getElem?_eq_getElem hl] at this
      exact Option.some.inj this
    rw [← h3, ← h2]
    exact (List.take_append_drop k _).symm
  conv => lhs; rw [h1]
  simp
theorem pre_parts {L a1 a2 : List Nat} {i a : Nat} (hi : i ≤ L.length) (h : pre L i = a1 ++ a :: a2) : a2.length < i ∧ a2 = pre L a2.length ∧ L[a2.length]? = some a ∧ a1.length = i - a2.length - 1 := by
  have hl := congrArg List.length h
  rw [pre_len hi] at hl
  simp only [List.length_append, List.length_cons] at hl
  have h1 : L.take i = a2.reverse ++ a :: a1.reverse := by
    have := congrArg List.reverse h
    unfold pre at this
    simpa using this
  have h2 : L.take a2.length = a2.reverse := by
    have : (L.take i).take a2.length = a2.reverse := by rw [h1]; simp
    rwa [List.take_take, Nat.min_eq_left (by omega)] at this
  refine ⟨by omega, ?_, ?_, by omega⟩
  · unfold pre; rw [h2]; simp
  · have : (L.take i)[a2.length]? = some a := by rw [h1]; simp
    rwa [List.getElem?_take_of_lt (by omega)] at this
theorem tabOf_get (one two : List Int) : ∀ n i, i < n → (tabOf one two n).getD i [] = rowF one two (tabOf one two i) i
  | 0, _, h => absurd h (Nat.not_lt_zero _)
  | n + 1, i, h => by
    rw [tabOf, List.getD_eq_getElem?_getD]
    by_cases hi : i < n
    · rw [List.getElem?_append_left (by rw [tabOf_len]; exact hi), ← List.getD_eq_getElem?_getD, tabOf_get one two n i hi]
    · have e : i = n := by omega
      subst e
      rw [List.getElem?_append_right (by rw [tabOf_len]; exact Nat.le_refl _), tabOf_len, Nat.sub_self]; rfl
theorem rowF_get (one two : List Int) (tab : List (List Int)) (i : Nat) {j : Nat} (h : j ≤ two.length) : (rowF one two tab i).getD j 0 = cellF one two tab i j := by
  unfold rowF
  rw [List.getD_eq_getElem?_getD, List.getElem?_map, List.getElem?_range (by omega)]; rfl
theorem cell_fin {t c2 u v c : Int} (hm : t ≤ c2) (hle : c2 + u + 2 * (v - 1) ≤ c) : t + u + 2 * v - 2 ≤ c := by omega
theorem cell_min {one two : List Int} (h1 : ∀ x ∈ one, 0 ≤ x ∧ x < 4) (h2 : ∀ x ∈ two, 0 ≤ x ∧ x < 4) : ∀ i, i ≤ one.length → ∀ j, j ≤ two.length → IsMin (pre (codes one) i) (pre (codes two) j) (cellF one two (tabOf one two i) i j) := by
  intro i
  induction i using Nat.strongRecOn with
  | _ i ih =>
  intro hi j hj
  have g1 : ∀ k, k < one.length → 0 ≤ one.getD k 0 ∧ one.getD k 0 < 4 := fun k hk => by
    rw [List.getD_eq_getElem?_getD, List.getElem?_eq_getElem hk]; exact h1 _ (List.getElem_mem hk)
  have g2 : ∀ k, k < two.length → 0 ≤ two.getD k 0 ∧ two.getD k 0 < 4 := fun k hk => by
    rw [List.getD_eq_getElem?_getD, List.getElem?_eq_getElem hk]; exact h2 _ (List.getElem_mem hk)
  have hent : ∀ k m, k < i → m ≤ two.length → ((tabOf one two i).getD k []).getD m 0 = cellF one two (tabOf one two k) k m := fun k m hk hm => by
    rw [tabOf_get one two i k hk, rowF_get one two _ k hm]
  have li : (pre (codes one) i).length = i := pre_len (by rw [codes_len]; exact hi)
  have lj : (pre (codes two) j).length = j := pre_len (by rw [codes_len]; exact hj)
  constructor
  · refine cell_inv (P := fun v => Al (pre (codes one) i) (pre (codes two) j) v) ?_ ?_
    · have := Al.max (pre (codes one) i) (pre (codes two) j)
      rw [li, lj] at this
      exact this
    · intro k m hk hm he
      obtain ⟨r, hr, er⟩ := pre_split hk (by rw [codes_len]; exact hi) (codes_at (show k < one.length by omega))
      obtain ⟨q, hq, eq⟩ := pre_split hm (by rw [codes_len]; exact hj) (codes_at (show m < two.length by omega))
      have hA := (ih k hk (by omega) m (by omega)).1
      rw [← hent k m hk (by omega)] at hA
      have hc := sgn_cost (one.getD k 0) (two.getD m 0) (g1 k (by omega)).1 (g1 k (by omega)).2 (g2 m (by omega)).1 (g2 m (by omega)).2
      rw [if_pos he] at hc
      rw [er, eq]
      refine ((Al.max r q).app (Al.sub hA (Int.le_refl _))).mono ?_
      rw [hr, hq, hc, mx_gap hk hm]
      unfold lsV
      generalize (if one.getD k 0 - two.getD m 0 < 0 then -(one.getD k 0 - two.getD m 0) else one.getD k 0 - two.getD m 0) = u
      generalize ((tabOf one two i).getD k []).getD m 0 = t
      generalize (if (j : Int) - m > (i : Int) - k then (j : Int) - m else (i : Int) - k) = v
      clear hA hc er eq hr hq li lj hent g1 g2 ih hi hj hk hm
      omega
  · intro c h
    rcases h.lastPair with h | ⟨a1, a, a2, b1, b, b2, c2, e1, e2, hc, hA, hle⟩
    · rw [li, lj] at h
      exact Int.le_trans cell_base h
    · obtain ⟨p1, p2, p3, p4⟩ := pre_parts (by rw [codes_len]; exact hi) e1
      obtain ⟨q1, q2, q3, q4⟩ := pre_parts (by rw [codes_len]; exact hj) e2
      rw [codes_at (by omega)] at p3 q3
      have ea := Option.some.inj p3
      have eb := Option.some.inj q3
      have hs := sgn_cost (one.getD a2.length 0) (two.getD b2.length 0) (g1 _ (by omega)).1 (g1 _ (by omega)).2 (g2 _ (by omega)).1 (g2 _ (by omega)).2
      rw [ea, eb] at hs
      have he : (one.getD a2.length 0).fdiv 2 = (two.getD b2.length 0).fdiv 2 := by
        refine Classical.byContradiction fun hn => ?_
        rw [if_neg hn] at hs
        omega
      rw [if_pos he] at hs
      rw [p2, q2] at hA
      have hm := (ih a2.length p1 (by omega) b2.length (by omega)).2 _ hA
      rw [← hent _ _ p1 (by omega)] at hm
      refine Int.le_trans (cell_at p1 q1 he) ?_
      unfold lsV
      rw [← hs]
      rw [p4, q4, mx_gap p1 q1] at hle
      generalize ((tabOf one two i).getD a2.length []).getD b2.length 0 = t at hm ⊢
      generalize (if (j : Int) - b2.length > (i : Int) - a2.length then (j : Int) - b2.length else (i : Int) - a2.length) = v at hle ⊢
      generalize cost1 a b = u at hle ⊢
      exact cell_fin hm hle
theorem price_min {one two : List Int} (h1 : ∀ x ∈ one, 0 ≤ x ∧ x < 4) (h2 : ∀ x ∈ two, 0 ≤ x ∧ x < 4) : IsMin (codes one) (codes two) (priceFn one two) := by
  unfold priceFn
  rw [tabOf_get one two _ _ (Nat.lt_succ_self _), rowF_get one two _ _ (Nat.le_refl _)]
  have := (cell_min h1 h2 one.length (Nat.le_refl _) two.length (Nat.le_refl _)).rev
  unfold pre at this
  rw [List.reverse_reverse, List.reverse_reverse, List.take_of_length_le (by rw [codes_len]; exact Nat.le_refl _), List.take_of_length_le (by rw [codes_len]; exact Nat.le_refl _)] at this
  exact this
theorem codes_rev (W : List Int) : codes W.reverse = (codes W).reverse := List.map_reverse.symm ▸ rfl
end Mine

end
section
set_option maxRecDepth 100000
set_option maxHeartbeats 2000000
namespace Mine
theorem revStr_codes (W : List Int) : (revStr (lawText W)).cps.toList = (codes W).reverse := by
  unfold revStr
  rw [lawText_codes]
theorem price_rev {W : List Int} (hW : ∀ x ∈ W, 0 ≤ x ∧ x < 4) : IsMin (codes W) (codes W).reverse (priceFn W W.reverse) := by
  have := price_min hW (two := W.reverse) (fun x hx => hW x (List.mem_reverse.mp hx))
  rwa [codes_rev] at this
theorem far_law {W : List Int} (hW : ∀ x ∈ W, 0 ≤ x ∧ x < 4) : levFn (lawText W) (revStr (lawText W)) (priceFn W W.reverse) = priceFn W W.reverse := by
  have h := price_rev hW
  rcases lev_told (lawText W) (revStr (lawText W)) (priceFn W W.reverse) with g | g
  · rw [lawText_codes, revStr_codes] at g
    have := g.2 _ h.1
    have := h.2 _ g.1
    omega
  · rw [lawText_codes, revStr_codes] at g
    have := g.2 _ h.1
    omega
noncomputable def mirrors (W O : List Int) : List (List Int) := (rowsAt W O W.length).filter (fun row => decide (row = row.reverse))
theorem rows_up {W O : List Int} {r : List Int} : ∀ m k, r ∈ rowsAt W O m → r ∈ rowsAt W O (m + k)
  | _, 0, h => h
  | m, k + 1, h => by
    show r ∈ rowsAt W O ((m + k) + 1)
    rw [rowsAt]
    exact List.mem_append_left _ (rows_up m k h)
theorem rows_whole (W O : List Int) (m : Nat) : W ++ W.reverse ∈ rowsAt W O m := by
  have := rows_up (W := W) (O := O) (r := W ++ W.reverse) 0 m (by simp [rowsAt])
  rwa [Nat.zero_add] at this
theorem rows_even {W O : List Int} {i m : Nat} (h : i < m) : W.take i ++ (W.take i).reverse ∈ rowsAt W O m := by
  have := rows_up (W := W) (O := O) (r := W.take i ++ (W.take i).reverse) (i + 1) (m - (i + 1)) (by rw [rowsAt]; exact List.mem_append_right _ (.head _))
  rwa [Nat.add_sub_cancel' (by omega)] at this
theorem rows_odd {W O : List Int} {i m : Nat} (h : i < m) : W.take (i + 1) ++ (W.take i).reverse ∈ rowsAt W O m := by
  have := rows_up (W := W) (O := O) (r := W.take (i + 1) ++ (W.take i).reverse) (i + 1) (m - (i + 1)) (by rw [rowsAt]; exact List.mem_append_right _ (.tail _ (.head _)))
  rwa [Nat.add_sub_cancel' (by omega)] at this
theorem even_rev (a : List Int) : (a ++ a.reverse) = (a ++ a.reverse).reverse := by simp
theorem odd_rev {W : List Int} {i : Nat} (h : i < W.length) : W.take (i + 1) ++ (W.take i).reverse = (W.take (i + 1) ++ (W.take i).reverse).reverse := by
  rw [List.take_add_one, List.getElem?_eq_getElem h]
  simp only [Option.toList, List.reverse_append, List.reverse_cons, List.reverse_nil, List.nil_append, List.reverse_reverse, List.append_assoc, List.cons_append]
theorem mirrors_mem {W O : List Int} {r : List Int} (h : r ∈ rowsAt W O W.length) (e : r = r.reverse) : r ∈ mirrors W O := List.mem_filter.mpr ⟨h, by simpa using e⟩
theorem mirrors_ne {W O : List Int} : 0 < (mirrors W O).length := List.length_pos_of_mem (mirrors_mem (rows_whole W O _) (even_rev W))
/-- the nearest mirrored word in the list -/
theorem near_one {W O : List Int} {far : Int} (h : Al (codes W) (codes W).reverse far) : ∃ r ∈ mirrors W O, ∃ c, Al (codes W) (codes r) c ∧ 2 * c ≤ far := by
  have hn : (codes W).length = W.length := codes_len W
  have even : ∀ i, i ≤ W.length → W.take i ++ (W.take i).reverse ∈ mirrors W O := fun i hi => by
    by_cases h1 : i < W.length
    · exact mirrors_mem (rows_even h1) (even_rev _)
    · rw [List.take_of_length_le (by omega)]; exact mirrors_mem (rows_whole W O _) (even_rev W)
  have up : ∀ {u v : List Nat} {c1 c2 : Int}, Al u v.reverse c1 → Al v u.reverse c2 → c1 + c2 ≤ far → ∃ c, Al v u.reverse c ∧ 2 * c ≤ far := fun {u v c1 c2} g1 g2 hs => by
    have g3 := g1.rev.symm
    rw [List.reverse_reverse] at g3
    by_cases hc : c1 ≤ c2
    · exact ⟨c1, g3, by omega⟩
    · exact ⟨c2, g2, by omega⟩
  obtain ⟨i, j, q, c1, c2, e1, eq, e2, e3, g1, g2, hs⟩ := h.mid W.length (by rw [hn]; omega)
  rcases (by omega : q = 0 ∨ q = 1) with rfl | rfl
  · simp only [Nat.add_zero] at e1 e2 e3 g2
    rw [List.take_reverse, hn, show W.length - j = i by omega] at g1
    rw [List.drop_reverse, hn, show W.length - j = i by omega] at g2
    obtain ⟨c, g, hc⟩ := up g1 g2 hs
    refine ⟨_, even i (by omega), c, ?_, hc⟩
    have ec : codes (W.take i ++ (W.take i).reverse) = (codes W).take i ++ ((codes W).take i).reverse := by simp [codes]
    rw [ec]
    have := (Al.refl ((codes W).take i)).app g
    rw [List.take_append_drop] at this
    exact this.mono (by omega)
  · rw [List.take_reverse, hn, show W.length - j = i + 1 by omega] at g1
    rw [List.drop_reverse, hn, show W.length - (j + 1) = i by omega] at g2
    obtain ⟨c, g, hc⟩ := up g1 g2 hs
    have hi : i < W.length := by omega
    refine ⟨_, mirrors_mem (rows_odd hi) (odd_rev hi), c, ?_, hc⟩
    have ec : codes (W.take (i + 1) ++ (W.take i).reverse) = (codes W).take (i + 1) ++ ((codes W).take i).reverse := by simp [codes]
    rw [ec]
    have := (Al.refl ((codes W).take (i + 1))).app g
    rw [List.take_append_drop] at this
    exact this.mono (by omega)
theorem near_law {W O : List Int} {M : Int} (hW : ∀ x ∈ W, 0 ≤ x ∧ x < 4) (hl : W.length ≤ 5) (hm : M ∈ ((mirrors W O).map lawText).map (fun near => levFn (lawText W) near ((priceFn W W.reverse).fdiv 2))) (hle : ∀ a, a ∈ ((mirrors W O).map lawText).map (fun near => levFn (lawText W) near ((priceFn W W.reverse).fdiv 2)) → M ≤ a) : 2 * M = priceFn W W.reverse ∧ 0 ≤ M ∧ M ≤ 10 := by
  have h := price_rev hW
  rw [Int.fdiv_eq_ediv_of_nonneg _ (by decide)] at hm hle
  generalize priceFn W W.reverse = far at h hm hle
  have h0 := h.1.nonneg
  have h10 : far ≤ 10 := by
    have := h.2 _ (Al.max _ _)
    simp only [List.length_reverse, codes_len] at this
    split at this <;> omega
  have low : far ≤ 2 * M := by
    obtain ⟨t, ht, rfl⟩ := List.mem_map.mp hm
    obtain ⟨r, hr, rfl⟩ := List.mem_map.mp ht
    have hrev : (codes r).reverse = codes r := by
      have := (List.mem_filter.mp hr).2
      have e : r = r.reverse := by simpa using this
      rw [← codes_rev, ← e]
    rcases lev_told (lawText W) (lawText r) (far / 2) with g | g
    · rw [lawText_codes, lawText_codes] at g
      have g1 := g.1.rev.symm
      rw [hrev] at g1
      have := h.2 _ (g.1.tri g1)
      omega
    · rw [g.1]; omega
  have up : 2 * M ≤ far := by
    obtain ⟨r, hr, c, hc, h2⟩ := near_one (O := O) h.1
    have hM := hle _ (List.mem_map.mpr ⟨lawText r, List.mem_map.mpr ⟨r, hr, rfl⟩, rfl⟩)
    rcases lev_told (lawText W) (lawText r) (far / 2) with g | g
    · rw [lawText_codes, lawText_codes] at g
      have := g.2 _ hc
      omega
    · rw [lawText_codes, lawText_codes] at g
      have := g.2 _ hc
      omega
  omega
end Mine

end
section
set_option maxRecDepth 100000
set_option maxHeartbeats 2000000
namespace Mine
noncomputable def sL (l : List Nat) : Str := ⟨l.toArray⟩
theorem sL_list (l : List Nat) : (sL l).cps.toList = l := rfl
theorem sL_len (l : List Nat) : (sL l).length = l.length := by simp [sL, Str.length]
theorem sL_app (a b : List Nat) : sL a ++ sL b = sL (a ++ b) := by
  apply Str.ext'
  apply Array.toList_inj.mp
  simp only [Str.cps_append, Array.toList_append, sL_list]
theorem sL_inj {a b : List Nat} (h : sL a = sL b) : a = b := by
  have := congrArg (fun x : Str => x.cps.toList) h
  simpa [sL] using this
theorem sL_beq (a b : List Nat) : (sL a == sL b) = decide (a = b) := by
  by_cases h : a = b
  · subst h; simp
  · rw [decide_eq_false h, beq_eq_false_iff_ne]
    exact fun e => h (sL_inj e)
noncomputable def dots3 : List Nat := [46, 46, 46]
theorem mkDots_sL : mkDots = sL dots3 := by decide +kernel
open Builtin Builtin.Str StrLaws in
theorem at_iff {x y : List Nat} {hi k : Nat} : At (sL x) (sL y) hi k ↔ k + y.length ≤ hi ∧ (x.drop k).take y.length = y := by
  unfold At
  rw [subAt_eq, sL_len, sL_list, sL_list, beq_iff_eq]
open Builtin Builtin.Str StrLaws in
theorem at_dot {x : List Nat} {hi k : Nat} (h : At (sL x) (sL dots3) hi k) : x[k]? = some 46 := by
  have := (at_iff.mp h).2
  have h2 := congrArg (fun l => l[0]?) this
  simpa [dots3, List.getElem?_take, List.getElem?_drop] using h2
open Builtin Builtin.Str StrLaws in
theorem chain_det {s sub : Str} {hi : Nat} : ∀ {cuts cuts' : List Nat} {a f f' : Nat}, ChainG s sub hi a cuts f → (∀ k, f ≤ k → ¬ At s sub hi k) → ChainG s sub hi a cuts' f' → (∀ k, f' ≤ k → ¬ At s sub hi k) → cuts = cuts'
  | [], [], _, _, _, _, _, _, _ => rfl
  | [], c :: r, a, f, f', h, hn, h', _ => by
    have e : f = a := h
    exact absurd h'.2.1 (hn c (by have := h'.1; omega))
  | c :: r, [], a, f, f', h, _, h', hn' => by
    have e : f' = a := h'
    exact absurd h.2.1 (hn' c (by have := h.1; omega))
  | c :: r, c' :: r', a, f, f', h, hn, h', hn' => by
    have e : c = c' := by
      rcases Nat.lt_trichotomy c c' with g | g | g
      · exact absurd h.2.1 (h'.2.2.1 c h.1 g)
      · exact g
      · exact absurd h'.2.1 (h.2.2.1 c' h'.1 g)
    subst e
    rw [chain_det h.2.2.2 hn h'.2.2.2 hn']
/-- parts glued by dots -/
noncomputable def joinD : List Nat → List (List Nat) → List Nat
  | p, [] => p
  | p, q :: r => p ++ (dots3 ++ joinD q r)
open Builtin Builtin.Str StrLaws in
theorem chain_of {x : List Nat} : ∀ (ps : List (List Nat)) (p : List Nat) (a : Nat), 46 ∉ p → (∀ q ∈ ps, 46 ∉ q) → x.drop a = joinD p ps → a ≤ x.length →
    ∃ cuts f, ChainG (sL x) (sL dots3) x.length a cuts f ∧ (∀ k, f ≤ k → ¬ At (sL x) (sL dots3) x.length k) ∧ partsFrom (sL x) 3 a cuts = (p :: ps).map sL ∧ cuts.length = ps.length
  | [], p, a, hp, _, hx, ha => by
    refine ⟨[], a, rfl, fun k hk hA => ?_, ?_, rfl⟩
    · have := at_dot hA
      have h2 : (x.drop a)[k - a]? = some 46 := by rw [List.getElem?_drop, Nat.add_sub_cancel' hk]; exact this
      rw [hx] at h2
      exact hp (List.mem_of_getElem? h2)
    · show [strSub (sL x) a (sL x).length] = [sL p]
      congr 1
      apply Str.ext'
      apply Array.toList_inj.mp
      rw [strSub_toList, sL_len, sL_list, sL_list, hx]
      have : (joinD p []).length = x.length - a := by rw [← hx]; simp
      exact List.take_of_length_le (by omega)
  | q :: ps, p, a, hp, hps, hx, ha => by
    have hlen := congrArg List.length hx
    simp only [List.length_drop, joinD, List.length_append, dots3, List.length_cons, List.length_nil] at hlen
    have h1 : x.drop (a + p.length) = dots3 ++ joinD q ps := by
      rw [← List.drop_drop, hx, joinD, List.drop_left']
      rfl
    have h2 : x.drop (a + p.length + 3) = joinD q ps := by
      rw [← List.drop_drop, h1]; rfl
    obtain ⟨cuts, f, g1, g2, g3, g4⟩ := chain_of ps q (a + p.length + 3) (hps q (.head _)) (fun r hr => hps r (.tail _ hr)) h2 (by omega)
    refine ⟨(a + p.length) :: cuts, f, ⟨by omega, at_iff.mpr ⟨by simp [dots3]; omega, by rw [h1]; rfl⟩, fun k hk1 hk2 hA => ?_, g1⟩, g2, ?_, by simp [g4]⟩
    · have := at_dot hA
      have h3 : (x.drop a)[k - a]? = some 46 := by rw [List.getElem?_drop, Nat.add_sub_cancel' hk1]; exact this
      rw [hx, joinD, List.getElem?_append_left (by omega)] at h3
      exact hp (List.mem_of_getElem? h3)
    · show strSub (sL x) a (a + p.length) :: partsFrom (sL x) 3 (a + p.length + 3) cuts = sL p :: (q :: ps).map sL
      rw [g3]
      congr 1
      apply Str.ext'
      apply Array.toList_inj.mp
      rw [strSub_toList, sL_list, sL_list, hx, joinD, Nat.add_sub_cancel_left]
      exact List.take_left' rfl
open Builtin Builtin.Str StrLaws in
theorem split_parts {p q : List Nat} {ps : List (List Nat)} (hp : 46 ∉ p) (hps : ∀ r ∈ q :: ps, 46 ∉ r) : (occurrences (sL (joinD p (q :: ps))) mkDots 0 (sL (joinD p (q :: ps))).length 1).isEmpty = false ∧ Txt.split (sL (joinD p (q :: ps))) mkDots = (p :: q :: ps).map sL := by
  obtain ⟨cuts, f, g1, g2, g3, g4⟩ := chain_of (x := joinD p (q :: ps)) (q :: ps) p 0 hp hps rfl (Nat.zero_le _)
  have hd3 : (sL dots3).length = 3 := rfl
  generalize hx : joinD p (q :: ps) = x at g1 g2 g3
  have hL : (sL x).length = x.length := sL_len x
  rw [mkDots_sL]
  cases cuts with
  | nil => simp at g4
  | cons c cuts =>
    have hA := g1.2.1
    have hf : (occurrences (sL x) (sL dots3) 0 (sL x).length 1).isEmpty = false := by
      have := (found_iff (sL x) (sL dots3)).mpr ⟨c, by rw [hL]; exact hA.1, hA.2⟩
      simpa using this
    refine ⟨hf, ?_⟩
    obtain ⟨f', k1, k2⟩ := occ_tight (sL x) (sL dots3) (by rw [hd3]; omega)
    rw [hL] at k1 k2
    have e := chain_det g1 g2 k1 k2
    unfold Txt.split
    rw [if_neg (by
      rw [← mkDots_sL]
      simp only [Bool.or_eq_true, decide_eq_true_eq]
      rintro (h | h)
      · rw [mkDots_sL] at h
        have := hA.1
        omega
      · exact kind_ge _ h), hL, ← e, if_neg (by simp), partsBetween_eq, hd3, g3]
theorem ell_parts {p q got : List Nat} {ps : List (List Nat)} (hp : 46 ∉ p) (hps : ∀ r ∈ q :: ps, 46 ∉ r) : ellFn (sL (joinD p (q :: ps))) (sL got) = ellGo ((p :: q :: ps).map sL) (sL got) := by
  obtain ⟨h1, h2⟩ := split_parts hp hps
  unfold ellFn
  rw [h1, h2, if_neg Bool.false_ne_true]
open Builtin Builtin.Str StrLaws in
theorem ell_plain {p got : List Nat} (hp : 46 ∉ p) : ellFn (sL p) (sL got) = decide (p = got) := by
  have h : (occurrences (sL p) mkDots 0 (sL p).length 1).isEmpty = true := by
    cases hc : (occurrences (sL p) mkDots 0 (sL p).length 1).isEmpty with
    | true => rfl
    | false =>
      obtain ⟨i, h1, h2⟩ := (found_iff (sL p) mkDots).mp (by rw [hc]; rfl)
      rw [mkDots_sL] at h1 h2
      exact absurd (List.mem_of_getElem? (at_dot (hi := (sL p).length) ⟨h1, h2⟩)) hp
  unfold ellFn
  rw [h, if_pos rfl, sL_beq]
theorem starts_iff (g p : List Nat) : Txt.startswith (sL g) (sL p) = decide (p <+: g) := by
  unfold Txt.startswith
  rw [StrLaws.subAt_eq, sL_len, sL_len, sL_list, sL_list, List.drop_zero]
  by_cases h : p <+: g
  · rw [decide_eq_true h]
    obtain ⟨t, rfl⟩ := h
    simp
  · rw [decide_eq_false h]
    have : (g.take p.length == p) = false := by
      rw [beq_eq_false_iff_ne]
      exact fun e => h (e ▸ List.take_prefix _ _)
    rw [this, Bool.and_false]
theorem ends_iff (g p : List Nat) : Txt.endswith (sL g) (sL p) = decide (p <:+ g) := by
  unfold Txt.endswith
  rw [StrLaws.subAt_eq, sL_len, sL_len, sL_list, sL_list]
  by_cases h : p <:+ g
  · rw [decide_eq_true h]
    obtain ⟨t, rfl⟩ := h
    simp
  · rw [decide_eq_false h]
    by_cases hl : p.length ≤ g.length
    · have : ((g.drop (g.length - p.length)).take p.length == p) = false := by
        rw [beq_eq_false_iff_ne]
        intro e
        rw [List.take_of_length_le (by simp; omega)] at e
        exact h (e ▸ List.drop_suffix _ _)
      rw [this, Bool.and_false]
    · rw [decide_eq_false (by omega), Bool.false_and]
theorem fromIndex_nat (n k : Nat) : fromIndex n (k : Int) = k := by
  unfold fromIndex
  rw [if_neg (by omega)]
  omega
theorem upIndex_nat {n e : Nat} (h : e ≤ n) : min (max 0 (if (e : Int) < 0 then (e : Int) + n else (e : Int))).toNat n = e := by
  rw [if_neg (by omega)]
  omega
open Builtin Builtin.Str StrLaws in
theorem find_cases {g y : List Nat} {a e : Nat} (he : e ≤ g.length) : (findTo (sL g) (sL y) a e = -1 ∧ ∀ k : Nat, a ≤ k → ¬ At (sL g) (sL y) e k) ∨ ∃ k : Nat, findTo (sL g) (sL y) a e = (k : Int) ∧ a ≤ k ∧ k + y.length ≤ e ∧ ∀ j : Nat, a ≤ j → j < k → ¬ At (sL g) (sL y) e j := by
  unfold findTo
  rw [sL_len, fromIndex_nat, upIndex_nat he, occ_eq]
  rcases occ_first (sL g) (sL y) e 1 (Nat.le_refl _) (List.range' a (e + 1 - a)) a (fun i hi => (List.mem_range'_1.mp hi).1) with ⟨h0, hn⟩ | ⟨pre, b, post, hl, h0, hA, hn⟩
  · refine .inl ⟨by rw [h0], fun k hk hA => ?_⟩
    have := hA.1
    exact hn k (List.mem_range'_1.mpr ⟨hk, by omega⟩) hA
  · refine .inr ⟨b, ?_, ?_, by have := hA.1; rwa [sL_len] at this, fun j hj1 hj2 => hn j ?_⟩
    · generalize (forIn (List.range' a (e + 1 - a)) ((#[] : Array Nat), a) (occBody (sL g) (sL y) e 1)).run.fst = arr at h0
      have h1 : arr.toList[0]? = some b := by simpa using h0
      cases hL : arr.toList with
      | nil => rw [hL] at h1; cases h1
      | cons c t => rw [hL] at h1; simp at h1; rw [h1]
    · have : b ∈ List.range' a (e + 1 - a) := by rw [hl]; simp
      exact (List.mem_range'_1.mp this).1
    · have hb : b = a + pre.length := by
        have h1 : (List.range' a (e + 1 - a))[pre.length]? = some b := by rw [hl]; simp
        have h2 : pre.length < (List.range' a (e + 1 - a)).length := by rw [hl]; simp
        rw [List.getElem?_range' (by simpa using h2)] at h1
        simpa using h1.symm
      have h1 : (List.range' a (e + 1 - a))[j - a]? = pre[j - a]? := by rw [hl, List.getElem?_append_left (by omega)]
      have h2 : pre.length < (List.range' a (e + 1 - a)).length := by rw [hl]; simp
      rw [List.getElem?_range' (by simp at h2; omega)] at h1
      have h3 : pre[j - a]? = some j := by rw [← h1]; simp; omega
      exact List.mem_of_getElem? h3
theorem find_here {g y : List Nat} {a e : Nat} (he : e ≤ g.length) (h1 : a + y.length ≤ e) (h2 : (g.drop a).take y.length = y) : findTo (sL g) (sL y) a e = (a : Int) := by
  have hA := at_iff.mpr ⟨h1, h2⟩
  rcases find_cases (y := y) (a := a) he with ⟨_, hn⟩ | ⟨k, hk, hak, _, hn⟩
  · exact absurd hA (hn a (Nat.le_refl _))
  · have : k = a := by
      refine Classical.byContradiction fun hne => ?_
      exact hn a (Nat.le_refl _) (by omega) hA
    rw [hk, this]
theorem find_none {g y : List Nat} {a e : Nat} (he : e ≤ g.length) (h1 : e < a + y.length) : findTo (sL g) (sL y) a e = -1 := by
  rcases find_cases (y := y) (a := a) he with ⟨h, _⟩ | ⟨k, _, hak, hk, _⟩
  · exact h
  · omega
end Mine

end
section
set_option maxRecDepth 100000
set_option maxHeartbeats 2000000
namespace Mine
theorem lawText_sL (W : List Int) : lawText W = sL (W.map sgn) := rfl
theorem sgn_dot (x : Int) : sgn x ≠ 46 := by
  unfold sgn
  split
  · decide
  · split
    · decide
    · split <;> decide
theorem no_dot (W : List Int) : 46 ∉ W.map sgn := fun h => by
  obtain ⟨x, _, e⟩ := List.mem_map.mp h
  exact sgn_dot x e
/-- middle parts, with an empty one behind -/
theorem mid_end {g : List Nat} {e : Nat} (he : e ≤ g.length) : ∀ (ms : List (List Nat)) (p : Nat), p ≤ e → midFn (sL g) e (ms.map sL ++ [sL []]) p = midFn (sL g) e (ms.map sL) p
  | [], p, hp => by
    simp only [List.map_nil, List.nil_append, midFn]
    rw [find_here he (by simpa using hp) (by simp), if_neg (by omega)]
  | w :: ms, p, hp => by
    simp only [List.map_cons, List.cons_append, midFn]
    rcases find_cases (g := g) (y := w) (a := p) he with ⟨h, _⟩ | ⟨k, h, _, hk, _⟩
    · rw [h]; rfl
    · rw [h, sL_len, ← Int.natCast_add, mid_end he ms (k + w.length) hk]
theorem mid_start {g : List Nat} {e : Nat} (he : e ≤ g.length) (ms : List Str) : midFn (sL g) e (sL [] :: ms) 0 = midFn (sL g) e ms 0 := by
  have : findTo (sL g) (sL []) ((0 : Nat) : Int) e = ((0 : Nat) : Int) := find_here he (by simp) (by simp)
  simp only [midFn]
  rw [show (0 : Int) = ((0 : Nat) : Int) from rfl, this, if_neg (by omega), sL_len]
  rfl
/-- what _ellipsis_match tells of a pattern's parts -/
theorem ellGo_eval (p q g : List Nat) (ms : List (List Nat)) :
    ellGo (sL p :: (ms.map sL ++ [sL q])) (sL g) = if p <+: g ∧ q <:+ g ∧ p.length + q.length ≤ g.length then midFn (sL g) ((g.length - q.length : Nat) : Int) (ms.map sL) p.length else false := by
  have go3 : ∀ (ws : List Str) (a b : Nat), b ≤ g.length → ellGo3 ws (sL g) a b = if a ≤ b then midFn (sL g) b ws a else false := fun ws a b _ => by
    unfold ellGo3
    by_cases h : a ≤ b
    · rw [if_pos h, if_neg (by omega)]
    · rw [if_neg h, if_pos (by omega)]
  have lastD : ∀ l : List Str, (l ++ [sL q]).getLastD Str.empty = sL q := fun l => by simp
  have dropL : ∀ l : List Str, (l ++ [sL q]).dropLast = l := fun l => by simp
  have go2 : ∀ (l : List (List Nat)) (a : Nat), ellGo2 (l.map sL ++ [sL q]) (sL g) a = if q <:+ g ∧ a + q.length ≤ g.length then midFn (sL g) ((g.length - q.length : Nat) : Int) (l.map sL) a else false := fun l a => by
    unfold ellGo2
    rw [lastD, dropL, sL_len, sL_len, ends_iff]
    by_cases hq : q.length = 0
    · have hq' : q = [] := List.eq_nil_of_length_eq_zero hq
      subst hq'
      rw [if_pos (show ([] : List Nat).length = 0 from rfl), go3 _ _ _ (Nat.le_refl _)]
      simp only [List.length_nil, Nat.sub_zero, Nat.add_zero, List.nil_suffix, true_and]
      by_cases ha : a ≤ g.length
      · rw [if_pos ha, if_pos ha, mid_end (Nat.le_refl _) l a ha]
      · rw [if_neg ha, if_neg ha]
    · rw [if_neg hq]
      by_cases hs : q <:+ g
      · have hl := hs.length_le
        rw [decide_eq_true hs, if_pos rfl]
        rw [show (g.length : Int) - (q.length : Int) = ((g.length - q.length : Nat) : Int) by omega, go3 _ _ _ (by omega)]
        by_cases ha : a + q.length ≤ g.length
        · rw [if_pos (by omega), if_pos ⟨hs, ha⟩]
        · rw [if_neg (by omega), if_neg (fun h => ha h.2)]
      · rw [decide_eq_false hs, if_neg Bool.false_ne_true, if_neg (fun h => hs h.1)]
  unfold ellGo
  change (if (sL p).length = 0 then ellGo2 (sL p :: (ms.map sL ++ [sL q])) (sL g) 0 else if Txt.startswith (sL g) (sL p) = true then ellGo2 (ms.map sL ++ [sL q]) (sL g) (sL p).length else false) = _
  rw [sL_len, starts_iff]
  by_cases hp : p.length = 0
  · have hp' : p = [] := List.eq_nil_of_length_eq_zero hp
    subst hp'
    rw [if_pos (show ([] : List Nat).length = 0 from rfl)]
    have := go2 ([] :: ms) 0
    simp only [List.map_cons, List.cons_append] at this
    rw [show (0 : Int) = ((0 : Nat) : Int) from rfl, this]
    simp only [List.nil_prefix, true_and, List.length_nil, Nat.zero_add]
    by_cases h : q <:+ g ∧ q.length ≤ g.length
    · rw [if_pos h, if_pos h]
      exact mid_start (by omega) _
    · rw [if_neg h, if_neg h]
  · rw [if_neg hp]
    by_cases hs : p <+: g
    · rw [decide_eq_true hs, if_pos rfl, go2 ms p.length]
      simp only [hs, true_and]
    · rw [decide_eq_false hs, if_neg Bool.false_ne_true, if_neg (fun h => hs h.1)]
theorem eqs_one {W row : List Int} (hW : ∀ x ∈ W, 0 ≤ x ∧ x < 4) (hb : ∀ x ∈ row, 0 ≤ x ∧ x < 4) : ellFn (lawText W) (lawText row) = decide (row = W) := by
  rw [lawText_sL, lawText_sL, ell_plain (no_dot W)]
  have inj : ∀ a b : List Int, (∀ x ∈ a, 0 ≤ x ∧ x < 4) → (∀ x ∈ b, 0 ≤ x ∧ x < 4) → a.map sgn = b.map sgn → a = b := by
    have one : ∀ x y : Int, 0 ≤ x ∧ x < 4 → 0 ≤ y ∧ y < 4 → sgn x = sgn y → x = y := by
      intro x y hx hy h
      unfold sgn at h
      split at h <;> split at h <;> (try split at h) <;> (try split at h) <;> (try split at h) <;> (try split at h) <;> omega
    intro a
    induction a with
    | nil => intro b _ _ h; cases b with | nil => rfl | cons _ _ => simp at h
    | cons x a ih =>
      intro b ha hb h
      cases b with
      | nil => simp at h
      | cons y b =>
        simp only [List.map_cons, List.cons.injEq] at h
        rw [one x y (ha x (.head _)) (hb y (.head _)) h.1, ih b (fun z hz => ha z (.tail _ hz)) (fun z hz => hb z (.tail _ hz)) h.2]
  by_cases h : row = W
  · subst h; simp
  · rw [decide_eq_false h, decide_eq_false (fun e => h (inj _ _ hb hW e.symm))]
theorem eqs_law {W : List Int} {tab : List (List Int)} (hW : ∀ x ∈ W, 0 ≤ x ∧ x < 4) (hb : ∀ row ∈ tab, ∀ x ∈ row, 0 ≤ x ∧ x < 4) : (tab.map lawText).map (ellFn (lawText W)) = tab.map (fun row => decide (row = W)) := by
  rw [List.map_map]
  exact List.map_congr_left fun row hr => eqs_one hW (hb row hr)
end Mine

end
section
set_option maxRecDepth 100000
set_option maxHeartbeats 2000000
namespace Mine
theorem mid_no {g : List Nat} {s e p : Nat} {ms : List Str} (he : e ≤ g.length) (h : e < p + 1) : midFn (sL g) (e : Int) (sL [s] :: ms) (p : Int) = false := by
  simp only [midFn]
  rw [find_none he (by simpa using h), if_pos (by omega)]
theorem mid_yes {g : List Nat} {s e p : Nat} {ms : List Str} (he : e ≤ g.length) (h : p + 1 ≤ e) (h2 : g[p]? = some s) : midFn (sL g) (e : Int) (sL [s] :: ms) (p : Int) = midFn (sL g) (e : Int) ms ((p + 1 : Nat) : Int) := by
  have hh : (g.drop p).take [s].length = [s] := by
    have hl : p < g.length := by omega
    rw [List.drop_eq_getElem_cons hl]
    rw [List.getElem?_eq_getElem hl] at h2
    rw [Option.some.inj h2]; rfl
  simp only [midFn]
  rw [find_here he (by simpa using h) hh, if_neg (by omega), sL_len]
  rfl
theorem pat_ok {p q g : List Nat} (ms : List (List Nat)) (hp : 46 ∉ p) (hq : 46 ∉ q) (hms : ∀ r ∈ ms, 46 ∉ r) (h1 : p <+: g) (h2 : q <:+ g) (h3 : p.length + q.length ≤ g.length) :
    ellFn (sL (joinD p ((ms ++ [q]).headD [] :: (ms ++ [q]).tail))) (sL g) = midFn (sL g) ((g.length - q.length : Nat) : Int) (ms.map sL) (p.length : Int) := by
  have hall : ∀ r ∈ (ms ++ [q]).headD [] :: (ms ++ [q]).tail, 46 ∉ r := by
    intro r hr
    have hr' : r ∈ ms ++ [q] := by
      cases ms with
      | nil => exact hr
      | cons m ms => exact hr
    rcases List.mem_append.mp hr' with h | h
    · exact hms r h
    · rw [List.mem_singleton.mp h]; exact hq
  rw [ell_parts hp hall]
  have e : (p :: (ms ++ [q]).headD [] :: (ms ++ [q]).tail).map sL = sL p :: (ms.map sL ++ [sL q]) := by
    cases ms with
    | nil => rfl
    | cons m ms => simp
  rw [e, ellGo_eval, if_pos ⟨h1, h2, h3⟩]
theorem pat_no {p q g : List Nat} (ms : List (List Nat)) (hp : 46 ∉ p) (hq : 46 ∉ q) (hms : ∀ r ∈ ms, 46 ∉ r) (h3 : g.length < p.length + q.length) :
    ellFn (sL (joinD p ((ms ++ [q]).headD [] :: (ms ++ [q]).tail))) (sL g) = false := by
  have hall : ∀ r ∈ (ms ++ [q]).headD [] :: (ms ++ [q]).tail, 46 ∉ r := by
    intro r hr
    have hr' : r ∈ ms ++ [q] := by
      cases ms with
      | nil => exact hr
      | cons m ms => exact hr
    rcases List.mem_append.mp hr' with h | h
    · exact hms r h
    · rw [List.mem_singleton.mp h]; exact hq
  rw [ell_parts hp hall]
  have e : (p :: (ms ++ [q]).headD [] :: (ms ++ [q]).tail).map sL = sL p :: (ms.map sL ++ [sL q]) := by
    cases ms with
    | nil => rfl
    | cons m ms => simp
  rw [e, ellGo_eval, if_neg (fun h => by have := h.2.2; omega)]
section
variable {A R : List Nat} {s : Nat} (hA : 46 ∉ A) (hR : 46 ∉ R) (hs : s ≠ 46) (hl : R.length = A.length)
include hA hR hs hl
theorem row0 : [ellFn (sL (A ++ R)) (sL (A ++ R)), ellFn (sL (A ++ R)) (sL (A ++ s :: R)), ellFn (sL (A ++ R)) (sL (A ++ s :: s :: R))] = [true, false, false] := by
  have h : 46 ∉ A ++ R := fun h => (List.mem_append.mp h).elim hA hR
  rw [ell_plain h, ell_plain h, ell_plain h, decide_eq_true rfl, decide_eq_false (fun e => by have := congrArg List.length e; simp only [List.length_append, List.length_cons] at this; omega), decide_eq_false (fun e => by have := congrArg List.length e; simp only [List.length_append, List.length_cons] at this; omega)]
omit hs hl in
theorem row1 : [ellFn (sL (A ++ (dots3 ++ R))) (sL (A ++ R)), ellFn (sL (A ++ (dots3 ++ R))) (sL (A ++ s :: R)), ellFn (sL (A ++ (dots3 ++ R))) (sL (A ++ s :: s :: R))] = [true, true, true] := by
  have k : ∀ M : List Nat, ellFn (sL (A ++ (dots3 ++ R))) (sL (A ++ (M ++ R))) = true := fun M =>
    pat_ok (p := A) (q := R) (g := A ++ (M ++ R)) [] hA hR (fun _ h => nomatch h) (List.prefix_append _ _) ⟨A ++ M, by simp⟩ (by simp only [List.length_append, List.length_cons, List.length_nil]; omega)
  rw [show ellFn (sL (A ++ (dots3 ++ R))) (sL (A ++ R)) = true from k [], show ellFn (sL (A ++ (dots3 ++ R))) (sL (A ++ s :: R)) = true from k [s], show ellFn (sL (A ++ (dots3 ++ R))) (sL (A ++ s :: s :: R)) = true from k [s, s]]
omit hA hR hl in
theorem one_dot : 46 ∉ [s] := fun h => hs (List.mem_singleton.mp h).symm
theorem row2 : [ellFn (sL (A ++ (dots3 ++ ([s] ++ (dots3 ++ R))))) (sL (A ++ R)), ellFn (sL (A ++ (dots3 ++ ([s] ++ (dots3 ++ R))))) (sL (A ++ s :: R)), ellFn (sL (A ++ (dots3 ++ ([s] ++ (dots3 ++ R))))) (sL (A ++ s :: s :: R))] = [false, true, true] := by
  have k : ∀ M : List Nat, ellFn (sL (A ++ (dots3 ++ ([s] ++ (dots3 ++ R))))) (sL (A ++ (M ++ R))) = midFn (sL (A ++ (M ++ R))) ((A.length + M.length : Nat) : Int) [sL [s]] (A.length : Int) := fun M => by
    have := pat_ok (p := A) (q := R) (g := A ++ (M ++ R)) [[s]] hA hR (fun r h => by rw [List.mem_singleton.mp h]; exact one_dot hs) (List.prefix_append _ _) ⟨A ++ M, by simp⟩ (by simp only [List.length_append, List.length_cons, List.length_nil]; omega)
    rw [show (A ++ (M ++ R)).length - R.length = A.length + M.length by simp only [List.length_append]; omega] at this
    exact this
  rw [show ellFn (sL (A ++ (dots3 ++ ([s] ++ (dots3 ++ R))))) (sL (A ++ R)) = false from (k []).trans (mid_no (by simp) (by simp)),
    show ellFn (sL (A ++ (dots3 ++ ([s] ++ (dots3 ++ R))))) (sL (A ++ s :: R)) = true from (k [s]).trans (mid_yes (by simp) (by simp) (by simp)),
    show ellFn (sL (A ++ (dots3 ++ ([s] ++ (dots3 ++ R))))) (sL (A ++ s :: s :: R)) = true from (k [s, s]).trans (mid_yes (by simp) (by simp) (by simp))]
theorem row3 : [ellFn (sL (A ++ (dots3 ++ ([s] ++ (dots3 ++ ([s] ++ (dots3 ++ R))))))) (sL (A ++ R)), ellFn (sL (A ++ (dots3 ++ ([s] ++ (dots3 ++ ([s] ++ (dots3 ++ R))))))) (sL (A ++ s :: R)), ellFn (sL (A ++ (dots3 ++ ([s] ++ (dots3 ++ ([s] ++ (dots3 ++ R))))))) (sL (A ++ s :: s :: R))] = [false, false, true] := by
  have k : ∀ M : List Nat, ellFn (sL (A ++ (dots3 ++ ([s] ++ (dots3 ++ ([s] ++ (dots3 ++ R))))))) (sL (A ++ (M ++ R))) = midFn (sL (A ++ (M ++ R))) ((A.length + M.length : Nat) : Int) [sL [s], sL [s]] (A.length : Int) := fun M => by
    have := pat_ok (p := A) (q := R) (g := A ++ (M ++ R)) [[s], [s]] hA hR (fun r h => by
      have : r = [s] := by simpa using h
      rw [this]; exact one_dot hs) (List.prefix_append _ _) ⟨A ++ M, by simp⟩ (by simp only [List.length_append, List.length_cons, List.length_nil]; omega)
    rw [show (A ++ (M ++ R)).length - R.length = A.length + M.length by simp only [List.length_append]; omega] at this
    exact this
  rw [show ellFn (sL (A ++ (dots3 ++ ([s] ++ (dots3 ++ ([s] ++ (dots3 ++ R))))))) (sL (A ++ R)) = false from (k []).trans (mid_no (by simp) (by simp)),
    show ellFn (sL (A ++ (dots3 ++ ([s] ++ (dots3 ++ ([s] ++ (dots3 ++ R))))))) (sL (A ++ s :: R)) = false from (k [s]).trans ((mid_yes (by simp) (by simp) (by simp)).trans (mid_no (by simp) (by simp))),
    show ellFn (sL (A ++ (dots3 ++ ([s] ++ (dots3 ++ ([s] ++ (dots3 ++ R))))))) (sL (A ++ s :: s :: R)) = true from (k [s, s]).trans ((mid_yes (by simp) (by simp) (by simp)).trans (mid_yes (by simp) (by simp) (by
      rw [List.getElem?_append_right (by omega), Nat.add_sub_cancel_left]; rfl)))]
theorem row4 : [ellFn (sL (A ++ ([s] ++ (dots3 ++ ([s] ++ R))))) (sL (A ++ R)), ellFn (sL (A ++ ([s] ++ (dots3 ++ ([s] ++ R))))) (sL (A ++ s :: R)), ellFn (sL (A ++ ([s] ++ (dots3 ++ ([s] ++ R))))) (sL (A ++ s :: s :: R))] = [false, false, true] := by
  have hp : 46 ∉ A ++ [s] := fun h => (List.mem_append.mp h).elim hA (one_dot hs)
  have hq : 46 ∉ [s] ++ R := fun h => (List.mem_append.mp h).elim (one_dot hs) hR
  have e : A ++ ([s] ++ (dots3 ++ ([s] ++ R))) = joinD (A ++ [s]) [[s] ++ R] := by simp [joinD]
  rw [e]
  rw [show ellFn (sL (joinD (A ++ [s]) [[s] ++ R])) (sL (A ++ R)) = false from pat_no (p := A ++ [s]) (q := [s] ++ R) [] hp hq (fun _ h => nomatch h) (by simp only [List.length_append, List.length_cons, List.length_nil]; omega),
    show ellFn (sL (joinD (A ++ [s]) [[s] ++ R])) (sL (A ++ s :: R)) = false from pat_no (p := A ++ [s]) (q := [s] ++ R) [] hp hq (fun _ h => nomatch h) (by simp only [List.length_append, List.length_cons, List.length_nil]; omega),
    show ellFn (sL (joinD (A ++ [s]) [[s] ++ R])) (sL (A ++ s :: s :: R)) = true from pat_ok (p := A ++ [s]) (q := [s] ++ R) (g := A ++ s :: s :: R) [] hp hq (fun _ h => nomatch h) ⟨s :: R, by simp⟩ ⟨A ++ [s], by simp⟩ (by simp only [List.length_append, List.length_cons, List.length_nil]; omega)]
end
theorem dots_law {W : List Int} {i : Nat} {fi sg la : Str} (hi : i < W.length) (e1 : fi = lawText (List.take (i : Int).toNat W)) (e2 : sg = lawText (List.take (min ((i : Int) + 1).toNat W.length - (i : Int).toNat) (List.drop (i : Int).toNat W))) (e3 : la = lawText (List.take (i : Int).toNat W).reverse) :
    List.map (fun d => List.map (ellFn (fi ++ d ++ la)) [fi ++ la, fi ++ sg ++ la, fi ++ sg ++ sg ++ la]) [Str.ofString "", Str.ofString "...", Str.ofString "..." ++ sg ++ Str.ofString "...", Str.ofString "..." ++ sg ++ Str.ofString "..." ++ sg ++ Str.ofString "...", sg ++ Str.ofString "..." ++ sg] = [[true, false, false], [true, true, true], [false, true, true], [false, false, true], [false, false, true]] := by
  have h0 : (i : Int).toNat = i := by omega
  have h1 : min ((i : Int) + 1).toNat W.length - (i : Int).toNat = 1 := by omega
  rw [h0] at e1 e3
  rw [h1, h0, List.drop_eq_getElem_cons hi] at e2
  have f1 : fi = sL ((W.take i).map sgn) := e1
  have f2 : sg = sL [sgn W[i]] := e2
  have f3 : la = sL ((W.take i).reverse.map sgn) := e3
  have hA := no_dot (W.take i)
  have hR := no_dot (W.take i).reverse
  have hs := sgn_dot W[i]
  have hl : ((W.take i).reverse.map sgn).length = ((W.take i).map sgn).length := by simp
  generalize (W.take i).map sgn = A at f1 hA hl
  generalize (W.take i).reverse.map sgn = R at f3 hR hl
  generalize sgn W[i] = s at f2 hs
  have d0 : Str.ofString "" = sL [] := rfl
  have d3 : Str.ofString "..." = sL dots3 := mkDots_sL
  subst f1 f2 f3
  rw [d0, d3]
  simp only [sL_app, List.map_cons, List.map_nil, List.append_assoc, List.nil_append]
  have r0 := row0 hA hR hs hl
  have r1 := row1 (s := s) hA hR
  have r2 := row2 hA hR hs hl
  have r3 := row3 hA hR hs hl
  have r4 := row4 hA hR hs hl
  simp only [List.cons_append, List.nil_append] at r0 r1 r2 r3 r4 ⊢
  rw [r0, r1, r2, r3, r4]
end Mine

end
section
set_option maxRecDepth 100000
set_option maxHeartbeats 2000000
namespace Mine
theorem sgn_lt (x : Int) : sgn x < 0x110000 := by
  unfold sgn
  split
  · decide
  · split
    · decide
    · split <;> decide
theorem lawText_ok (row : List Int) : PyData.strOk (lawText row) = true := by
  unfold PyData.strOk lawText
  rw [← Array.all_toList, List.all_eq_true]
  intro c hc
  obtain ⟨x, _, rfl⟩ := List.mem_map.mp hc
  exact decide_eq_true (sgn_lt x)
noncomputable def quad (l : List Nat) : List Nat := l.flatMap fun d => [d, d, d, d]
theorem quad_cons (d : Nat) (l : List Nat) : quad (d :: l) = [d, d, d, d] ++ quad l := List.flatMap_cons
theorem quad_len : ∀ l : List Nat, (quad l).length = 4 * l.length
  | [] => rfl
  | d :: l => by rw [quad_cons, List.length_append, quad_len l]; simp only [List.length_cons, List.length_nil]; omega
theorem quad_app (a b : List Nat) : quad (a ++ b) = quad a ++ quad b := List.flatMap_append
theorem quad_rev : ∀ l : List Nat, quad l.reverse = (quad l).reverse
  | [] => rfl
  | d :: l => by rw [List.reverse_cons, quad_app, quad_rev l, quad_cons d l, List.reverse_append]; rfl
theorem quad_at : ∀ (l : List Nat) (q : Nat), (quad l)[4 * q]? = l[q]?
  | [], q => by simp [quad]
  | d :: l, 0 => rfl
  | d :: l, q + 1 => by
    rw [quad_cons, List.getElem?_append_right (by simp only [List.length_cons, List.length_nil]; omega), List.getElem?_cons_succ, ← quad_at l q]
    congr 1
noncomputable def rep4 (l : List Nat) : List Nat := replList 66 [66, 66, 66, 66] (replList 98 [98, 98, 98, 98] (replList 65 [65, 65, 65, 65] (replList 97 [97, 97, 97, 97] l)))
theorem rep4_app (a b : List Nat) : rep4 (a ++ b) = rep4 a ++ rep4 b := by
  unfold rep4
  rw [replList_append, replList_append, replList_append, replList_append]
theorem rep4_one (x : Int) : rep4 [sgn x] = [sgn x, sgn x, sgn x, sgn x] := by
  unfold sgn
  split
  · rfl
  · split
    · rfl
    · split <;> rfl
theorem rep4_quad : ∀ row : List Int, rep4 (row.map sgn) = quad (row.map sgn)
  | [] => rfl
  | x :: row => by
    have : (x :: row).map sgn = [sgn x] ++ row.map sgn := rfl
    rw [this, rep4_app, rep4_quad row, rep4_one]; rfl
theorem repl_quad (row : List Int) : replFn (lawText row) = sL (quad (row.map sgn)) := by
  rw [← rep4_quad]; rfl
theorem repl_len {row : List Int} (hl : row.length ≤ 10) : (replFn (lawText row)).length ≤ 100 := by
  rw [repl_quad, sL_len, quad_len, List.length_map]; omega
theorem pre_of (n : Nat) : preOf ((4 * n : Nat) - 1 : Int) = ((2 * n - 2 : Nat) : Int) := by
  unfold preOf
  rw [Int.fdiv_eq_ediv_of_nonneg _ (by decide)]
  split <;> omega
theorem post_of (n : Nat) : postOf ((4 * n : Nat) - 1 : Int) = ((2 * n - 2 : Nat) : Int) := by
  unfold postOf
  rw [pre_of]
  split <;> omega
theorem palin_of {c : List Nat} (h : ∀ q, 2 * q + 1 < c.length → c[q]? = c.reverse[q]?) : c = c.reverse := by
  apply List.ext_getElem?
  intro q
  by_cases hq : q < c.length
  · by_cases h1 : 2 * q + 1 < c.length
    · exact h q h1
    · rw [List.getElem?_reverse hq]
      by_cases h2 : 2 * q + 1 = c.length
      · congr 1; omega
      · have := h (c.length - 1 - q) (by omega)
        rw [List.getElem?_reverse (by omega)] at this
        rw [this]
        congr 1; omega
  · rw [List.getElem?_eq_none (by omega), List.getElem?_eq_none (by simp; omega)]
theorem sgn_inj : ∀ {a b : List Int}, (∀ x ∈ a, 0 ≤ x ∧ x < 4) → (∀ x ∈ b, 0 ≤ x ∧ x < 4) → a.map sgn = b.map sgn → a = b := by
  intro a b ha hb h
  have := eqs_one ha hb
  rw [lawText_sL, lawText_sL, h, ell_plain (no_dot b), decide_eq_true rfl] at this
  exact (of_decide_eq_true this.symm).symm
theorem mir_core {Z : List Nat} {n : Nat} (hZ : Z.length = 4 * n) (hnd : 46 ∉ Z) : ellFn (cramFn (sL Z) ((4 * n : Nat) - 1 : Int)) (sL Z.reverse) = if Z.take (2 * n - 2) <+: Z.reverse ∧ Z.drop (4 * n - (2 * n - 2)) <:+ Z.reverse ∧ (Z.take (2 * n - 2)).length + (Z.drop (4 * n - (2 * n - 2))).length ≤ Z.reverse.length then true else false := by
  unfold cramFn
  rw [pre_of, post_of]
  have hlen : (sL Z).length = 4 * n := by rw [sL_len, hZ]
  rw [slice_upto _ (by rw [hlen]; omega)]
  rw [show ((sL Z).length : Int) - ((2 * n - 2 : Nat) : Int) = ((4 * n - (2 * n - 2) : Nat) : Int) by rw [hlen]; omega]
  rw [slice_from _ (by rw [hlen]; omega)]
  rw [show Str.ofString "..." = sL dots3 from mkDots_sL]
  have e1 : takeStr (sL Z) (2 * n - 2) = sL (Z.take (2 * n - 2)) := rfl
  have e2 : dropStr (sL Z) (4 * n - (2 * n - 2)) = sL (Z.drop (4 * n - (2 * n - 2))) := rfl
  rw [e1, e2, sL_app, sL_app]
  have hp : 46 ∉ Z.take (2 * n - 2) := fun h => hnd (List.mem_of_mem_take h)
  have hd : 46 ∉ Z.drop (4 * n - (2 * n - 2)) := fun h => hnd (List.mem_of_mem_drop h)
  generalize Z.take (2 * n - 2) = p at hp ⊢
  generalize Z.drop (4 * n - (2 * n - 2)) = q at hd ⊢
  rw [show p ++ dots3 ++ q = joinD p [q] by simp [joinD], ell_parts hp (fun r h => by rw [List.mem_singleton.mp h]; exact hd)]
  exact ellGo_eval p q Z.reverse []
theorem mir_one {row : List Int} (hb : ∀ x ∈ row, 0 ≤ x ∧ x < 4) : mirFn (lawText row) = decide (row = row.reverse) := by
  unfold mirFn
  have hql : (quad (row.map sgn)).length = 4 * row.length := by rw [quad_len, List.length_map]
  have hnd : 46 ∉ quad (row.map sgn) := by
    intro h
    obtain ⟨d, hd, h⟩ := List.mem_flatMap.mp h
    have : (46 : Nat) = d := by simpa using h
    exact no_dot row (this ▸ hd)
  rw [repl_quad, sL_len, hql]
  refine (mir_core hql hnd).trans ?_
  by_cases hpal : row = row.reverse
  · have hc : (quad (row.map sgn)).reverse = quad (row.map sgn) := by rw [← quad_rev, ← List.map_reverse, ← hpal]
    rw [decide_eq_true hpal, hc, if_pos ⟨List.take_prefix _ _, List.drop_suffix _ _, by simp only [List.length_take, List.length_drop, hql]; omega⟩]
  · rw [decide_eq_false hpal, if_neg]
    rintro ⟨h1, _, _⟩
    refine hpal ?_
    rw [← quad_rev] at h1
    have hc : row.map sgn = (row.map sgn).reverse := by
      apply palin_of
      intro q hq2
      rw [List.length_map] at hq2
      have hlt : 4 * q < 2 * row.length - 2 := by omega
      have h2 : ((quad (row.map sgn)).take (2 * row.length - 2))[4 * q]? = (quad (row.map sgn).reverse)[4 * q]? := by
        obtain ⟨t, ht⟩ := h1
        rw [← ht, List.getElem?_append_left (by simp only [List.length_take, hql]; omega)]
      rw [List.getElem?_take_of_lt hlt, quad_at, quad_at] at h2
      exact h2
    rw [← List.map_reverse] at hc
    exact sgn_inj hb (fun x hx => hb x (List.mem_reverse.mp hx)) hc
theorem mir_law {tab : List (List Int)} (hb : ∀ row ∈ tab, ∀ x ∈ row, 0 ≤ x ∧ x < 4) : (tab.map lawText).filter mirFn = (tab.filter (fun row => decide (row = row.reverse))).map lawText ∧ (tab.map lawText).filter (fun v => !mirFn v) = (tab.filter (fun row => !decide (row = row.reverse))).map lawText := by
  rw [List.filter_map, List.filter_map]
  constructor
  · congr 1
    exact List.filter_congr fun row hr => mir_one (hb row hr)
  · congr 1
    exact List.filter_congr fun row hr => by
      show (!mirFn (lawText row)) = _
      rw [mir_one (hb row hr)]
end Mine

end
section
set_option maxRecDepth 100000
set_option maxHeartbeats 2000000
namespace Mine
theorem revStr_len (x : Str) : (revStr x).length = x.length := by simp [revStr, Str.length]
section
variable {w : World} {mean : ExcName → Option Value} {mg mb : Str → Option Value} {news : List (Addr × Obj)} {dp un : Nat} {gd : Option (List Code)} {cn : Str} {cs : Scope} {a : Addr} {ccd : Value} {cl : List (Str × Addr)} {outer : List Env} {A₀ : Around} {base h₀ : Heap} {L : Addr} {m : Str → Option Value} {s : Shared} {Q E : Value → Shared → Prop}
theorem levFar {x : Str} {tx u ty tm : Tok} {W : List Int} (hx : x = lawText W) (hb : ∀ x ∈ W, 0 ≤ x ∧ x < 4) (hl : W.length ≤ 5)
    (B : Below A₀ base outer h₀) (F : Fr h₀ L s.heap m) (X : (hd.heap_39 w.params).In h₀) (N : News h₀ L s.heap news) (T : Top hd.view_39 (looseW hd.view_39 []) mean mg mb h₀) (hk : cs.kind = .function) (hdp : dp + 10 * 2 < recursionLimit) (hun : un + 100 * 2 < cLine)
    (ret : ∀ (t : Tok) (h' : Heap) (tk' : Nat), Fr h₀ L h' m → News h₀ L h' news → Q (.int (priceFn W W.reverse) t) { s with heap := h', toks := tk' }) :
    wpAny (model Challenge.rw_pm0037_01.row.prog w) (ktrTop dp un gd cn cs L a ccd cl outer) (call (.ref 56) [.str x tx, .str (Txt.sliceBy x none none (-1, u)) ty, .int (priceFn W W.reverse) tm]) Q E s := by
  have hlen : (lawText W).length ≤ 20 := by rw [lawText_len]; omega
  rw [sliceBy_rev, hx]
  refine CtN.use (lev_claim w mean mg mb news (lawText W) (revStr (lawText W)) tx ty (priceFn W W.reverse) tm hlen (by rw [revStr_len]; exact hlen)) B F X N T hk hdp hun (fun t h' tk' F' N' => ?_)
  rw [far_law hb]
  exact ret t h' tk' F' N'
theorem levNear {x y : Str} {tx ty tm : Tok} {W : List Int} {q : Int} (hx : x = lawText W) (hl : W.length ≤ 5) (hy : y.length ≤ 10)
    (B : Below A₀ base outer h₀) (F : Fr h₀ L s.heap m) (X : (hd.heap_39 w.params).In h₀) (N : News h₀ L s.heap news) (T : Top hd.view_39 (looseW hd.view_39 []) mean mg mb h₀) (hk : cs.kind = .function) (hdp : dp + 10 * 2 < recursionLimit) (hun : un + 100 * 2 < cLine)
    (ret : ∀ (t : Tok) (h' : Heap) (tk' : Nat), Fr h₀ L h' m → News h₀ L h' news → Q (.int (levFn (lawText W) y q) t) { s with heap := h', toks := tk' }) :
    wpAny (model Challenge.rw_pm0037_01.row.prog w) (ktrTop dp un gd cn cs L a ccd cl outer) (call (.ref 56) [.str x tx, .str y ty, .int q tm]) Q E s := by
  have hlen : (lawText W).length ≤ 20 := by rw [lawText_len]; omega
  rw [hx]
  exact CtN.use (lev_claim w mean mg mb news (lawText W) y tx ty q tm hlen (by omega)) B F X N T hk hdp hun ret
end
section
variable {prog : Program} {w : World} {A : Around} {E : Value → Shared → Prop} {s : Shared} {h₀ : Heap} {L l : Addr} {m : Str → Option Value} {news : List (Addr × Obj)} {vs : List Value} {ns : List Int} {n : Nat} {Q : Value → Shared → Prop}
theorem minL (hh : A.handled = none) (F : Fr h₀ L s.heap m) (N : News h₀ L s.heap news) (hm : (l, PySem.W.listOf vs.toArray n) ∈ news) (hi : IntsAre vs ns) (hne : 0 < ns.length)
    (h : ∀ h' M (t : Tok) tk, Fr h₀ L h' m → News h₀ L h' news → M ∈ ns → (∀ a, a ∈ ns → M ≤ a) → Q (.int M t) { s with heap := h', toks := tk }) :
    wpAny (model prog w) A (call (.builtin "min") [.ref l]) Q E s := min_list_N hh F N (N.isList hm) hi hne h
end
section
variable {M : Model} {A : Around} {E : Value → Shared → Prop} {s : Shared} {env : Env}
theorem starEach_comp {elt : PySem.Expr} {gens : List Comprehension} {scope : Scope} {p : Pos} {rest : List PySem.Expr} : starEach (.ListComp elt gens scope p :: rest) env = (false, eval (.ListComp elt gens scope p) env) :: starEach rest env := rfl
theorem callWith_comp1 {pos p : Pos} {id : String} {elt : PySem.Expr} {gens : List Comprehension} {scope : Scope} {Q : Value → Shared → Prop}
    (h : wpAny M A (spliced (backTo pos (starEach [.ListComp elt gens scope p] env))) (fun vs s₁ => wpAny M A (call (.builtin id) vs) Q E s₁) E s) :
    wpAny M A (callWith pos (.builtin id) [] (backTo pos (starEach [.ListComp elt gens scope p] env)) []) Q E s :=
  callWith_builtin1 h starEach_comp rfl
end
theorem fr_abs {P : Prop} {h₀ h : Heap} {L : Addr} {a : Str} {v : Option Value} {m : Str → Option Value} (F : Fr h₀ L h (fun y => if y = a then v else m y)) (H : ∀ m₀ : Str → Option Value, Fr h₀ L h (fun y => if y = a then v else m₀ y) → P) : P := H m F
theorem law_post (w : WData) : Challenge.rw_pm0037_01.row.claim.post [w] (.bool true) [w] = true := by
  with_unfolding_all rfl
theorem law_raises (w : WData) (cls : ExcName) : Challenge.rw_pm0037_01.row.claim.raises [w] cls = false := by
  with_unfolding_all rfl
end Mine

end
section
set_option maxRecDepth 100000
set_option maxHeartbeats 3000000
namespace Mine
local macro_rules | `(tactic| k_all) => `(tactic| assumption)
local macro_rules | `(tactic| k_all) => `(tactic| k_extra "all")
local macro_rules | `(tactic| k_ne) => `(tactic| k_extra "ne")
theorem pick2 {h₀ h : Heap} {L : Addr} {a0 a1 a2 a3 a4 a5 a6 a7 a8 a9 a10 a11 a12 a13 a14 a15 a16 : Addr × Obj} {tl : List (Addr × Obj)} (N : News h₀ L h (a0 :: a1 :: a2 :: a3 :: a4 :: a5 :: a6 :: a7 :: a8 :: a9 :: a10 :: a11 :: a12 :: a13 :: a14 :: a15 :: a16 :: tl)) : News h₀ L h (a0 :: a1 :: a12 :: a2 :: a14 :: a13 :: a8 :: a9 :: a10 :: a11 :: a15 :: a16 :: tl) :=
  have H : ∀ p ∈ a0 :: a1 :: a12 :: a2 :: a14 :: a13 :: a8 :: a9 :: a10 :: a11 :: a15 :: a16 :: tl, p ∈ a0 :: a1 :: a2 :: a3 :: a4 :: a5 :: a6 :: a7 :: a8 :: a9 :: a10 :: a11 :: a12 :: a13 :: a14 :: a15 :: a16 :: tl := List.forall_mem_cons.mpr ⟨List.mem_of_getElem? (i := 0) rfl, List.forall_mem_cons.mpr ⟨List.mem_of_getElem? (i := 1) rfl, List.forall_mem_cons.mpr ⟨List.mem_of_getElem? (i := 12) rfl, List.forall_mem_cons.mpr ⟨List.mem_of_getElem? (i := 2) rfl, List.forall_mem_cons.mpr ⟨List.mem_of_getElem? (i := 14) rfl, List.forall_mem_cons.mpr ⟨List.mem_of_getElem? (i := 13) rfl, List.forall_mem_cons.mpr ⟨List.mem_of_getElem? (i := 8) rfl, List.forall_mem_cons.mpr ⟨List.mem_of_getElem? (i := 9) rfl, List.forall_mem_cons.mpr ⟨List.mem_of_getElem? (i := 10) rfl, List.forall_mem_cons.mpr ⟨List.mem_of_getElem? (i := 11) rfl, List.forall_mem_cons.mpr ⟨List.mem_of_getElem? (i := 15) rfl, List.forall_mem_cons.mpr ⟨List.mem_of_getElem? (i := 16) rfl, fun _ h => List.mem_of_mem_drop (i := 17) (l := a0 :: a1 :: a2 :: a3 :: a4 :: a5 :: a6 :: a7 :: a8 :: a9 :: a10 :: a11 :: a12 :: a13 :: a14 :: a15 :: a16 :: tl) h⟩⟩⟩⟩⟩⟩⟩⟩⟩⟩⟩⟩
  fun p hp => N p (H p hp)
theorem news_pick {h₀ h : Heap} {L : Addr} {a0 a1 a2 a3 a4 a5 a6 a7 a8 a9 a10 a11 a12 a13 a14 a15 a16 a17 a18 a19 a20 a21 a22 : Addr × Obj} (N : News h₀ L h ([a0, a1, a2, a3, a4, a5, a6, a7, a8, a9, a10, a11, a12, a13, a14, a15, a16, a17, a18, a19, a20, a21, a22])) : News h₀ L h ([a0, a17, a18, a19, a20, a21, a22, a12, a1, a3, a7]) :=
  have H : ∀ p ∈ [a0, a17, a18, a19, a20, a21, a22, a12, a1, a3, a7], p ∈ [a0, a1, a2, a3, a4, a5, a6, a7, a8, a9, a10, a11, a12, a13, a14, a15, a16, a17, a18, a19, a20, a21, a22] := List.forall_mem_cons.mpr ⟨List.mem_of_getElem? (i := 0) rfl, List.forall_mem_cons.mpr ⟨List.mem_of_getElem? (i := 17) rfl, List.forall_mem_cons.mpr ⟨List.mem_of_getElem? (i := 18) rfl, List.forall_mem_cons.mpr ⟨List.mem_of_getElem? (i := 19) rfl, List.forall_mem_cons.mpr ⟨List.mem_of_getElem? (i := 20) rfl, List.forall_mem_cons.mpr ⟨List.mem_of_getElem? (i := 21) rfl, List.forall_mem_cons.mpr ⟨List.mem_of_getElem? (i := 22) rfl, List.forall_mem_cons.mpr ⟨List.mem_of_getElem? (i := 12) rfl, List.forall_mem_cons.mpr ⟨List.mem_of_getElem? (i := 1) rfl, List.forall_mem_cons.mpr ⟨List.mem_of_getElem? (i := 3) rfl, List.forall_mem_cons.mpr ⟨List.mem_of_getElem? (i := 7) rfl, fun _ h => nomatch h⟩⟩⟩⟩⟩⟩⟩⟩⟩⟩⟩
  fun p hp => N p (H p hp)
theorem T : PySem.Challenge.rw_pm0037_01.Holds := hd (by
  w_top off
  k_with_none
  k_with "all" => (first | with_reducible assumption | exact List.forall_mem_nil _ | exact List.forall_mem_cons.mpr ⟨by k_ne, by k_all⟩)
  k_with "ne" => (first | with_reducible assumption | (refine Ne.symm ?_; with_reducible assumption) | exact Nat.ne_of_lt (by with_reducible assumption) | exact Nat.ne_of_gt (by with_reducible assumption) | exact Nat.ne_of_lt (And.left (by with_reducible assumption)) | exact Nat.ne_of_gt (And.left (by with_reducible assumption)) | exact Nat.ne_of_lt (And.left (And.right (by with_reducible assumption))) | exact Nat.ne_of_gt (And.left (And.right (by with_reducible assumption))) | exact Nat.ne_of_lt (And.left (And.right (And.right (by with_reducible assumption)))) | exact Nat.ne_of_gt (And.left (And.right (And.right (by with_reducible assumption)))) | exact Nat.ne_of_lt (And.left (And.right (And.right (And.right (by with_reducible assumption))))) | exact Nat.ne_of_gt (And.left (And.right (And.right (And.right (by with_reducible assumption))))) | exact Nat.ne_of_lt (And.left (And.right (And.right (And.right (And.right (by with_reducible assumption)))))) | exact Nat.ne_of_gt (And.left (And.right (And.right (And.right (And.right (by with_reducible assumption)))))) | exact Nat.ne_of_lt (And.left (And.right (And.right (And.right (And.right (And.right (by with_reducible assumption))))))) | exact Nat.ne_of_gt (And.left (And.right (And.right (And.right (And.right (And.right (by with_reducible assumption))))))) | exact Nat.ne_of_lt (And.left (And.right (And.right (And.right (And.right (And.right (And.right (by with_reducible assumption)))))))) | exact Nat.ne_of_gt (And.left (And.right (And.right (And.right (And.right (And.right (And.right (by with_reducible assumption)))))))) | exact Nat.ne_of_lt (And.left (And.right (And.right (And.right (And.right (And.right (And.right (And.right (by with_reducible assumption))))))))) | exact Nat.ne_of_gt (And.left (And.right (And.right (And.right (And.right (And.right (And.right (And.right (by with_reducible assumption))))))))) | exact Nat.ne_of_lt (And.left (And.right (And.right (And.right (And.right (And.right (And.right (And.right (And.right (by with_reducible assumption)))))))))) | exact Nat.ne_of_gt (And.left (And.right (And.right (And.right (And.right (And.right (And.right (And.right (And.right (by with_reducible assumption)))))))))) | exact Nat.ne_of_lt (And.left (And.right (And.right (And.right (And.right (And.right (And.right (And.right (And.right (And.right (by with_reducible assumption))))))))))) | exact Nat.ne_of_gt (And.left (And.right (And.right (And.right (And.right (And.right (And.right (And.right (And.right (And.right (by with_reducible assumption))))))))))) | exact Nat.ne_of_lt (And.left (And.right (And.right (And.right (And.right (And.right (And.right (And.right (And.right (And.right (And.right (by with_reducible assumption)))))))))))) | exact Nat.ne_of_gt (And.left (And.right (And.right (And.right (And.right (And.right (And.right (And.right (And.right (And.right (And.right (by with_reducible assumption)))))))))))) | exact Nat.ne_of_lt (And.left (And.right (And.right (And.right (And.right (And.right (And.right (And.right (And.right (And.right (And.right (And.right (by with_reducible assumption))))))))))))) | exact Nat.ne_of_gt (And.left (And.right (And.right (And.right (And.right (And.right (And.right (And.right (And.right (And.right (And.right (And.right (by with_reducible assumption))))))))))))) | exact Nat.ne_of_lt (And.left (And.right (And.right (And.right (And.right (And.right (And.right (And.right (And.right (And.right (And.right (And.right (And.right (by with_reducible assumption)))))))))))))) | exact Nat.ne_of_gt (And.left (And.right (And.right (And.right (And.right (And.right (And.right (And.right (And.right (And.right (And.right (And.right (And.right (by with_reducible assumption)))))))))))))) | exact Nat.ne_of_lt (And.left (And.right (And.right (And.right (And.right (And.right (And.right (And.right (And.right (And.right (And.right (And.right (And.right (And.right (by with_reducible assumption))))))))))))))) | exact Nat.ne_of_gt (And.left (And.right (And.right (And.right (And.right (And.right (And.right (And.right (And.right (And.right (And.right (And.right (And.right (And.right (by with_reducible assumption))))))))))))))) | exact Nat.ne_of_lt (And.left (And.right (And.right (And.right (And.right (And.right (And.right (And.right (And.right (And.right (And.right (And.right (And.right (And.right (And.right (by with_reducible assumption)))))))))))))))) | exact Nat.ne_of_gt (And.left (And.right (And.right (And.right (And.right (And.right (And.right (And.right (And.right (And.right (And.right (And.right (And.right (And.right (And.right (by with_reducible assumption)))))))))))))))) | exact Nat.ne_of_lt (And.left (And.right (And.right (And.right (And.right (And.right (And.right (And.right (And.right (And.right (And.right (And.right (And.right (And.right (And.right (And.right (by with_reducible assumption))))))))))))))))) | exact Nat.ne_of_gt (And.left (And.right (And.right (And.right (And.right (And.right (And.right (And.right (And.right (And.right (And.right (And.right (And.right (And.right (And.right (And.right (by with_reducible assumption))))))))))))))))) | exact Nat.ne_of_lt (And.left (And.right (And.right (And.right (And.right (And.right (And.right (And.right (And.right (And.right (And.right (And.right (And.right (And.right (And.right (And.right (And.right (by with_reducible assumption)))))))))))))))))) | exact Nat.ne_of_gt (And.left (And.right (And.right (And.right (And.right (And.right (And.right (And.right (And.right (And.right (And.right (And.right (And.right (And.right (And.right (And.right (And.right (by with_reducible assumption)))))))))))))))))) | exact Nat.ne_of_lt (And.left (And.right (And.right (And.right (And.right (And.right (And.right (And.right (And.right (And.right (And.right (And.right (And.right (And.right (And.right (And.right (And.right (And.right (by with_reducible assumption))))))))))))))))))) | exact Nat.ne_of_gt (And.left (And.right (And.right (And.right (And.right (And.right (And.right (And.right (And.right (And.right (And.right (And.right (And.right (And.right (And.right (And.right (And.right (And.right (by with_reducible assumption))))))))))))))))))) | exact Nat.ne_of_lt (And.left (And.right (And.right (And.right (And.right (And.right (And.right (And.right (And.right (And.right (And.right (And.right (And.right (And.right (And.right (And.right (And.right (And.right (And.right (by with_reducible assumption)))))))))))))))))))) | exact Nat.ne_of_gt (And.left (And.right (And.right (And.right (And.right (And.right (And.right (And.right (And.right (And.right (And.right (And.right (And.right (And.right (And.right (And.right (And.right (And.right (And.right (by with_reducible assumption)))))))))))))))))))) | exact Nat.ne_of_lt (And.left (And.right (And.right (And.right (And.right (And.right (And.right (And.right (And.right (And.right (And.right (And.right (And.right (And.right (And.right (And.right (And.right (And.right (And.right (And.right (by with_reducible assumption))))))))))))))))))))) | exact Nat.ne_of_gt (And.left (And.right (And.right (And.right (And.right (And.right (And.right (And.right (And.right (And.right (And.right (And.right (And.right (And.right (And.right (And.right (And.right (And.right (And.right (And.right (by with_reducible assumption))))))))))))))))))))) | (refine neN ?_; (try dsimp only); omega))
  k_with "execs cons" => ((refine toks_gen ?_); intro ztkz; (with_reducible refine wpAny_execs_cons ?_); (try dsimp only))
  k_with "eval ListComp" => (k_here; (rename Fr _ _ _ _ => zF9z); k_dflt (refine listComp_my zF9z (by with_unfolding_all rfl) (by decide) (by rfl) (by decide) (by rfl) ?_))
  k_with "subscriptTail Name Slice ref ref" => (k_here; (first | ((with_reducible show wpAny _ _ (subscriptTail _ (PySem.Expr.Slice none none (some _) _) (Value.ref _) (Value.ref _)) _ _ _); k_dflt (refine revL (s := ⟨_, _, _, _, _⟩) (by first | with_reducible k_asm | k_asm) (by first | with_reducible k_asm | k_asm) (by first | with_reducible k_mem | k_mem) (by exact IsPart.int _ _) (by first | with_reducible assumption | assumption) (by (first | omega | (simp only [List.length_append, List.length_take, List.length_drop, List.length_reverse, List.length_cons, List.length_nil]; omega))) ?_ (by with_unfolding_all rfl) (by kmk_pure))) | ((with_reducible show wpAny _ _ (subscriptTail _ (PySem.Expr.Slice _ _ none _) (Value.ref _) (Value.ref _)) _ _ _); k_dflt (refine cutL (s := ⟨_, _, _, _, _⟩) (by first | with_reducible k_asm | k_asm) (by first | with_reducible k_asm | k_asm) (by first | with_reducible k_mem | k_mem) (by kmk_part) (by kmk_part) (by first | with_reducible assumption | assumption) (by first | exact kmk_from (by assumption) (by omega) | exact kmk_upto (by assumption) (by omega) | exact kmk_run (by assumption) (by omega) (by omega)) (by (first | omega | (simp only [List.length_append, List.length_take, List.length_drop, List.length_reverse, List.length_cons, List.length_nil]; omega))) ?_ (by with_unfolding_all rfl) (by kmk_pure)))); intro zDz zwsz zhz zhIz zFz zNz zl1z; (try with_reducible show wpAny _ _ _ _ _ _); (try k_lt zl1z))
  k_with "subscriptTail BinOp Subscript Add List Slice ref ref" => (k_here; k_dflt (refine kba_turn (value' := PySem.Expr.Name (PySem.Str.ofString "_") ⟨0, 0, 0, 0⟩) (fun _ => rfl) ?_))
  k_with "subscriptTail Subscript Slice ref ref" => (k_here; k_dflt (refine kba_turn (value' := PySem.Expr.Name (PySem.Str.ofString "_") ⟨0, 0, 0, 0⟩) (fun _ => rfl) ?_))
  k_with "binaryOp Add ref ref" => (k_here; k_dflt (refine addL (by first | with_reducible k_asm | k_asm) (by first | with_reducible k_asm | k_asm) (by first | with_reducible k_mem | k_mem) (by first | with_reducible k_mem | k_mem) (by first | with_reducible assumption | assumption) (by first | with_reducible assumption | assumption) (by (first | omega | (simp only [List.length_append, List.length_take, List.length_drop, List.length_reverse, List.length_cons, List.length_nil]; omega))) (by (first | omega | (simp only [List.length_append, List.length_take, List.length_drop, List.length_reverse, List.length_cons, List.length_nil]; omega))) ?_); intro zDz zwsz zhz zhIz zFz zNz zl1z; (try with_reducible show wpAny _ _ _ _ _ _); (try k_lt zl1z))
  k_with "call builtin:len" => (k_here; (with_reducible show wpAny _ _ (call (Value.builtin "len") [Value.ref _]) _ _ _); k_dflt (refine lenL (by first | with_reducible k_asm | k_asm) (by first | with_reducible k_mem | k_mem) (by first | with_reducible assumption | assumption) (by omega) ?_); intro ztz)
  k_with "exec Assign cons ListComp" => (k_here; (rename Fr _ _ _ _ => zF9z); k_dflt (first | refine wpAny_Assign_Name ?_ | ((with_reducible show wpAny _ _ (exec (Stmt.Assign [Expr.Name (PySem.Str.ofString "listed") _] _ _) _) _ _ _); refine assignComp zF9z (by rfl) (by with_unfolding_all rfl) (by with_unfolding_all rfl) (by decide) (by rfl) (by decide) (by rfl) (by rfl) (by rfl) ?_)))
  k_with "exec For Name Call cons nil" => (k_here; (rename Fr _ _ _ _ => zlFz); k_dflt (refine For_my zlFz (by exact rfl) (by exact rfl) ?_))
  k_with "TurnEnd" => (dsimp only [TurnEnd])
  k_with "call ref" => (k_here; (rename News _ _ _ _ => zNz); (with_reducible show wpAny _ _ (call (Value.ref 68) _) _ _ _); k_dflt (refine textCall (by first | with_reducible k_mem | k_mem) (by first | with_reducible assumption | assumption) (by repeat' (first | assumption | apply b_take | apply b_drop | apply b_rev | apply b_app)) (by (first | omega | (simp only [List.length_append, List.length_take, List.length_drop, List.length_reverse, List.length_cons, List.length_nil]; omega))) (by first | with_reducible k_asm | k_asm) (by first | with_reducible k_asm | k_asm) (by first | with_reducible k_asm | k_asm) zNz (by first | with_reducible k_asm | k_asm) (by first | exact rfl | assumption) (by ktr_room) (by ktr_units) ?_); intro zxz ztz zhz ztkz ze9z zq9z zFz zNz)
  k_with "subscriptTail Subscript Name Slice Slice ref ref" => (k_here; k_dflt (refine kba_turn (value' := PySem.Expr.Name (PySem.Str.ofString "_") ⟨0, 0, 0, 0⟩) (fun _ => rfl) ?_))
  k_with "binaryOp Add str str" => (k_here; (refine addS2 (by first | assumption | exact (show (PySem.Str.length _) ≤ 20 by decide)) (by first | assumption | exact (show (PySem.Str.length _) ≤ 20 by decide)) (by decide) ?_); intro ztz ztkz zhlz)
  k_with "exec For Name List cons nil" => (k_here; (rename Fr _ _ _ _ => zlFz); k_dflt (refine For_myT zlFz ?_))
  k_with "call ref" => (k_here; (with_reducible show wpAny _ _ (call (Value.ref 21) _) _ _ _); k_dflt (refine CtV.use (ell_claim _ _ _ _ _ _ _ _ _ (by exact Nat.le_trans (by assumption) (by decide)) (by exact Nat.le_trans (by assumption) (by decide))) (by first | with_reducible k_asm | k_asm) (by first | with_reducible k_asm | k_asm) (by first | with_reducible k_asm | k_asm) (by first | with_reducible k_asm | k_asm) (by first | with_reducible k_asm | k_asm) (by first | exact rfl | assumption) (by ktr_room) (by ktr_units) ?_); intro ztz zhz ztkz zFz zNz)
  k_with "callWith" => ((with_reducible show wpAny _ _ (callWith _ (Prod.fst (Value.builtin _, _)) _ _ _) _ _ _); dsimp only; with_reducible refine callWith_method1 ?_)
  k_with "eval Subscript" => refine Subscript_ ?_
  k_with "MySrc" => ((have zh9z : ∃ a b c, RowsIn a b c := ⟨_, _, _, by with_reducible assumption⟩); clear zh9z; refine stuck ?_)
  k_with "Stuck" => fail "stuck"
  k_with "call ref" => (k_here; (with_reducible show wpAny _ _ (call (Value.ref 42) _) _ _ _); refine stuck ?_)
  k_with "call ref" => (k_here; (with_reducible show wpAny _ _ (call (Value.ref 63) _) _ _ _); refine stuck ?_)
  k_with "exec For Name Name cons nil" => (k_here; (rename Fr _ _ _ _ => zlFz); k_dflt (refine For_my zlFz (by exact rfl) (by exact rfl) ?_))
  k_with "MyIter" => refine stuck ?_
  k_with "call builtin:list.append" => (k_here; (with_reducible show wpAny _ _ (call _ [Value.ref _, Value.str _ _]) _ _ _); k_dflt (refine appendS (by first | with_reducible k_asm | k_asm) (by first | with_reducible k_asm | k_asm) (by first | with_reducible k_mem | k_mem) (by omega) (by k_upd) ?_); intro zhz zFz zNz)
  k_with "compareOp NotEq ref ref" => (k_here; refine stuck ?_)
  k_with "compareOp Eq ref ref" => (k_here; k_dflt (refine eqL (by first | with_reducible k_asm | k_asm) (by first | with_reducible k_mem | k_mem) (by first | with_reducible k_mem | k_mem) (by first | with_reducible assumption | assumption) (by first | with_reducible assumption | assumption) (by ke_room) ?_))
  k_with "call builtin:list.extend" => (k_here; refine stuck ?_)
  k_with "call builtin:list.append" => (k_here; k_dflt (refine refPush (by first | with_reducible k_asm | k_asm) (by first | with_reducible k_asm | k_asm) (by first | with_reducible k_mem | k_mem) (by first | exact Nat.le_trans (by assumption) (by decide) | omega) (by k_upd) ?_); intro zhz zFz zNz)
  k_with "call ref" => (k_here; (with_reducible show wpAny _ _ (call (Value.ref 56) _) _ _ _); refine stuck ?_)
  k_with "callWith" => ((with_reducible show wpAny _ _ (callWith _ (Value.builtin "min") _ _ _) _ _ _); refine stuck ?_)
  k_with "callWith builtin:min" => ((with_reducible show wpAny _ _ (callWith _ (Value.builtin "min") _ _ _) _ _ _); refine stuck ?_)
  k_with "call builtin:min" => (k_here; refine stuck ?_)
  k_with "compareOp NotEq ref ref" => (k_here; (with_reducible rename BRows _ _ _ => zhB8z); (with_reducible rename News _ _ _ _ => zN8z); (with_reducible rename ∀ p ∈ _ :: _, p ∈ _ => zhb8z); k_dflt (refine told_ne zN8z (by first | with_reducible k_mem | k_mem) zhB8z (by (intro p hp; (repeat' first | exact hp | refine List.Mem.tail _ ?_))) (by ke_read) (by first | rfl | decide +kernel) (by first | rfl | decide +kernel) (by ke_room) ?_); (have zN9z := pick3 zN8z zhb8z); clear zN8z zhb8z zhB8z)
  k_go0
  rename _ = #[] => hg9
  refine absQ fun Q9 hQ9 => ?_
  k_steps
  refine mapInts (fun x => x.fmod 4) (by rfl) (by k_asm) (by k_asm) (by k_mem) (by assumption) (by simp only [List.length_append, List.length_take, List.length_drop, List.length_reverse, List.length_cons, List.length_nil]; omega) ?_ ?_
  · intro x t I oI C oC D m₂ h tk ys E' hxm hC hx F₁ N₁
    refine absQ fun Qe hQe => ?_
    k_steps
    apply hQe
    exact ElEnd.intro F₁ N₁ (fun p hp => hp) ⟨_, rfl⟩
  intro D ws k h tk hW F₂ N₂ o1
  dsimp only [LCg.Off1] at o1
  rename List Int => ns
  have hWl := wordOf_len ns
  have hWb := wordOf_b ns
  change IntsAre ws (wordOf ns) at hW
  generalize hWe : wordOf ns = W at hW hWl hWb
  walk_say "AFTER WORD"
  k_steps
  rename IsRange _ _ _ _ _ _ _ _ => R9
  rename Fr _ _ _ _ => F8
  rename News _ _ _ _ => N8
  have N9 := news_pick N8
  clear N8
  revert F8
  intro F8
  refine fr_abs F8 fun m9 F9 => ?_
  clear F8
  rename IntsAre _ (W ++ W.reverse) => r4
  rename IntsAre _ (_ ++ _ ++ List.reverse _) => r3
  rename IntsAre _ (List.drop _ W ++ _) => r2
  change IntsAre _ (W.drop 1 ++ W.take 1) at r2
  change IntsAre _ (otherOf ns ++ W.take 1 ++ (otherOf ns).reverse) at r3
  refine' iterI (n := W.length) (W := W) (O := otherOf ns) ?kh R9 ?kn ?kF N9 ?k1 ?k2 ?k3 ?kR ?kT ?kS ?_ ?_
  case kh => exact rfl
  case kn => omega
  case kF => k_asm
  case k1 => assumption
  case k2 => assumption
  case k3 => assumption
  case kR =>
    refine ⟨rfl, fun q hq => ?_⟩
    rcases q with _ | _ | _ | _ | q
    · exact ⟨_, _, _, rfl, .head _, hW⟩
    · exact ⟨_, _, _, rfl, .tail _ (.tail _ (.tail _ (.head _))), r2⟩
    · exact ⟨_, _, _, rfl, .tail _ (.tail _ (.head _)), r3⟩
    · exact ⟨_, _, _, rfl, .tail _ (.head _), r4⟩
    · exact absurd hq (by simp [rowsAt])
  case kT => exact List.forall_mem_cons.mpr ⟨⟨by omega, by omega, by omega, by omega, by omega, by omega⟩, List.forall_mem_cons.mpr ⟨⟨by omega, by omega, by omega, by omega, by omega, by omega⟩, List.forall_mem_cons.mpr ⟨⟨by omega, by omega, by omega, by omega, by omega, by omega⟩, fun _ h => nomatch h⟩⟩⟩
  case kS =>
    refine ⟨by omega, Nat.ne_of_lt (by omega), ?_, ?_, ?_, ?_, ?_, ?_⟩
    all_goals (intro zh; first | exact o1.1 zh.symm | exact o1.2.1 zh.symm | exact o1.2.2.1 zh.symm | exact o1.2.2.2.1 zh.symm | exact o1.2.2.2.2.1 zh.symm | exact o1.2.2.2.2.2.1 zh.symm | exact o1.2.2.2.2.2.2.1 zh.symm | exact o1.2.2.2.2.2.2.2.1 zh.symm | exact o1.2.2.2.2.2.2.2.2.1 zh.symm | exact o1.2.2.2.2.2.2.2.2.2.1 zh.symm | exact o1.2.2.2.2.2.2.2.2.2.2.1 zh.symm | exact o1.2.2.2.2.2.2.2.2.2.2.2.1 zh.symm | exact o1.2.2.2.2.2.2.2.2.2.2.2.2.1 zh.symm | exact o1.2.2.2.2.2.2.2.2.2.2.2.2.2.1 zh.symm)
  · clear R9 N9
    repeat (with_reducible rename @LT.lt Nat _ _ _ ∧ _ => hx9; clear hx9)
    repeat (with_reducible rename (_ ≠ _) ∧ _ => hx9; clear hx9)
    have hWl := wordOf_len ns
    rw [hWe] at hWl
    repeat (with_reducible rename List.length _ = List.length _ => hx9; clear hx9)
    repeat (with_reducible rename IntsAre _ (List.take _ _) => hx9; clear hx9)
    repeat (with_reducible rename IntsAre _ (List.drop _ _) => hx9; clear hx9)
    repeat (with_reducible rename IntsAre _ (List.map _ _) => hx9; clear hx9)
    repeat (with_reducible rename IntsAre _ (List.reverse _) => hx9; clear hx9)
    repeat (with_reducible rename IntsAre _ (_ ++ _) => hx9; clear hx9)
    repeat (with_reducible rename Obj.data _ = Data.cell (bindC _ _ _ _) => hx9; clear hx9)
    intro hst i tv refs tl k u od ol of xd xl xf I oI h tk hi hd hl hf hR hT hrl F₁ N₁ hI
    have g1 : ∀ p ∈ tl, p.1 ≠ I := fun p hp => hI p (.tail _ (.tail _ (.tail _ (.tail _ (.tail _ (.tail _ (.tail _ (.tail _ hp))))))))
    have gR : ∀ p ∈ tl, p.1 ≠ _ := fun p hp => (hT p hp).1
    have g2 : ∀ p ∈ tl, p.1 ≠ _ := fun p hp => (hT p hp).2.1
    have g3 : ∀ p ∈ tl, p.1 ≠ _ := fun p hp => (hT p hp).2.2.1
    have g4 : ∀ p ∈ tl, p.1 ≠ _ := fun p hp => (hT p hp).2.2.2.1
    obtain ⟨j1, j2, j3, j4, j5, j6, j7, j8⟩ := id hst
    obtain ⟨k1, k2, k3, k4, k5, k6, k7, k8⟩ : @Ne Nat _ I ∧ @Ne Nat _ I ∧ @Ne Nat _ I ∧ @Ne Nat _ I ∧ @Ne Nat _ I ∧ @Ne Nat _ I ∧ @Ne Nat _ I ∧ @Ne Nat _ I := ⟨hI _ (.head _), hI _ (.tail _ (.head _)), hI _ (.tail _ (.tail _ (.head _))), hI _ (.tail _ (.tail _ (.tail _ (.head _)))), hI _ (.tail _ (.tail _ (.tail _ (.tail _ (.head _))))), hI _ (.tail _ (.tail _ (.tail _ (.tail _ (.tail _ (.head _)))))), hI _ (.tail _ (.tail _ (.tail _ (.tail _ (.tail _ (.tail _ (.head _))))))), hI _ (.tail _ (.tail _ (.tail _ (.tail _ (.tail _ (.tail _ (.tail _ (.head _))))))))⟩
    refine absQ fun Qt1 hQt1 => ?_
    k_steps
    rename Fr _ _ _ _ => F8
    rename News _ _ _ _ => N8
    have N9 := pick2 N8
    clear N8
    with_reducible rename @LT.lt Nat _ _ _ ∧ _ => c1
    revert c1
    with_reducible rename @LT.lt Nat _ _ _ ∧ _ => c2
    intro c1
    have a1 := allLt_ne' c1.2.2.2.2.2.2.2.2.2.2.2.2.2.2.2.2
    have a2 := allLt_ne' c2.2.2.2.2.2.2.2.2.2.2.2.2.2.2.2
    refine' iterD5 ?dh F8 N9 ?d0 ?df ?dg ?dl ?dx ?dT ?d4 ?dp ?_ ?_
    case dh => exact rfl
    case d0 => assumption
    case df => assumption
    case dg => assumption
    case dl => (refine ⟨?_, ?_, ?_, ?_, ?_⟩) <;> first | exact Nat.le_trans (by assumption) (by decide) | decide
    case dp => (refine ⟨?_, ?_, ?_⟩) <;> omega
    case dx =>
      exact List.forall_mem_cons.mpr ⟨by k_ne, List.forall_mem_cons.mpr ⟨by k_ne, List.forall_mem_cons.mpr ⟨by k_ne, List.forall_mem_cons.mpr ⟨by k_ne, List.forall_mem_cons.mpr ⟨by k_ne, List.forall_mem_cons.mpr ⟨by k_ne, List.forall_mem_cons.mpr ⟨by k_ne, List.forall_mem_cons.mpr ⟨by k_ne, List.forall_mem_cons.mpr ⟨by k_ne, a1⟩⟩⟩⟩⟩⟩⟩⟩⟩
    case dT =>
      exact List.forall_mem_cons.mpr ⟨by k_ne, List.forall_mem_cons.mpr ⟨by k_ne, List.forall_mem_cons.mpr ⟨by k_ne, List.forall_mem_cons.mpr ⟨by k_ne, List.forall_mem_cons.mpr ⟨by k_ne, List.forall_mem_cons.mpr ⟨by k_ne, List.forall_mem_cons.mpr ⟨by k_ne, List.forall_mem_cons.mpr ⟨by k_ne, List.forall_mem_cons.mpr ⟨by k_ne, a2⟩⟩⟩⟩⟩⟩⟩⟩⟩
    case d4 =>
      exact List.forall_mem_cons.mpr ⟨by k_ne, List.forall_mem_cons.mpr ⟨by k_ne, List.forall_mem_cons.mpr ⟨by k_ne, List.forall_mem_cons.mpr ⟨by k_ne, List.forall_mem_cons.mpr ⟨by k_ne, List.forall_mem_cons.mpr ⟨by k_ne, List.forall_mem_cons.mpr ⟨by k_ne, List.forall_mem_cons.mpr ⟨by k_ne, List.forall_mem_cons.mpr ⟨by k_ne, g4⟩⟩⟩⟩⟩⟩⟩⟩⟩
    · intro d g t refs9 kT od xd tl9 I9 oI9 s₁ tab hg9 hdl hd hB hrl hb hT9 h49 hI9 hax9 ap9 ap9' F₁ N₁
      clear F8 N9 c1 c2 a1 a2 hst
      repeat (with_reducible rename @LT.lt Nat _ _ _ ∧ _ => hx9; clear hx9)
      obtain ⟨p1, p2, p3, p4, p5, p6⟩ := id ap9
      obtain ⟨r1, r2, r3, r4, r5, r6, r7, r8, r9, r10, r11, r12⟩ := ap9'
      refine absQ fun Qt2 hQt2 => ?_
      k_steps
      apply hQt2
      refine absQ fun Qt4 hQt4 => ?_
      k_steps
      refine' map3 g ?dh ?dF ?dN ?dm ?l1 ?l2 ?l3 ?_ ?_
      case dh => exact rfl
      case dF => k_asm
      case dN => k_asm
      case dm => k_mem
      case l1 => exact Nat.le_trans (by assumption) (by decide)
      case l2 => exact Nat.le_trans (by assumption) (by decide)
      case l3 => exact Nat.le_trans (by assumption) (by decide)
      · intro x t I oI C oC D m₂ h tk ys E' hx hC hm2 F₁ N₁
        refine absQ fun Qe hQe => ?_
        k_steps
        apply hQe
        refine ElEnd.intro (by assumption) (by assumption) (fun p hp => hp) ?_
        rw [← hg9]
      · intro D' k' h' tk' F₂ N₂ o1
        obtain ⟨y1, y2, y3, y4, y5, y6, y7, y8⟩ := id o1
        k_steps
        apply hQt4
        k_steps
        rename Fr _ _ _ _ => F9
        rename News _ _ _ _ => N9
        refine dotEnd_go F9 N9 o1 (by assumption) hB hb hT9 h49 hI9 hax9 ap9
    · intro refs9 kT od9 xd9 tl9 h9 tk9 hd9 hB hb hT9 h49 F₁ N₁
      clear F8 N9 c1 c2 a1 a2
      have ht := dots_law hi (by assumption) (by assumption) (by assumption)
      have hB2 := Eq.mp (congrArg (BRows tl9 refs9) ht) hB
      clear hB ht
      k_steps
      dsimp only [Stuck]
      rename Fr _ _ _ _ => F5
      rename News _ _ _ _ => N5
      have N6 := pick4 N5
      clear N5
      refine' ext3 F5 N6 ?em ?el ?en ?_
      case em => exact .head _
      case el => omega
      case en =>
        refine List.forall_mem_cons.mpr ⟨by k_ne, ?_⟩
        refine List.forall_mem_cons.mpr ⟨by k_ne, ?_⟩
        refine List.forall_mem_cons.mpr ⟨by k_ne, ?_⟩
        refine List.forall_mem_cons.mpr ⟨by k_ne, ?_⟩
        iterate 6 (refine List.forall_mem_cons.mpr ⟨by k_ne, ?_⟩)
        refine List.forall_mem_cons.mpr ⟨by k_ne, ?_⟩
        exact gR
      intro h7 F7 N7
      k_steps
      apply hQt1
      k_steps
      rename Fr _ _ _ _ => F9
      rename News _ _ _ _ => N9
      refine' lawEnd_go F9 N9 ?eh hR hT ⟨k1, k2, k3, k4, k5, k6, k7, k8, ?eA, ?eB⟩ g1 ?oA ?oB ?iA ?iB hd9 ?el ?ef ?eo
      case eh => exact List.forall_mem_cons.mpr ⟨(.tail _ (.tail _ (.tail _ (.tail _ (.head _))))), List.forall_mem_cons.mpr ⟨(.head _), List.forall_mem_cons.mpr ⟨(.tail _ (.tail _ (.tail _ (.tail _ (.tail _ (.head _)))))), List.forall_mem_cons.mpr ⟨(.tail _ (.tail _ (.tail _ (.tail _ (.tail _ (.tail _ (.head _))))))), List.forall_mem_cons.mpr ⟨(.tail _ (.tail _ (.tail _ (.tail _ (.tail _ (.tail _ (.tail _ (.head _)))))))), List.forall_mem_cons.mpr ⟨(.tail _ (.tail _ (.tail _ (.tail _ (.tail _ (.tail _ (.tail _ (.tail _ (.head _))))))))), List.forall_mem_cons.mpr ⟨(.tail _ (.tail _ (.tail _ (.tail _ (.tail _ (.tail _ (.tail _ (.tail _ (.tail _ (.head _)))))))))), List.forall_mem_cons.mpr ⟨(.tail _ (.tail _ (.tail _ (.tail _ (.tail _ (.tail _ (.tail _ (.tail _ (.tail _ (.tail _ (.head _))))))))))), List.forall_mem_cons.mpr ⟨(.tail _ (.tail _ (.tail _ (.tail _ (.tail _ (.tail _ (.tail _ (.tail _ (.tail _ (.tail _ (.tail _ (.head _)))))))))))), List.forall_mem_cons.mpr ⟨(.tail _ (.tail _ (.tail _ (.head _)))), List.forall_mem_cons.mpr ⟨(.tail _ (.tail _ (.head _))), fun p hp => (.tail _ (.tail _ (.tail _ (.tail _ (.tail _ (.tail _ (.tail _ (.tail _ (.tail _ (.tail _ (.tail _ (.tail _ hp))))))))))))⟩⟩⟩⟩⟩⟩⟩⟩⟩⟩⟩
      case eA => k_ne
      case eB => k_ne
      case oA => exact ⟨by k_ne, by k_ne, by k_ne, by k_ne, by k_ne, by k_ne⟩
      case oB => exact ⟨by k_ne, by k_ne, by k_ne, by k_ne, by k_ne, by k_ne⟩
      case iA => assumption
      case iB => assumption
      case el => assumption
      case ef => assumption
      case eo => exact fun z z1 z2 z3 z4 => by simp only [iF, z1, z2, z3, z4, if_false]
  · clear R9 N9
    repeat (with_reducible rename @LT.lt Nat _ _ _ ∧ _ => hx9; clear hx9)
    repeat (with_reducible rename (_ ≠ _) ∧ _ => hx9; clear hx9)
    have hWl := wordOf_len ns
    rw [hWe] at hWl
    repeat (with_reducible rename List.length _ = List.length _ => hx9; clear hx9)
    repeat (with_reducible rename IntsAre _ (List.take _ _) => hx9; clear hx9)
    repeat (with_reducible rename IntsAre _ (List.drop _ _) => hx9; clear hx9)
    repeat (with_reducible rename IntsAre _ (List.map _ _) => hx9; clear hx9)
    repeat (with_reducible rename IntsAre _ (List.reverse _) => hx9; clear hx9)
    repeat (with_reducible rename IntsAre _ (_ ++ _) => hx9; clear hx9)
    intro hst refs tl k u od ol of xd xl xf h tk hd hl hf hR hT F₁ N₁
    have gR : ∀ p ∈ tl, p.1 ≠ _ := fun p hp => (hT p hp).1
    have g2 : ∀ p ∈ tl, p.1 ≠ _ := fun p hp => (hT p hp).2.1
    have g3 : ∀ p ∈ tl, p.1 ≠ _ := fun p hp => (hT p hp).2.2.1
    have g4 : ∀ p ∈ tl, p.1 ≠ _ := fun p hp => (hT p hp).2.2.2.1
    have g5 : ∀ p ∈ tl, p.1 ≠ _ := fun p hp => (hT p hp).2.2.2.2.1
    have g6 : ∀ p ∈ tl, p.1 ≠ _ := fun p hp => (hT p hp).2.2.2.2.2
    obtain ⟨j1, j2, j3, j4, j5, j6, j7, j8⟩ := id hst
    k_steps
    dsimp only [Stuck]
    refine' mapRowsA (tab := rowsAt W (otherOf ns) W.length) lawText ?lh ?lF ?lN ?lm hR ?ls ?lz ?_ ?_
    case lh => exact rfl
    case lF => k_asm
    case lN => k_asm
    case lm => k_mem
    case ls => exact fun p hp => (by (repeat' first | exact hp | refine List.Mem.tail _ ?_))
    case lz => rw [rowsAt_len]; omega
    · intro row a vs n I oI C oC D' m₂ h tk ys E' hrow hvs hC hm2 F₁ N₁
      refine absQ fun Qe hQe => ?_
      have hrb := rowsAt_b hWb (otherOf_b ns) hWl.2 _ row hrow
      have hrl := rowsAt_l hWl.2 (otherOf_len ns) _ row hrow
      k_steps
      apply hQe
      exact ElEnd.intro (by assumption) (by assumption) (fun p hp => by (repeat' first | exact hp | refine List.Mem.tail _ ?_)) ⟨_, by subst_vars; rfl⟩
    · intro D' ls k' h' tk' els F₂ N₂ o1
      k_steps
      obtain ⟨u1, u2, u3, u4, u5, u6, u7, u8, u9⟩ := id o1
      have hlen : ls.length = (rowsAt W (otherOf ns) W.length).length := by
        have := congrArg List.length els
        simpa using this
      have hll : ls.length ≤ 14 := by rw [hlen, rowsAt_len]; omega
      have hrl := rowsAt_l (W := W) hWl.2 (otherOf_len ns) W.length
      have hrb := rowsAt_b hWb (otherOf_b ns) hWl.2 W.length
      have hxl : ∀ x ∈ ls.map (·.1), x.length ≤ 10 := fun x hx => by
        rw [els] at hx
        obtain ⟨row, hrow, rfl⟩ := List.mem_map.mp hx
        rw [lawText_len]
        exact hrl row hrow
      dsimp only [Stuck]
      refine' mapStrsB (ls := ls) (ellFn (lawText W)) ?mh ?mF ?mN ?mm ?mz ?_ ?_
      case mh => exact rfl
      case mF => k_asm
      case mN => k_asm
      case mm => k_mem
      case mz => omega
      · intro x t I oI C oC D' m₂ h tk ys E' hx hC hm2 F₁ N₁
        refine absQ fun Qe hQe => ?_
        have hxl' := hxl x hx
        k_steps
        apply hQe
        exact ElEnd.intro (by assumption) (by assumption) (fun p hp => hp) (congrArg (fun z => Value.bool (ellFn z x)) (by assumption))
      · intro D2 k2 h2 tk2 F₂ N₂ o2
        k_steps
        dsimp only [Stuck]
        refine' mapRowsB (tab := rowsAt W (otherOf ns) W.length) (fun row => decide (row = W)) ?nh ?nF ?nN ?nm hR ?ns ?nz ?_ ?_
        case nh => exact rfl
        case nF => k_asm
        case nN => k_asm
        case nm => k_mem
        case ns => exact fun p hp => (by (repeat' first | exact hp | refine List.Mem.tail _ ?_))
        case nz => rw [rowsAt_len]; omega
        · intro row a vs n I oI C oC D' m₂ h tk ys E' hrow hvs hC hm2 F₁ N₁
          refine absQ fun Qe hQe => ?_
          k_steps
          apply hQe
          exact ElEnd.intro (by assumption) (by assumption) (fun p hp => by (repeat' first | exact hp | refine List.Mem.tail _ ?_)) rfl
        · intro D3 k3 h3 tk3 F₃ N₃ o3
          k_steps
          dsimp only [Stuck]
          refine' bools_same N₃ ?ba ?bb ?be ?bu ?_
          case ba => exact .tail _ (.head _)
          case bb => exact .head _
          case be => rw [els]; exact eqs_law hWb hrb
          case bu => ke_room
          k_steps
          rename Fr _ _ _ _ => F4
          rename News _ _ _ _ => N4
          have N5 := pick5 N4
          clear N4 o2 o3
          with_reducible rename @LT.lt Nat _ _ _ ∧ _ => c0
          revert c0
          with_reducible rename @LT.lt Nat _ _ _ ∧ _ => c1
          revert c1
          with_reducible rename @LT.lt Nat _ _ _ ∧ _ => c2
          intro c1 c0
          have a1 := allLt_ne' c1.2.2.2.2.2.2.2.2.2.2.2.2
          have a2 := allLt_ne' c2.2.2.2.2.2.2.2.2.2.2.2
          try dsimp only [Stuck]
          refine' iterDue (tab := rowsAt W (otherOf ns) W.length) ?ph F4 N5 hR ?ps ?p1 ?p2 ?p3 ?p4 ?p5 ?_ ?_
          case ph => exact rfl
          case ps => exact fun p hp => (by (repeat' first | exact hp | refine List.Mem.tail _ ?_))
          case p1 => k_ne
          case p2 => k_ne
          case p3 => exact List.forall_mem_cons.mpr ⟨by k_ne, List.forall_mem_cons.mpr ⟨by k_ne, List.forall_mem_cons.mpr ⟨by k_ne, List.forall_mem_cons.mpr ⟨by k_ne, List.forall_mem_cons.mpr ⟨by k_ne, List.forall_mem_cons.mpr ⟨by k_ne, gR⟩⟩⟩⟩⟩⟩
          case p4 => exact List.forall_mem_cons.mpr ⟨by k_ne, List.forall_mem_cons.mpr ⟨by k_ne, List.forall_mem_cons.mpr ⟨by k_ne, List.forall_mem_cons.mpr ⟨by k_ne, List.forall_mem_cons.mpr ⟨by k_ne, List.forall_mem_cons.mpr ⟨by k_ne, a1⟩⟩⟩⟩⟩⟩
          case p5 => exact List.forall_mem_cons.mpr ⟨by k_ne, List.forall_mem_cons.mpr ⟨by k_ne, List.forall_mem_cons.mpr ⟨by k_ne, List.forall_mem_cons.mpr ⟨by k_ne, List.forall_mem_cons.mpr ⟨by k_ne, List.forall_mem_cons.mpr ⟨by k_ne, a2⟩⟩⟩⟩⟩⟩
          · intro row a vs n I oI h tk ly ln ky kn hrow hvs hlen2 v1 v2 v3 v4 v5 v6 v7 hIb w1 w2 w3 F₁ N₁
            have hrb' := hrb row hrow
            have hrl' := hrl row hrow
            have hl20 : ly.length ≤ 14 ∧ ln.length ≤ 14 := by rw [rowsAt_len] at hlen2; omega
            (try clear F4); (try clear N5)
            refine absQ fun Qt3 hQt3 => ?_
            k_steps
            all_goals (apply hQt3; k_steps)
            · rename Fr _ _ _ _ => F9
              rename News _ _ _ _ => N9
              rename _ = lawText row => ex9
              subst ex9
              exact due_go F9 N9 (List.forall_mem_cons.mpr ⟨(.tail _ (.head _)), List.forall_mem_cons.mpr ⟨(.tail _ (.tail _ (.head _))), List.forall_mem_cons.mpr ⟨(.tail _ (.tail _ (.tail _ (.head _)))), List.forall_mem_cons.mpr ⟨(.tail _ (.tail _ (.tail _ (.tail _ (.head _))))), fun p hp => (.tail _ (.tail _ (.tail _ (.tail _ (.tail _ (.tail _ hp))))))⟩⟩⟩⟩) (if_pos (by assumption)).symm (if_pos (by assumption)).symm v2 v3 w1 w2 hIb w3
            · rename Fr _ _ _ _ => F9
              rename News _ _ _ _ => N9
              rename _ = lawText row => ex9
              subst ex9
              exact due_go F9 N9 (List.forall_mem_cons.mpr ⟨(.tail _ (.head _)), List.forall_mem_cons.mpr ⟨(.tail _ (.tail _ (.head _))), List.forall_mem_cons.mpr ⟨(.tail _ (.tail _ (.tail _ (.head _)))), List.forall_mem_cons.mpr ⟨(.tail _ (.tail _ (.tail _ (.tail _ (.head _))))), fun p hp => (.tail _ (.tail _ (.tail _ (.tail _ (.tail _ (.tail _ hp))))))⟩⟩⟩⟩) (if_neg (by assumption)).symm (if_neg (by assumption)).symm v2 v3 w1 w2 hIb w3
          · intro ux h9 tk9 ly ln ky kn ely eln F₁ N₁
            (try clear F4); (try clear N5)
            have N6 := pick6 N₁
            clear N₁
            k_steps
            rename Fr _ _ _ _ => F4
            rename News _ _ _ _ => N4
            have hrepl : ∀ a ∈ ls.map (·.1), a.length ≤ 10 ∧ (replFn a).length ≤ 100 := fun x hx => ⟨hxl x hx, by
              rw [els] at hx
              obtain ⟨row, hrow, rfl⟩ := List.mem_map.mp hx
              exact repl_len (hrl row hrow)⟩
            have hml := mir_law hrb
            dsimp only [Stuck]
            refine' split_claim _ _ _ _ _ _ ls _ ?s1 hrepl ?s3 _ _ _ _ _ _ _ _ _ _ _ _ _ _ _ _ _ ?sB F4 ?sX N4 ?sT ?sk ?sd ?su ?_
            case sB => k_asm
            case sX => k_asm
            case sT => k_asm
            case sk => first | exact rfl | assumption
            case sd => ktr_room
            case su => ktr_units
            case s1 => omega
            case s3 => exact List.forall_mem_cons.mpr ⟨by k_ne, List.forall_mem_cons.mpr ⟨by k_ne, List.forall_mem_cons.mpr ⟨by k_ne, List.forall_mem_cons.mpr ⟨by k_ne, List.forall_mem_cons.mpr ⟨by k_ne, List.forall_mem_cons.mpr ⟨by k_ne, List.forall_mem_cons.mpr ⟨by k_ne, List.forall_mem_cons.mpr ⟨by k_ne, off1_ne u9⟩⟩⟩⟩⟩⟩⟩⟩
            intro t9 y9 nn9 ly9 ln9 kk1 kk2 h8 tk8 es1 es2 f1 f2 f3 f4 F5 N5
            k_steps
            dsimp only [Stuck]
            rename News _ _ _ _ => N6
            refine' pairs_same N6 ?q1 ?q2 ?q3 ?q4 ?q5 ?q6 ?q7 ?q8 ?q9 ?qa ?qb ?_
            case q1 => k_mem
            case q2 => k_mem
            case q3 => k_mem
            case q4 => k_mem
            case q5 => k_mem
            case q6 => k_mem
            case q7 => rw [es1, els, ely]; exact hml.1
            case q8 => rw [es2, els, eln]; exact hml.2
            case q9 =>
              intro x hx
              rw [es1, els] at hx
              obtain ⟨row, _, rfl⟩ := List.mem_map.mp (List.mem_filter.mp hx).1
              exact lawText_ok row
            case qa =>
              intro x hx
              rw [es2, els] at hx
              obtain ⟨row, _, rfl⟩ := List.mem_map.mp (List.mem_filter.mp hx).1
              exact lawText_ok row
            case qb => ke_room
            have N7 := pick7 N6
            have fD : @LT.lt Nat _ D y9 := f4 (D, _) (.tail _ (.tail _ (.tail _ (.tail _ (.tail _ (.tail _ (.tail _ (.head _))))))))
            have fC : @LT.lt Nat _ _ y9 := f4 _ (.tail _ (.tail _ (.tail _ (.tail _ (.head _)))))
            have fC2 : @LT.lt Nat _ _ y9 := f4 _ (.tail _ (.tail _ (.tail _ (.tail _ (.tail _ (.head _))))))
            have fC3 : @LT.lt Nat _ _ y9 := f4 _ (.tail _ (.tail _ (.tail _ (.tail _ (.tail _ (.tail _ (.head _)))))))
            dsimp only at fC fC2 fC3
            clear N6 f4
            k_steps
            obtain ⟨jR, jD, jD1, jD2, jD3, jD4, jD5, jD6⟩ := id hst
            rename Fr _ _ _ _ => F6
            rename News _ _ _ _ => N8
            have N9 := pick8 N8
            clear N8
            rename IntsAre _ (List.reverse W) => hrv
            dsimp only [Stuck]
            refine' CtN.use (price_claim _ _ _ _ _ _ _ _ _ _ _ _ _ hW hrv ?l1 ?l2 ?o1 ?o2 ?o3) ?pB F6 ?pX N9 ?pT ?pk ?pd ?pu ?_
            case l1 => exact hWl.2
            case l2 => rw [List.length_reverse]; exact hWl.2
            case o1 => exact List.forall_mem_cons.mpr ⟨by k_ne, List.forall_mem_cons.mpr ⟨by k_ne, List.forall_mem_cons.mpr ⟨by k_ne, List.forall_mem_cons.mpr ⟨by k_ne, List.forall_mem_cons.mpr ⟨by k_ne, fun _ h => nomatch h⟩⟩⟩⟩⟩
            case o2 => exact List.forall_mem_cons.mpr ⟨by k_ne, List.forall_mem_cons.mpr ⟨by k_ne, List.forall_mem_cons.mpr ⟨by k_ne, List.forall_mem_cons.mpr ⟨by k_ne, List.forall_mem_cons.mpr ⟨by k_ne, fun _ h => nomatch h⟩⟩⟩⟩⟩
            case o3 => k_ne
            case pB => k_asm
            case pX => k_asm
            case pT => k_asm
            case pk => first | exact rfl | assumption
            case pd => ktr_room
            case pu => ktr_units
            intro tf hf9 tkf Ff Nf
            k_steps
            dsimp only [Stuck]
            refine' levFar (by assumption) hWb hWl.2 ?vB ?vF ?vX ?vN ?vT ?vk ?vd ?vu ?_
            case vB => k_asm
            case vF => k_asm
            case vX => k_asm
            case vN => k_asm
            case vT => k_asm
            case vk => first | exact rfl | assumption
            case vd => ktr_room
            case vu => ktr_units
            intro t8 h8' tk8' F8 N8
            k_steps
            · exfalso
              first | exact absurd rfl (by assumption) | omega
            dsimp only [Stuck]
            refine callWith_comp1 ?_
            k_steps
            dsimp only [Stuck]
            have hly : ly9.map (·.1) = (mirrors W (otherOf ns)).map lawText := by rw [es1, els]; exact hml.1
            have hly14 : ly9.length ≤ 14 := by
              have e1 := congrArg List.length hly
              rw [List.length_map, List.length_map] at e1
              have e2 : (mirrors W (otherOf ns)).length ≤ (rowsAt W (otherOf ns) W.length).length := List.length_filter_le _ _
              rw [rowsAt_len] at e2
              omega
            have hyl : ∀ x ∈ ly9.map (·.1), x.length ≤ 10 := fun x hx => by
              rw [es1] at hx
              exact hxl x (List.mem_filter.mp hx).1
            refine' mapStrsI (ls := ly9) (fun near => levFn (lawText W) near ((priceFn W W.reverse).fdiv 2)) ?nh ?nF ?nN ?nm ?nz ?_ ?_
            case nh => exact rfl
            case nF => k_asm
            case nN => k_asm
            case nm => k_mem
            case nz => omega
            · intro x t I oI C oC D' m₂ h tk ys E' hx hC hm2 F₁ N₁
              refine absQ fun Qe hQe => ?_
              have hx9 := hyl x hx
              k_steps
              dsimp only [Stuck]
              refine' levNear (by assumption) hWl.2 hx9 ?vB ?vF ?vX ?vN ?vT ?vk ?vd ?vu ?_
              case vB => k_asm
              case vF => k_asm
              case vX => k_asm
              case vN => k_asm
              case vT => k_asm
              case vk => first | exact rfl | assumption
              case vd => ktr_room
              case vu => ktr_units
              intro t8 h8' tk8' F8 N8
              k_steps
              apply hQe
              exact ElEnd.intro (by assumption) (by assumption) (fun p hp => hp) ⟨_, rfl⟩
            · intro D7 ws7 k7 h7 tk7 hI7 F₇ N₇ o7
              rw [hly] at hI7
              k_steps
              dsimp only [Stuck]
              refine' minL ?mh ?mF ?mN ?mm hI7 ?mz ?_
              case mh => exact rfl
              case mF => k_asm
              case mN => k_asm
              case mm => k_mem
              case mz => rw [List.length_map, List.length_map]; exact mirrors_ne
              intro h6 M tM tk6 F₆ N₆ hM1 hM2
              have hM := near_law hWb hWl.2 hM1 hM2
              clear hM1 hM2
              obtain ⟨hMa, hMb, hMc⟩ := hM
              iterate 3 (first | (k_unfold; (try dsimp only)) | walk1 | (dsimp only; walk1))
              rw [hMa, beq_self_eq_true]
              apply hQ9
              exact goodW_bool F₆ hg9 (law_raises _) (law_post _))
end Mine

end
end
end
theorem PySem.Challenge.cw_pm0037_01_holds : PySem.Challenge.rw_pm0037_01.Holds :=
  Mine.T
