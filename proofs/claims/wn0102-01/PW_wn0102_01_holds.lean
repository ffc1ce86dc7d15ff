import PyProof.Rows.All
import Wide.All
import OpenK.AllK
import Wide.FinOn
import Lean
import PySem.Challenge.RW_wn0102_01
noncomputable section
open PySem PySem.W PySem.W.X PyProof.Rows
set_option Elab.async false
set_option maxRecDepth 100000
set_option maxHeartbeats 8000000
namespace Mine
theorem eX : PySem.W.namesOk = PySem.W.namesOk := rfl
end Mine
name_quick tw8075568018651887793 for PySem.W.namesOk by Mine.eX
name_quick tw14979626087600564940 for PySem.W.namesOk by Mine.eX
name_quick tw15058866555488072919 for PySem.W.namesOk by Mine.eX
name_quick tw13200701876752130231 for PySem.W.namesOk by Mine.eX
name_quick tw14294466137590082537 for PySem.W.namesOk by Mine.eX
name_quick tw13335737130258781183 for PySem.W.namesOk by Mine.eX
name_quick tw2413185636571951891 for PySem.W.namesOk by Mine.eX
name_quick tw17672482021469178181 for PySem.W.namesOk by Mine.eX
name_quick tw1258717718454355964 for PySem.W.namesOk by Mine.eX
name_quick tw17532718790514356516 for PySem.W.namesOk by Mine.eX
name_quick tw15066959818950650227 for PySem.W.namesOk by Mine.eX
name_quick tw4392076818467891588 for PySem.W.namesOk by Mine.eX
name_quick tw17111948838632640456 for PySem.W.namesOk by Mine.eX
name_quick tw10010936943081839664 for PySem.W.namesOk by Mine.eX
name_quick tw5902227825499142635 for PySem.W.namesOk by Mine.eX
name_quick tw4090926877573551719 for PySem.W.namesOk by Mine.eX
name_quick tw13480552361792772618 for PySem.W.namesOk by Mine.eX
name_quick tw6009348429639677940 for PySem.W.namesOk by Mine.eX
name_quick tw2859041830047134086 for PySem.W.namesOk by Mine.eX
name_quick tw16018607276475445134 for PySem.W.namesOk by Mine.eX
name_quick tw1333364371103165705 for PySem.W.namesOk by Mine.eX
name_quick tw4388067698380316889 for PySem.W.namesOk by Mine.eX
name_quick tw13034053981158551246 for PySem.W.namesOk by Mine.eX
name_quick tw704327219915372674 for PySem.W.namesOk by Mine.eX
namespace Mine
local macro_rules | `(tactic| k_head) => `(tactic| x_head)
open_top hd for PySem.Challenge.rw_wn0102_01

end Mine
end
noncomputable section
open PySem PySem.W PySem.Calls PyProof.Rows
set_option maxRecDepth 100000
set_option Elab.async false
namespace Mine
theorem offBase : True := by
  w_top off
  trivial
noncomputable def Con (w : World) (k : Nat) (f : Addr) (vs : List Value) (R : Value → List (Addr × Obj) → Prop) : Prop :=
  ∀ (loose : List Str) (mean : ExcName → Option Value) (mg mb : Str → Option Value) (dp un : Nat) (gd : Option (List Code)) (cn : Str) (cs : Scope) (a : Addr) (ccd : Value) (cl : List (Str × Addr)) (outer : List Env) (A₀ : Around) (base h₀ : Heap) (L : Addr) (m : Str → Option Value) (news : List (Addr × Obj)) (s : Shared) (Q E : Value → Shared → Prop),
    Below A₀ base outer h₀ → Fr h₀ L s.heap m → (hd.heap_39 w.params).In h₀ → News h₀ L s.heap news → Top hd.view_39 loose mean mg mb h₀ → cs.kind = .function → dp + k < recursionLimit → un + 100 * k < cLine →
    (∀ r tl h' tk', Fr h₀ L h' m → News h₀ L h' (tl ++ news) → (∀ p ∈ news, ∀ q ∈ tl, p.1 < q.1) → R r tl → Q r { s with heap := h', toks := tk' }) →
    wpAny (model PySem.Challenge.rw_wn0102_01.row.toRowW.prog w) (ktrTop dp un gd cn cs L a ccd cl outer) (call (.ref f) vs) Q E s

theorem Con.use {w : World} {k : Nat} {f : Addr} {vs : List Value} {R : Value → List (Addr × Obj) → Prop} (C : Con w k f vs R) {loose : List Str} {mean : ExcName → Option Value} {mg mb : Str → Option Value} {dp un : Nat} {gd : Option (List Code)} {cn : Str} {cs : Scope} {a : Addr} {ccd : Value} {cl : List (Str × Addr)} {outer : List Env} {A₀ : Around} {base h₀ : Heap} {L : Addr} {m : Str → Option Value} {news : List (Addr × Obj)} {s : Shared} {Q E : Value → Shared → Prop}
    (B : Below A₀ base outer h₀) (F : Fr h₀ L s.heap m) (X : (hd.heap_39 w.params).In h₀) (N : News h₀ L s.heap news) (T : Top hd.view_39 loose mean mg mb h₀) (hk : cs.kind = .function) (hdp : dp + k < recursionLimit) (hun : un + 100 * k < cLine)
    (ret : ∀ r tl h' tk', Fr h₀ L h' m → News h₀ L h' (tl ++ news) → (∀ p ∈ news, ∀ q ∈ tl, p.1 < q.1) → R r tl → Q r { s with heap := h', toks := tk' }) :
    wpAny (model PySem.Challenge.rw_wn0102_01.row.toRowW.prog w) (ktrTop dp un gd cn cs L a ccd cl outer) (call (.ref f) vs) Q E s :=
  C _ _ _ _ _ _ _ _ _ _ _ _ _ _ _ _ _ _ _ _ _ _ B F X N T hk hdp hun ret

theorem tl0 {news : List (Addr × Obj)} : ∀ p ∈ news, ∀ q ∈ ([] : List (Addr × Obj)), p.1 < q.1 := fun _ _ _ h => nomatch h
theorem all_ne {a d : Addr} {l : List (Addr × Obj)} (h : ∀ p ∈ l, p.1 < a) (hd : @LE.le Nat _ a d) : ∀ p ∈ l, p.1 ≠ d := fun p hp => Nat.ne_of_lt (Nat.lt_of_lt_of_le (h p hp) hd)
theorem all_neA {a d : Addr} {l : List (Addr × Obj)} (h : AllLt a l) (hd : @LE.le Nat _ a d) : ∀ p ∈ l, p.1 ≠ d := all_ne (ktn_ltOf h) hd
section loops
variable {σ : Type} {prog : Program} {w : World} {A : Around} {E : Value → Shared → Prop} {Q : Flow → Shared → Prop} {s : Shared} {env : Env} {h₀ : Heap} {L : Addr} {x : Str} {body : List Stmt} {m₀ : Str → Option Value}

/-- the call stands at a state c of kind σ: its names, its ledger -/
noncomputable def At (h₀ : Heap) (L : Addr) (s : Shared) (Led : σ → List (Addr × Obj)) (ps : σ → List (Str × Value)) (stored : List Str) (m₀ : Str → Option Value) (P : σ → Prop) (s₂ : Shared) : Prop :=
  ∃ (c : σ) (h' : Heap) (tk : Nat) (m' : Str → Option Value) (news' : List (Addr × Obj)), s₂ = { s with heap := h', toks := tk } ∧ Fr h₀ L h' m' ∧ News h₀ L h' news' ∧ (∀ p ∈ Led c, p ∈ news') ∧ (∀ p ∈ ps c, m' p.1 = some p.2) ∧ (∀ z, stored.contains z = false → m' z = m₀ z) ∧ P c

theorem At.intro {Led : σ → List (Addr × Obj)} {ps : σ → List (Str × Value)} {stored : List Str} {P : σ → Prop} (c : σ) {h' : Heap} {tk : Nat} {m' : Str → Option Value} {news' : List (Addr × Obj)}
    (F : Fr h₀ L h' m') (N : News h₀ L h' news') (hn : ∀ p ∈ Led c, p ∈ news') (hk : ∀ p ∈ ps c, m' p.1 = some p.2) (hr : ∀ z, stored.contains z = false → m' z = m₀ z) (hp : P c) :
    At h₀ L s Led ps stored m₀ P { s with heap := h', toks := tk } := ⟨c, h', tk, m', news', rfl, F, N, hn, hk, hr, hp⟩

/-- the names told and the rest as it was give the whole map back -/
theorem back_eq {ps : List (Str × Value)} {stored : List Str} {m₁ : Str → Option Value} (h1 : ∀ p ∈ ps, m₁ p.1 = some p.2) (h2 : ∀ z, stored.contains z = false → m₁ z = m₀ z) :
    kstB (fun z => if stored.contains z then m₁ z else m₀ z) ps = m₁ := by
  have e : (fun z => if stored.contains z then m₁ z else m₀ z) = m₁ := funext fun z => by
    by_cases q : stored.contains z = true
    · exact if_pos q
    · exact (if_neg q).trans (h2 z (by simpa using q)).symm
  rw [e]
  exact funext fun z => kstB_eq h1 fun _ => rfl

theorem at_fr {h : Heap} {ps : List (Str × Value)} {stored : List Str} {m₁ : Str → Option Value} (h1 : ∀ p ∈ ps, m₁ p.1 = some p.2) (h2 : ∀ z, stored.contains z = false → m₁ z = m₀ z)
    (F : Fr h₀ L h m₁) : Fr h₀ L h (kstB (fun z => if stored.contains z then m₁ z else m₀ z) ps) := (back_eq h1 h2).symm ▸ F

/-- outside of v nothing is touched -/
noncomputable abbrev Out (v : List Addr) (h h' : Heap) : Prop := ∀ b o, b ∉ v → h.get? b = some o → h'.get? b = some o
/-- v is neither the frame nor old -/
noncomputable abbrev Anew (h₀ : Heap) (L : Addr) (v : List Addr) : Prop := ∀ a ∈ v, a ≠ L ∧ h₀.get? a = none
theorem Out.fr {v : List Addr} {h h' : Heap} {m : Str → Option Value} (k : Out v h h') (o : Anew h₀ L v) (F : Fr h₀ L h m) : Fr h₀ L h' m where
  ns := F.ns.at' fun x e => k L x (fun q => (o L q).1 rfl) e
  keep b x e := k b x (fun q => absurd ((o b q).2 ▸ e) (by simp)) (F.keep b x e)
  above := F.above
theorem Out.led {v : List Addr} {h h' : Heap} {l : List (Addr × Obj)} (k : Out v h h') (o : ∀ p ∈ l, p.1 ∉ v) (N : News h₀ L h l) : News h₀ L h' l := fun p hp => ⟨k _ _ (o p hp) (N p hp).1, (N p hp).2⟩
theorem Out.one {a : Addr} {h h' : Heap} (k : Heap.SameBut a h h') : Out [a] h h' := fun b o q => k.extBut b o fun e => q (List.mem_singleton.mpr e)

theorem at_out {Led : σ → List (Addr × Obj)} {ps : σ → List (Str × Value)} {stored : List Str} {P : σ → Prop} {R : Prop} {s₂ : Shared} (a : At h₀ L s Led ps stored m₀ P s₂)
    (k : ∀ (c : σ) (u : Str → Option Value) h tk, P c → Fr h₀ L h (kstB (fun z => if stored.contains z then u z else m₀ z) (ps c)) → News h₀ L h (Led c) → s₂ = { s with heap := h, toks := tk } → R) : R := by
  obtain ⟨c, h', tk, m', news', e, F, N, hn, hk, hr, hp⟩ := a
  exact k c m' h' tk hp (at_fr hk hr F) (fun p hp => N p (hn p hp)) e

noncomputable def WPost (Q : Flow → Shared → Prop) (P D : Shared → Prop) (f : Flow) (s₂ : Shared) : Prop :=
  match f with
  | .ret v => Q (.ret v) s₂
  | .brk => D s₂
  | _ => P s₂

/-- of a frame, these names alone -/
theorem fr_known {h : Heap} {m : Str → Option Value} (ps : List (Str × Value)) (hk : ∀ p ∈ ps, m p.1 = some p.2) (F : Fr h₀ L h m) : ∃ u, Fr h₀ L h (kstB u ps) := by
  refine ⟨m, ?_⟩
  have em : kstB m ps = m := by
    funext y
    exact kstB_eq hk fun _ => rfl
  rw [em]; exact F

/-- a statement whose ways meet -/
theorem cut_at {t : Sem Flow} (Led : σ → List (Addr × Obj)) (ps : σ → List (Str × Value)) (stored : List Str) (D : σ → Prop) {h9 : Heap} (_F : Fr h₀ L h9 m₀)
    (h : wpAny (model prog w) A t (fun f s₂ => match f with | .next => At h₀ L s Led ps stored m₀ D s₂ | .ret v => Q (.ret v) s₂ | f => Q f s₂) E s)
    (done : ∀ (c : σ) (u : Str → Option Value) h tk, D c → Fr h₀ L h (kstB (fun z => if stored.contains z then u z else m₀ z) (ps c)) → News h₀ L h (Led c) → Q .next { s with heap := h, toks := tk }) :
    wpAny (model prog w) A t Q E s := by
  refine wpAny_mono h (fun f s₂ p => ?_) fun _ _ x => x
  cases f with
  | next => exact at_out p fun c u h tk hD F N e => e ▸ done c u h tk hD F N
  | ret v => exact p
  | brk => exact p
  | cont => exact p

/-- a while by an invariant, a measure and what holds behind it -/
theorem while_at {test : Expr} {body : List Stmt} {pos : Pos} (Led : σ → List (Addr × Obj)) (ps : σ → List (Str × Value)) (stored : List Str) (P D : σ → Prop) (μ : σ → Nat) (c₀ : σ)
    (F : Fr h₀ L s.heap m₀) (N : News h₀ L s.heap (Led c₀)) (hk : ∀ p ∈ ps c₀, m₀ p.1 = some p.2) (hp : P c₀)
    (turn : ∀ (c : σ) (u : Str → Option Value) h tk, P c → Fr h₀ L h (kstB (fun z => if stored.contains z then u z else m₀ z) (ps c)) → News h₀ L h (Led c) →
      wpAny (model prog w) A (isTrue test env (eval test env)) (fun b s₂ =>
        if b = true then wpAny (model prog w) A (execs body env) (WPost Q (At h₀ L s Led ps stored m₀ (fun c' => P c' ∧ μ c' < μ c)) (At h₀ L s Led ps stored m₀ D)) E s₂ else At h₀ L s Led ps stored m₀ D s₂) E { s with heap := h, toks := tk })
    (done : ∀ (c : σ) (u : Str → Option Value) h tk, D c → Fr h₀ L h (kstB (fun z => if stored.contains z then u z else m₀ z) (ps c)) → News h₀ L h (Led c) → Q .next { s with heap := h, toks := tk })
    (hE : PassesOwn (model prog w) A env E := by passes_own) :
    wpAny (model prog w) A (exec (.While test body [] pos) env) Q E s := by
  refine cut_at Led ps stored D F (While_inv2 (fun n m nx => ∃ c : σ, nx = Led c ∧ μ c = n ∧ (∀ p ∈ ps c, m p.1 = some p.2) ∧ (∀ z, stored.contains z = false → m z = m₀ z) ∧ P c) F N ⟨c₀, rfl, rfl, hk, fun _ _ => rfl, hp⟩ ?_ hE) done
  rintro _ m₁ _ h tk F₁ N₁ ⟨c, rfl, rfl, h1, h2, hp'⟩
  have go := turn c m₁ h tk hp' (at_fr h1 h2 F₁) N₁
  refine wpAny_mono go (fun b s₂ p => ?_) fun _ _ x => x
  split at p
  · rename_i hb
    subst hb
    rw [if_pos rfl]
    exact wpAny_mono p (fun f s₃ q => match f, q with
      | .ret _, q => q
      | .brk, q => q
      | .next, ⟨c', h', tk', m', _, e, F', N', hn, hk', hr', hc, hm⟩ => ⟨h', tk', m', Led c', μ c', e, F', fun p hp => N' p (hn p hp), hm, c', rfl, rfl, hk', hr', hc⟩
      | .cont, ⟨c', h', tk', m', _, e, F', N', hn, hk', hr', hc, hm⟩ => ⟨h', tk', m', Led c', μ c', e, F', fun p hp => N' p (hn p hp), hm, c', rfl, rfl, hk', hr', hc⟩) fun _ _ x => x
  · rename_i hb
    rw [if_neg hb]
    exact p

/-- the end of a for's turn: the iterator stands, apart from the ledger -/
noncomputable def AtI (h₀ : Heap) (L : Addr) (s : Shared) (I : Addr) (oI : Obj) (Led : σ → List (Addr × Obj)) (ps : σ → List (Str × Value)) (stored : List Str) (m₀ : Str → Option Value) (P : σ → Prop) (s₂ : Shared) : Prop :=
  ∃ (c : σ) (h' : Heap) (tk : Nat) (m' : Str → Option Value) (news' : List (Addr × Obj)), s₂ = { s with heap := h', toks := tk } ∧ Fr h₀ L h' m' ∧ News h₀ L h' news' ∧ (∀ p ∈ Led c, p ∈ news') ∧ (I, oI) ∈ news' ∧ (∀ p ∈ Led c, p.1 ≠ I) ∧ (∀ p ∈ ps c, m' p.1 = some p.2) ∧ (∀ z, stored.contains z = false → m' z = m₀ z) ∧ P c
theorem AtI.intro {I : Addr} {oI : Obj} {Led : σ → List (Addr × Obj)} {ps : σ → List (Str × Value)} {stored : List Str} {P : σ → Prop} (c : σ) {h' : Heap} {tk : Nat} {m' : Str → Option Value} {news' : List (Addr × Obj)}
    (F : Fr h₀ L h' m') (N : News h₀ L h' news') (hn : ∀ p ∈ Led c, p ∈ news') (hi : (I, oI) ∈ news') (ha : ∀ p ∈ Led c, p.1 ≠ I) (hk : ∀ p ∈ ps c, m' p.1 = some p.2) (hr : ∀ z, stored.contains z = false → m' z = m₀ z) (hp : P c) :
    AtI h₀ L s I oI Led ps stored m₀ P { s with heap := h', toks := tk } := ⟨c, h', tk, m', news', rfl, F, N, hn, hi, ha, hk, hr, hp⟩

theorem for_at {I : Addr} {fp : List Addr} {n : Nat} {Pv : Nat → Value → Prop} {St : Nat → Heap → Prop} (Led : σ → List (Addr × Obj)) (ps : σ → List (Str × Value)) (stored : List Str) (hx : stored.contains x = true) (P : Nat → σ → Prop) (D : σ → Prop) (c₀ : σ)
    (W : Walks prog w A I fp [I] n Pv St) (hIf : I ∈ fp) (hLf : env.locals ∉ fp) (hI : h₀.get? I = none) (hStI : ∀ i h, St i h → ∃ oI, h.get? I = some oI) (hfix : ∀ b ∈ fp, b = I ∨ (∃ o, h₀.get? b = some o) ∨ (∃ o, ∀ c, (b, o) ∈ Led c))
    (hst : St 0 s.heap) (F : Fr h₀ env.locals s.heap m₀) (N : News h₀ env.locals s.heap (Led c₀)) (ha : ∀ p ∈ Led c₀, p.1 ≠ I) (hk : ∀ p ∈ ps c₀, m₀ p.1 = some p.2) (hp : P 0 c₀) (hD : ∀ c, P n c → D c)
    (turn : ∀ i c v (u : Str → Option Value) h tk oI, i < n → Pv i v → P i c → (∀ p ∈ Led c, p.1 ≠ I) → Fr h₀ env.locals h (fun y => if y = x then some v else kstB (fun z => if stored.contains z then u z else m₀ z) (ps c) y) → News h₀ env.locals h (Led c ++ [(I, oI)]) →
      wpAny (model prog w) A (execs body env) (WPost Q (AtI h₀ env.locals s I oI Led ps stored m₀ (P (i + 1))) (At h₀ env.locals s Led ps stored m₀ D)) E { s with heap := h, toks := tk })
    (done : ∀ (c : σ) (u : Str → Option Value) h tk, D c → Fr h₀ env.locals h (kstB (fun z => if stored.contains z then u z else m₀ z) (ps c)) → News h₀ env.locals h (Led c) → Q .next { s with heap := h, toks := tk }) :
    LoopAtV prog w A h₀ env x body Q E (.ref I) s := by
  have hback : ∀ s₂, At h₀ env.locals s Led ps stored m₀ D s₂ → Q .next s₂ := fun s₂ p => at_out p fun c u h tk hD F N e => e ▸ done c u h tk hD F N
  refine ⟨I, fp, [I], n, Pv, St, m₀, Led c₀, (fun i m nx => ∃ c, nx = Led c ∧ (∀ p ∈ ps c, m p.1 = some p.2) ∧ (∀ z, stored.contains z = false → m z = m₀ z) ∧ P i c), rfl, W, hLf, ?_, ?_, hst, F, N, ⟨c₀, rfl, hk, fun _ _ => rfl, hp⟩, ?_, ?_⟩
  · intro b hb; rw [List.mem_singleton.mp hb]; exact hI
  · intro p hp hq; exact ha p hp (List.mem_singleton.mp hq)
  · rintro i v m₁ news₁ s₁ own ⟨hh', tk', rfl⟩ hin hP ⟨c, rfl, hk1, hr1, hp1⟩ hoff hown hget hfp hst1 F₁ N₁
    obtain ⟨oI, hoI⟩ := hStI _ _ hst1
    have hIown : (I, oI) ∈ own := hfp I hIf hI oI hoI
    have N₂ : News h₀ env.locals hh' (Led c ++ [(I, oI)]) := fun p hp => (List.mem_append.mp hp).elim (fun h => N₁ p (List.mem_append_right _ h)) fun h => by
      rw [List.mem_singleton.mp h]; exact N₁ _ (List.mem_append_left _ hIown)
    have haI : ∀ p ∈ Led c, p.1 ≠ I := fun p hp e => hoff p hp (List.mem_singleton.mpr e)
    have F₂ : Fr h₀ env.locals hh' (fun y => if y = x then some v else kstB (fun z => if stored.contains z then m₁ z else m₀ z) (ps c) y) := by
      rw [back_eq hk1 hr1]; exact F₁
    refine wpAny_mono (turn i c v m₁ hh' tk' oI hin hP hp1 haI F₂ N₂) (fun f s₂ p => ?_) fun _ _ e => e
    have fin : AtI h₀ env.locals s I oI Led ps stored m₀ (P (i + 1)) s₂ → LoopStepU h₀ env.locals [I] own (fun m nx => ∃ c, nx = Led c ∧ (∀ p ∈ ps c, m p.1 = some p.2) ∧ (∀ z, stored.contains z = false → m z = m₀ z) ∧ P (i + 1) c) { s with heap := hh', toks := tk' } .next s₂ := by
      rintro ⟨c', h', tk, m', news', rfl, F', N', hn, hi', ha', hk', hr', hp'⟩
      refine ⟨rfl, h', tk, m', Led c', rfl, F', ?_, fun p hp hq => ha' p hp (List.mem_singleton.mp hq), c', rfl, hk', hr', hp'⟩
      intro p hp
      rcases List.mem_append.mp hp with h1 | h1
      · have hfpp := hown p h1
        have hpn := N₁ p (List.mem_append_left _ h1)
        rcases hfix p.1 hfpp with e | ⟨o, ho⟩ | ⟨o, ho⟩
        · have : p = (I, oI) := by
            have h2 : hh'.get? p.1 = some p.2 := hget p h1
            rw [e, hoI] at h2
            exact Prod.ext e (Option.some.inj h2).symm
          rw [this]; exact N' _ hi'
        · have := hpn.2.2; rw [ho] at this; cases this
        · have h2 : hh'.get? p.1 = some p.2 := hget p h1
          have h3 : hh'.get? p.1 = some o := (N₂ (p.1, o) (List.mem_append_left _ (ho c))).1
          have : p = (p.1, o) := Prod.ext rfl (Option.some.inj (h2.symm.trans h3))
          rw [this]; exact N' _ (hn _ (ho c'))
      · exact N' p (hn p h1)
    cases f with
    | ret v => exact .ret p
    | brk => exact .brk (hback _ p)
    | next => exact .next (fin p)
    | cont => exact .cont (fin p)
  · rintro h' tk m' news' F' N' _ ⟨c, rfl, hk1, hr1, hp1⟩
    exact done c m' h' tk (hD c hp1) (at_fr hk1 hr1 F') N'

/-- over a list of the ledger -/
theorem list_at {l : Addr} {vs : List Value} {nn : Nat} (Led : σ → List (Addr × Obj)) (ps : σ → List (Str × Value)) (stored : List Str) (hx : stored.contains x = true) (P : Nat → σ → Prop) (D : σ → Prop) (c₀ : σ)
    (hh : A.handled = none) (hl : ∀ c, (l, listOf vs.toArray nn) ∈ Led c) (F : Fr h₀ env.locals s.heap m₀) (N : News h₀ env.locals s.heap (Led c₀)) (hk : ∀ p ∈ ps c₀, m₀ p.1 = some p.2) (hp : P 0 c₀) (hD : ∀ c, P vs.length c → D c)
    (turn : ∀ i c v (u : Str → Option Value) h tk I oI, i < vs.length → vs[i]? = some v → P i c → (∀ p ∈ Led c₀, p.1 < I) → (∀ p ∈ Led c, p.1 ≠ I) → Fr h₀ env.locals h (fun y => if y = x then some v else kstB (fun z => if stored.contains z then u z else m₀ z) (ps c) y) → News h₀ env.locals h (Led c ++ [(I, oI)]) →
      wpAny (model prog w) A (execs body env) (WPost Q (AtI h₀ env.locals s I oI Led ps stored m₀ (P (i + 1))) (At h₀ env.locals s Led ps stored m₀ D)) E { s with heap := h, toks := tk })
    (done : ∀ (c : σ) (u : Str → Option Value) h tk, D c → Fr h₀ env.locals h (kstB (fun z => if stored.contains z then u z else m₀ z) (ps c)) → News h₀ env.locals h (Led c) → Q .next { s with heap := h, toks := tk }) :
    wpAny (model prog w) A (pyIter (.ref l)) (fun it s₂ => LoopAtV prog w A h₀ env x body Q E it s₂) E s := by
  have hol : s.heap.get? l = some (listOf vs.toArray nn) := (N _ (hl c₀)).1
  have W := Walks.list (prog := prog) (w := w) hh s.heap.objs.size l (Nat.ne_of_lt (Heap.lt_size hol)) vs.toArray
  rw [List.size_toArray] at W
  have hls : s.heap.IsList l vs.toArray := ⟨_, hol, rfl, nn, rfl⟩
  refine wpAny_pyIter_list hls ?_
  have lt0 : ∀ p ∈ Led c₀, p.1 < s.heap.objs.size := fun p hp => Heap.lt_size (N p hp).1
  refine for_at Led ps stored hx P D c₀ W (List.mem_cons.mpr (.inl rfl)) ?_ (next_is_new F) (fun i h st => let ⟨⟨o, ho, _⟩, _⟩ := st; ⟨o, ho⟩) ?_ ⟨⟨_, Heap.get?_push_size _ rfl, rfl, rfl⟩, hls.at fun o e => Heap.get?_push_of_some _ e⟩ (F.push _) (fun p hp => ⟨Heap.get?_push_of_some _ (N p hp).1, (N p hp).2⟩) (fun p hp => Nat.ne_of_lt (lt0 p hp)) hk hp hD ?_ done
  · intro hm
    rcases List.mem_cons.mp hm with e | hm
    · exact absurd F.ns.lt (e ▸ Nat.lt_irrefl _)
    · exact (N _ (hl c₀)).2.1 ((List.mem_singleton.mp hm).symm)
  · intro b hb
    rcases List.mem_cons.mp hb with e | hb
    · exact .inl e
    · rw [List.mem_singleton.mp hb]; exact .inr (.inr ⟨_, hl⟩)
  · intro i c v u h tk oI hi hv hp1 haI F₂ N₂
    exact turn i c v u h tk _ oI hi (by simpa using hv) hp1 lt0 haI F₂ N₂

/-- over a range by ones -/
theorem range_at {r : Addr} {a₀ b₀ : Int} {t₀ u₀ v₀ : Tok} {n : Nat} (Led : σ → List (Addr × Obj)) (ps : σ → List (Str × Value)) (stored : List Str) (hx : stored.contains x = true) (P : Nat → σ → Prop) (D : σ → Prop) (c₀ : σ)
    (hh : A.handled = none) (hr : IsRange s.heap r a₀ b₀ 1 t₀ u₀ v₀) (hsmall : Builtin.Range.small a₀ b₀ 1 = true) (hn : Builtin.Range.rangeSize a₀ b₀ 1 = (n : Int)) (F : Fr h₀ env.locals s.heap m₀) (N : News h₀ env.locals s.heap (Led c₀)) (hk : ∀ p ∈ ps c₀, m₀ p.1 = some p.2) (hp : P 0 c₀) (hD : ∀ c, P n c → D c)
    (turn : ∀ (i : Nat) c t (u : Str → Option Value) h tk I oI, i < n → P i c → (∀ p ∈ Led c₀, p.1 < I) → (∀ p ∈ Led c, p.1 ≠ I) → Fr h₀ env.locals h (fun y => if y = x then some (.int (a₀ + (i : Int)) t) else kstB (fun z => if stored.contains z then u z else m₀ z) (ps c) y) → News h₀ env.locals h (Led c ++ [(I, oI)]) →
      wpAny (model prog w) A (execs body env) (WPost Q (AtI h₀ env.locals s I oI Led ps stored m₀ (P (i + 1))) (At h₀ env.locals s Led ps stored m₀ D)) E { s with heap := h, toks := tk })
    (done : ∀ (c : σ) (u : Str → Option Value) h tk, D c → Fr h₀ env.locals h (kstB (fun z => if stored.contains z then u z else m₀ z) (ps c)) → News h₀ env.locals h (Led c) → Q .next { s with heap := h, toks := tk }) :
    wpAny (model prog w) A (pyIter (.ref r)) (fun it s₂ => LoopAtV prog w A h₀ env x body Q E it s₂) E s := by
  refine wpAny_pyIter_range hr hsmall ?_
  have W : Walks prog w A s.heap.objs.size [s.heap.objs.size] [s.heap.objs.size] n (fun i v => i < n ∧ ∃ t, v = .int (a₀ + i * 1) t)
      (fun i h => IsRangeIter h s.heap.objs.size (a₀ + (i : Nat) * 1) ((n : Int) - (i : Nat)) 1) := (Walks.range hh _ a₀ 1 n).bound
  have lt0 : ∀ p ∈ Led c₀, p.1 < s.heap.objs.size := fun p hp => Heap.lt_size (N p hp).1
  refine for_at Led ps stored hx P D c₀ W (List.mem_singleton.mpr rfl) ?_ (next_is_new F) (fun i h st => ⟨_, st⟩) ?_ (by show IsRangeIter _ _ _ _ _; rw [hn]; simpa using Heap.get?_push_size _ rfl) (F.push _) (fun p hp => ⟨Heap.get?_push_of_some _ (N p hp).1, (N p hp).2⟩) (fun p hp => Nat.ne_of_lt (lt0 p hp)) hk hp hD ?_ done
  · intro hm
    exact absurd F.ns.lt ((List.mem_singleton.mp hm) ▸ Nat.lt_irrefl _)
  · intro b hb
    exact .inl (List.mem_singleton.mp hb)
  · rintro i c v u h tk oI hi ⟨_, t, rfl⟩ hp1 haI F₂ N₂
    have e1 : a₀ + (i : Int) * 1 = a₀ + (i : Int) := by omega
    rw [e1] at F₂
    exact turn i c t u h tk _ oI hi hp1 lt0 haI F₂ N₂

/-- over the keys of a dict of the ledger -/
theorem dict_at {K : Type} [DecidableEq K] {knd : KeyKind prog w K} {d : Addr} {o : Obj} {kvs : List (K × Value)} (Led : σ → List (Addr × Obj)) (ps : σ → List (Str × Value)) (stored : List Str) (hx : stored.contains x = true) (P : Nat → σ → Prop) (D : σ → Prop) (c₀ : σ)
    (hh : A.handled = none) (lo : (d == sysModules) = false) (hl : ∀ c, (d, o) ∈ Led c) (hd : o.IsDictOf knd kvs) (F : Fr h₀ env.locals s.heap m₀) (N : News h₀ env.locals s.heap (Led c₀)) (hk : ∀ p ∈ ps c₀, m₀ p.1 = some p.2) (hp : P 0 c₀) (hD : ∀ c, P kvs.length c → D c)
    (turn : ∀ i c v k y (u : Str → Option Value) h tk I oI, i < kvs.length → kvs[i]? = some (k, y) → knd.is k v = true → P i c → (∀ p ∈ Led c₀, p.1 < I) → (∀ p ∈ Led c, p.1 ≠ I) → Fr h₀ env.locals h (fun y => if y = x then some v else kstB (fun z => if stored.contains z then u z else m₀ z) (ps c) y) → News h₀ env.locals h (Led c ++ [(I, oI)]) →
      wpAny (model prog w) A (execs body env) (WPost Q (AtI h₀ env.locals s I oI Led ps stored m₀ (P (i + 1))) (At h₀ env.locals s Led ps stored m₀ D)) E { s with heap := h, toks := tk })
    (done : ∀ (c : σ) (u : Str → Option Value) h tk, D c → Fr h₀ env.locals h (kstB (fun z => if stored.contains z then u z else m₀ z) (ps c)) → News h₀ env.locals h (Led c) → Q .next { s with heap := h, toks := tk }) :
    wpAny (model prog w) A (pyIter (.ref d)) (fun it s₂ => LoopAtV prog w A h₀ env x body Q E it s₂) E s := by
  have hol : s.heap.get? d = some o := (N _ (hl c₀)).1
  obtain ⟨es, ep, h1, h2, h3, h4, h5⟩ := hd
  have hda : s.heap.DictAt knd d kvs ep := ⟨o, es, hol, h1, h2, h3, h4, h5⟩
  have hne : d ≠ s.heap.objs.size := Nat.ne_of_lt (Heap.lt_size hol)
  refine wpAny_pyIter_dict lo hda ?_
  have W := Walks.dictKeys (prog := prog) (w := w) (knd := knd) hh s.heap.objs.size d hne kvs ep
  have lt0 : ∀ p ∈ Led c₀, p.1 < s.heap.objs.size := fun p hp => Heap.lt_size (N p hp).1
  refine for_at Led ps stored hx P D c₀ W (List.mem_cons.mpr (.inl rfl)) ?_ (next_is_new F) (fun i h st => let ⟨⟨o, ho, _⟩, _⟩ := st; ⟨o, ho⟩) ?_ ⟨⟨_, Heap.get?_push_size _ rfl, rfl, rfl⟩, hda.at' fun o e => Heap.get?_push_of_some _ e⟩ (F.push _) (fun p hp => ⟨Heap.get?_push_of_some _ (N p hp).1, (N p hp).2⟩) (fun p hp => Nat.ne_of_lt (lt0 p hp)) hk hp hD ?_ done
  · intro hm
    rcases List.mem_cons.mp hm with e | hm
    · exact absurd F.ns.lt (e ▸ Nat.lt_irrefl _)
    · exact (N _ (hl c₀)).2.1 ((List.mem_singleton.mp hm).symm)
  · intro b hb
    rcases List.mem_cons.mp hb with e | hb
    · exact .inl e
    · rw [List.mem_singleton.mp hb]; exact .inr (.inr ⟨_, hl⟩)
  · rintro i c v u h tk oI hi ⟨k, y, hkv, hkis⟩ hp1 haI F₂ N₂
    exact turn i c v k y u h tk _ oI hi hkv hkis hp1 lt0 haI F₂ N₂

/-- over the signs of a text -/
theorem str_at {xs : Str} {t : Tok} (Led : σ → List (Addr × Obj)) (ps : σ → List (Str × Value)) (stored : List Str) (hx : stored.contains x = true) (P : Nat → σ → Prop) (D : σ → Prop) (c₀ : σ)
    (hh : A.handled = none) (F : Fr h₀ env.locals s.heap m₀) (N : News h₀ env.locals s.heap (Led c₀)) (hk : ∀ p ∈ ps c₀, m₀ p.1 = some p.2) (hp : P 0 c₀) (hD : ∀ c, P xs.cps.size c → D c)
    (turn : ∀ i c k tc (u : Str → Option Value) h tk I oI, i < xs.cps.size → xs.cps[i]? = some k → P i c → (∀ p ∈ Led c₀, p.1 < I) → (∀ p ∈ Led c, p.1 ≠ I) → Fr h₀ env.locals h (fun y => if y = x then some (.str ⟨#[k]⟩ tc) else kstB (fun z => if stored.contains z then u z else m₀ z) (ps c) y) → News h₀ env.locals h (Led c ++ [(I, oI)]) →
      wpAny (model prog w) A (execs body env) (WPost Q (AtI h₀ env.locals s I oI Led ps stored m₀ (P (i + 1))) (At h₀ env.locals s Led ps stored m₀ D)) E { s with heap := h, toks := tk })
    (done : ∀ (c : σ) (u : Str → Option Value) h tk, D c → Fr h₀ env.locals h (kstB (fun z => if stored.contains z then u z else m₀ z) (ps c)) → News h₀ env.locals h (Led c) → Q .next { s with heap := h, toks := tk }) :
    wpAny (model prog w) A (pyIter (.str xs t)) (fun it s₂ => LoopAtV prog w A h₀ env x body Q E it s₂) E s := by
  have lt0 : ∀ p ∈ Led c₀, p.1 < s.heap.objs.size := fun p hp => Heap.lt_size (N p hp).1
  have go : ∀ (nm : String) (o : Obj), o.isFreed = false → (∀ (A' : Around), A'.handled = none → Walks prog w A' s.heap.objs.size [s.heap.objs.size] [s.heap.objs.size] xs.cps.size (SignAt xs) (fun i h => h.IsStrIter s.heap.objs.size nm xs t i)) → (s.heap.push o).IsStrIter s.heap.objs.size nm xs t 0 →
      LoopAtV prog w A h₀ env x body Q E (.ref s.heap.objs.size) { s with heap := s.heap.push o } := by
    intro nm o hf W st0
    refine for_at Led ps stored hx P D c₀ (W A hh) (List.mem_singleton.mpr rfl) ?_ (next_is_new F) (fun i h st => let ⟨o, ho, _⟩ := st; ⟨o, ho⟩) (fun b hb => .inl (List.mem_singleton.mp hb)) st0 (F.push _) (fun p hp => ⟨Heap.get?_push_of_some _ (N p hp).1, (N p hp).2⟩) (fun p hp => Nat.ne_of_lt (lt0 p hp)) hk hp hD ?_ done
    · intro hm
      exact absurd F.ns.lt ((List.mem_singleton.mp hm) ▸ Nat.lt_irrefl _)
    · rintro i c v u h tk oI hi ⟨k, tc, hc, rfl⟩ hp1 haI F₂ N₂
      exact turn i c k tc u h tk _ oI hi hc hp1 lt0 haI F₂ N₂
  cases ha : xs.cps.all (· < 128)
  · exact wpAny_pyIter_wide ha (go _ _ rfl (fun A' hA => Walks.strWide hA _ xs t) ⟨_, Heap.get?_push_size _ rfl, rfl, rfl⟩)
  · exact wpAny_pyIter_ascii ha (go _ _ rfl (fun A' hA => Walks.strAscii hA _ xs t) ⟨_, Heap.get?_push_size _ rfl, rfl, rfl⟩)
end loops
end Mine
end
noncomputable section
open PySem PySem.W PySem.Calls PyProof.Rows PyProof
set_option maxRecDepth 100000
set_option Elab.async false
namespace Mine
theorem offTxts : True := by
  w_top off
  trivial
/-- a text by its signs' numbers -/
noncomputable def T (l : List Nat) : Str := ⟨l.toArray⟩
theorem T_len (l : List Nat) : (T l).length = l.length := by simp [T, Str.length]
theorem T_cps (l : List Nat) : (T l).cps.toList = l := rfl
theorem T_inj {a b : List Nat} (h : T a = T b) : a = b := by
  have := congrArg (fun s => s.cps.toList) h
  simpa [T] using this
theorem T_iff {a b : List Nat} : T a = T b ↔ a = b := ⟨T_inj, fun h => h ▸ rfl⟩
theorem T_true {a b : List Nat} (h : (T a == T b) = true) : a = b := T_inj (eq_of_beq h)
theorem T_false {a b : List Nat} (h : (T a == T b) = false) : a ≠ b := fun e => by subst e; simp at h
theorem T_app (a b : List Nat) : T a ++ T b = T (a ++ b) := by
  show Str.append _ _ = _
  simp [Str.append, T]
theorem slice_from {l : List Nat} {n : Nat} (h : n ≤ l.length) : Txt.slice (T l) (some (n : Int)) none = T (l.drop n) := by
  have e := slice_from_eq (x := T l) (i := (n : Int)) (b := (l.length : Int)) (by omega) (by rw [T_len]; omega) (by rw [T_len])
  rw [e]
  have : ((l.length : Int) - (n : Int)).toNat = l.length - n := by omega
  rw [this]
  show (⟨(((T l).cps.toList.drop n).take (l.length - n)).toArray⟩ : Str) = T (l.drop n)
  rw [T_cps, List.take_of_length_le (by rw [List.length_drop]; omega)]
  rfl
theorem slice_to {l : List Nat} {n : Nat} (h : n ≤ l.length) : Txt.slice (T l) none (some (n : Int)) = T (l.take n) := by
  have e := eq_of_beq (slice_closes_toL (x := T l) (j := (n : Int)) (by omega) (by rw [T_len]; omega))
  rw [e]
  have : ((n : Int) - 0).toNat = n := by omega
  rw [this]
  rfl
theorem slice_to_neg {l : List Nat} {k : Nat} (h0 : 0 < k) (h : k ≤ l.length) : Txt.slice (T l) none (some (-(k : Int))) = T (l.take (l.length - k)) := by
  have e : Txt.slice (T l) none (some (-(k : Int))) = Txt.slice (T l) none (some (-(k : Int) + (T l).length)) := StrLaws.sliceText_neg_hi (T l) none (by omega) (by rw [T_len]; omega)
  rw [e, T_len]
  have : -(k : Int) + (l.length : Int) = ((l.length - k : Nat) : Int) := by omega
  rw [this]
  exact slice_to (by omega)
theorem slice_none (l : List Nat) : Txt.slice (T l) none none = T l := by
  have e : Txt.slice (T l) none none = Txt.slice (T l) (some ((0 : Nat) : Int)) none := by
    show StrLaws.sliceText (T l) none none = StrLaws.sliceText (T l) (some 0) none
    unfold StrLaws.sliceText
    rw [StrLaws.sliceIdx_none_lo]
  rw [e, slice_from (Nat.zero_le _)]
  rfl
theorem slice_ab {l : List Nat} {a b : Nat} (h0 : a ≤ b) (h : b ≤ l.length) : Txt.slice (T l) (some (a : Int)) (some (b : Int)) = T ((l.drop a).take (b - a)) := by
  have e := eq_of_beq (slice_closesL (x := T l) (i := (a : Int)) (j := (b : Int)) (by omega) (by omega) (by rw [T_len]; omega))
  rw [e]
  have : ((b : Int) - (a : Int)).toNat = b - a := by omega
  rw [this]
  rfl
theorem item_at {l : List Nat} {i : Nat} {c : Nat} (h : l[i]? = some c) : Txt.item (T l) (i : Int) = T [c] := by
  have e : Txt.charAt (T l) (i : Int) = some c := StrLaws.at_nonneg (by omega) (by simpa [T] using h)
  unfold Txt.item
  rw [e]
  rfl
theorem item_neg {l : List Nat} {k : Nat} {c : Nat} {j : Int} (hj : j = -(k : Int)) (h0 : 0 < k) (hk : k ≤ l.length) (h : l[l.length - k]? = some c) : Txt.item (T l) j = T [c] := by
  subst hj
  have e : Txt.charAt (T l) (-(k : Int)) = some c := StrLaws.at_neg (by omega) (by rw [T_len]; omega) (by
    rw [T_len]
    have : (-(k : Int) + (l.length : Int)).toNat = l.length - k := by omega
    rw [this]
    simpa [T] using h)
  unfold Txt.item
  rw [e]
  rfl

section
variable {prog : Program} {w : World} {A : Around} {E : Value → Shared → Prop} {s : Shared} {name : Str} {scope : Scope} {L a : Addr} {cd : Value} {h₀ : Heap} {m : Str → Option Value} {news : List (Addr × Obj)}
/-- v[:k or None], k an int below nought or nought -/
theorem slice_post {v k : Str} {l : List Nat} {j : Nat} {t tk : Tok} {p1 p2 p3 p4 p5 p6 : Pos} {Q : Value → Shared → Prop} (F : Fr h₀ L s.heap m) (N : News h₀ L s.heap news)
    (hv : m v = some (.str (T l) t)) (hk : m k = some (.int (-(j : Int)) tk)) (hj : j ≤ l.length) (hl : l.length ≤ 1000)
    (h : ∀ h' t' k', Fr h₀ L h' m → News h₀ L h' news → Q (.str (T (l.take (l.length - j))) t') { s with heap := h', toks := k' })
    (hkind : scope.kind = .function := by rfl) (hlv : (envOf name scope L a cd).kindOf v = some .local := by rfl) (hlk : (envOf name scope L a cd).kindOf k = some .local := by rfl)
    (hdv : (v == ("__debug__" : Str)) = false := by decide) (hdk : (k == ("__debug__" : Str)) = false := by decide) :
    wpAny (model prog w) A (eval (.Subscript (.Name v p1) (.Slice none (some (.BoolOp .Or [.Name k p2, .Constant .none 0 p3] p4)) none p5) p6) (envOf name scope L a cd)) Q E s := by
  refine Subscript_ (ld F hv ?_ hkind hlv hdv)
  refine wpAny_Slice (evalPart_none_step (evalPart_some_step (BoolOp_or (ld F hk ?_ hkind hlk hdk))))
  refine P.truthy_int ?_
  have hlen : (T l).length ≤ sizeLine := by rw [T_len]; unfold sizeLine; omega
  by_cases h0 : j = 0
  · subst h0
    rw [if_neg (by simp)]
    refine BoolOp_one ?_
    show wpAny _ _ (pure Value.none) _ _ _
    refine wpAny_pure (evalPart_none_step ?_)
    refine slice_strN_nn (s := ⟨_, _, _, _, _⟩) F N (fun h' t' k' F' N' => ?_) (by with_unfolding_all rfl) (by intro _; with_unfolding_all rfl) hlen
    rw [slice_none]
    have := h h' t' k' F' N'
    simpa using this
  · rw [if_pos (by simp; omega)]
    refine evalPart_none_step ?_
    refine slice_strN_ns (s := ⟨_, _, _, _, _⟩) F N (fun h' t' k' F' N' => ?_) (by with_unfolding_all rfl) (by intro _; with_unfolding_all rfl) hlen
    rw [slice_to_neg (by omega) hj]
    exact h h' t' k' F' N'
end
/-- what two texts have alike at their heads falls away -/
noncomputable def stripL : List Nat → List Nat → List Nat × List Nat
  | x :: xs, y :: ys => if x = y then stripL xs ys else (x :: xs, y :: ys)
  | xs, ys => (xs, ys)
noncomputable def stripR (a b : List Nat) : List Nat × List Nat := ((stripL a.reverse b.reverse).1.reverse, (stripL a.reverse b.reverse).2.reverse)
theorem stripL_step {a b : List Nat} {i : Nat} {c : Nat} (h1 : a[i]? = some c) (h2 : b[i]? = some c) : stripL (a.drop i) (b.drop i) = stripL (a.drop (i + 1)) (b.drop (i + 1)) := by
  obtain ⟨l1, e1⟩ := List.getElem?_eq_some_iff.mp h1
  obtain ⟨l2, e2⟩ := List.getElem?_eq_some_iff.mp h2
  rw [List.drop_eq_getElem_cons l1, List.drop_eq_getElem_cons l2, e1, e2, stripL, if_pos rfl]
theorem stripL_done {a b : List Nat} {i : Nat} (h : ∀ c d, a[i]? = some c → b[i]? = some d → c ≠ d) : stripL (a.drop i) (b.drop i) = (a.drop i, b.drop i) := by
  by_cases l1 : i < a.length
  · by_cases l2 : i < b.length
    · rw [List.drop_eq_getElem_cons l1, List.drop_eq_getElem_cons l2, stripL, if_neg]
      exact h _ _ (List.getElem?_eq_getElem l1) (List.getElem?_eq_getElem l2)
    · rw [List.drop_of_length_le (by omega : b.length ≤ i)]
      cases a.drop i <;> rfl
  · rw [List.drop_of_length_le (by omega : a.length ≤ i)]
    rfl
theorem rev_take {a : List Nat} {k : Nat} (h : k ≤ a.length) : (a.take (a.length - k)).reverse = a.reverse.drop k := by
  rw [List.reverse_take]
  congr 1
  omega
theorem stripR_step {a b : List Nat} {k : Nat} {c : Nat} (ha : k < a.length) (hb : k < b.length) (h1 : a[a.length - (k + 1)]? = some c) (h2 : b[b.length - (k + 1)]? = some c) :
    stripR (a.take (a.length - k)) (b.take (b.length - k)) = stripR (a.take (a.length - (k + 1))) (b.take (b.length - (k + 1))) := by
  unfold stripR
  rw [rev_take (by omega), rev_take (by omega), rev_take (by omega), rev_take (by omega)]
  rw [stripL_step (c := c) (by rw [List.getElem?_reverse ha]; rw [← h1]; congr 1; omega) (by rw [List.getElem?_reverse hb]; rw [← h2]; congr 1; omega)]
theorem stripR_done {a b : List Nat} {k : Nat} (ha : k ≤ a.length) (hb : k ≤ b.length) (h : ∀ c d, k < a.length → k < b.length → a[a.length - (k + 1)]? = some c → b[b.length - (k + 1)]? = some d → c ≠ d) :
    stripR (a.take (a.length - k)) (b.take (b.length - k)) = (a.take (a.length - k), b.take (b.length - k)) := by
  unfold stripR
  rw [rev_take ha, rev_take hb, stripL_done]
  · rw [← rev_take ha, ← rev_take hb, List.reverse_reverse, List.reverse_reverse]
  · intro c d hc hd
    obtain ⟨l1, _⟩ := List.getElem?_eq_some_iff.mp hc
    obtain ⟨l2, _⟩ := List.getElem?_eq_some_iff.mp hd
    rw [List.length_reverse] at l1 l2
    refine h c d l1 l2 ?_ ?_
    · rw [List.getElem?_reverse l1] at hc; rw [← hc]; congr 1; omega
    · rw [List.getElem?_reverse l2] at hd; rw [← hd]; congr 1; omega
/-- a cell of the distances: by the cell ahead, the one beside and the one behind -/
noncomputable def cellV (bc x : Nat) (d r w : Int) : Int :=
  if (d + if bc = x then 0 else 2) < (if w < r then w else r) + 2 then d + if bc = x then 0 else 2 else (if w < r then w else r) + 2
/-- one row of the distances: the row behind, the last cell, the least cell -/
noncomputable def inner (bc : Nat) : List Nat → List Int → Int → Int → Int → List Int × Int × Int
  | x :: xs, w :: ws, d, r, m =>
    let r' := cellV bc x d r w
    let q := inner bc xs ws w r' (if r' < m then r' else m)
    (r' :: q.1, q.2)
  | _, ws, _, r, m => (ws, r, m)
noncomputable def outer (a : List Nat) (c : Int) : List Nat → Int → List Int → Int → Int
  | [], _, _, res => res
  | y :: ys, k, row, _ =>
    let q := inner y a row (k * 2) (k * 2) 9223372036854775807
    if c < q.2.2 then c + 1 else outer a c ys (k + 1) q.1 q.2.1
theorem inner_step {y x : Nat} {p : List Nat} {ns : List Int} {j : Nat} {d r m m' : Int} {X : List Int × Int × Int} (hx : p[j]? = some x) (hj : j < ns.length)
    (g : X = (ns.take j ++ (inner y (p.drop j) (ns.drop j) d r m).1, (inner y (p.drop j) (ns.drop j) d r m).2)) (hm : m' = if cellV y x d r (ns.getD j 0) < m then cellV y x d r (ns.getD j 0) else m) :
    X = ((ns.set j (cellV y x d r (ns.getD j 0))).take (j + 1) ++ (inner y (p.drop (j + 1)) ((ns.set j (cellV y x d r (ns.getD j 0))).drop (j + 1)) (ns.getD j 0) (cellV y x d r (ns.getD j 0)) m').1,
      (inner y (p.drop (j + 1)) ((ns.set j (cellV y x d r (ns.getD j 0))).drop (j + 1)) (ns.getD j 0) (cellV y x d r (ns.getD j 0)) m').2) := by
  obtain ⟨l1, e1⟩ := List.getElem?_eq_some_iff.mp hx
  have e2 : ns.getD j 0 = ns[j] := by simp [List.getD, hj]
  rw [e2] at hm ⊢
  subst hm
  rw [g, List.drop_eq_getElem_cons l1, List.drop_eq_getElem_cons hj, e1, inner]
  try dsimp only
  have e3 : (ns.set j (cellV y x d r ns[j])).drop (j + 1) = ns.drop (j + 1) := by
    rw [List.drop_set, if_pos (by omega)]
  have e4 : (ns.set j (cellV y x d r ns[j])).take (j + 1) = ns.take j ++ [cellV y x d r ns[j]] := by
    rw [List.take_add_one, List.take_set, List.set_eq_of_length_le (by rw [List.length_take]; omega)]
    simp [hj]
  rw [e3, e4, List.append_assoc]
  rfl
theorem outer_step {a b : List Nat} {c : Int} {i : Nat} {y : Nat} {ns ns' : List Int} {res r m : Int} (hy : b[i]? = some y) (h : inner y a ns ((i : Int) * 2) ((i : Int) * 2) 9223372036854775807 = (ns', r, m)) :
    outer a c (b.drop i) (i : Int) ns res = if c < m then c + 1 else outer a c (b.drop (i + 1)) ((i + 1 : Nat) : Int) ns' r := by
  obtain ⟨l1, e1⟩ := List.getElem?_eq_some_iff.mp hy
  rw [List.drop_eq_getElem_cons l1, e1, outer]
  try dsimp only
  rw [h]
  rfl
noncomputable def levD (a b : List Nat) (c : Int) : Int :=
  if ((b.length : Int) - (a.length : Int)) * 2 > c then c + 1
  else outer a c b 0 ((List.range a.length).map fun (i : Nat) => 2 + (i : Nat) * (2 : Int)) 0
noncomputable def levM (a b : List Nat) (c : Int) : Int :=
  if a = b then 0 else
    let p := stripL a b
    let q := stripR p.1 p.2
    if q.1 = [] ∨ q.2 = [] then 2 * ((q.1.length : Int) + (q.2.length : Int))
    else if q.2.length < q.1.length then levD q.2 q.1 c else levD q.1 q.2 c

theorem range2_size (n : Nat) : Builtin.Range.rangeSize 2 (2 * ((n : Int) + 1)) 2 = (n : Int) := by
  unfold Builtin.Range.rangeSize
  rw [if_pos (by decide)]
  split <;> omega
theorem range2_small {n : Nat} (h : n ≤ 1000) : Builtin.Range.small 2 (2 * ((n : Int) + 1)) 2 = true := by
  unfold Builtin.Range.small
  rw [range2_size]
  have fits : ∀ x : Int, -5000 ≤ x → x ≤ 5000 → Builtin.Range.rangeFitsLong x = true := fun x h1 h2 => by
    unfold Builtin.Range.rangeFitsLong
    rw [Bool.and_eq_true]
    exact ⟨decide_eq_true (by omega), decide_eq_true (by omega)⟩
  simp only [Bool.and_eq_true, Bool.or_eq_true]
  exact ⟨⟨⟨⟨fits _ (by omega) (by omega), fits _ (by omega) (by omega)⟩, fits _ (by omega) (by omega)⟩, fits _ (by omega) (by omega)⟩, .inr (by rw [if_pos (by decide)]; exact fits _ (by omega) (by omega))⟩
section
variable {prog : Program} {w : World} {A : Around} {E : Value → Shared → Prop} {s : Shared} {h₀ : Heap} {L : Addr} {m : Str → Option Value} {Q : Value → Shared → Prop}
theorem list_range_led {r : Addr} {n : Nat} {t u v : Tok} {news : List (Addr × Obj)} {b : Int} (hh : A.handled = none) (F : Fr h₀ L s.heap m) (N : News h₀ L s.heap news)
    (hr : IsRange s.heap r 2 b 2 t u v) (hb : b = 2 * ((n : Int) + 1)) (hlen : n ≤ 1000)
    (hQ : ∀ R h' tk (ys : List Value) nn, IntsAre ys (rangeInts 2 2 n) → (∀ p ∈ news, p.1 < R) → Fr h₀ L h' m → News h₀ L h' ((R, listOf ys.toArray nn) :: news) → Q (.ref R) { s with heap := h', toks := tk }) :
    wpAny (model prog w) A (call (.type "list") [.ref r]) Q E s := by
  subst hb
  refine list_rangeD hh F N hr (range2_small hlen) (range2_size n) (by omega) fun h' tk ys F' N' hk h0 hl hp hc => ?_
  obtain ⟨⟨nn, hpl⟩, hne⟩ := hp
  have lt0 : ∀ p ∈ news, p.1 < s.heap.objs.size := fun p hp => Heap.lt_size (N p hp).1
  refine hQ _ h' tk ys nn (CarriedAll.intsOf (f := id) (by simpa using hc) |> fun x => by simpa using x) lt0 F' ?_
  intro p hp
  rcases List.mem_cons.mp hp with rfl | hp
  · exact ⟨hpl, fun e => absurd F.ns.lt (e ▸ Nat.lt_irrefl _), h0⟩
  · exact N' p hp
end
end Mine
end
noncomputable section
open PySem PySem.W PySem.Calls PyProof.Rows PyProof
set_option Elab.async false
set_option maxRecDepth 100000
set_option maxHeartbeats 8000000
namespace Mine
theorem offSub : True := by
  w_top off
  trivial
/-- a sign that has no other case -/
noncomputable def Low (c : Nat) : Prop := c < 65 ∨ (90 < c ∧ c < 128)
theorem lower_low0 : ∀ c, c < 128 → (c < 65 ∨ (90 < c ∧ c < 128)) → Txt.lower (T [c]) = T [c] := by decide +kernel
theorem lower_low : ∀ c, c < 128 → Low c → Txt.lower (T [c]) = T [c] := lower_low0
theorem low_lt {c : Nat} (h : Low c) : c < 128 := by unfold Low at h; omega
section
variable {prog : Program} {w : World} {A : Around} {E : Value → Shared → Prop} {s : Shared}
theorem call_low {c : Nat} {t : Tok} {Q : Value → Shared → Prop} (hc : Low c) (h : Q (.str (T [c]) s.toks) { s with toks := s.toks + 1 }) : wpAny (model prog w) A (call (.builtin "str.lower") [.str (T [c]) t]) Q E s := by
  refine SCL.lower (by rw [T_len]; exact Nat.le_of_ble_eq_true rfl) fun _ => ?_
  rw [lower_low c (low_lt hc) hc]
  exact h
end
theorem sub_con (w : World) (c d : Nat) (t u : Tok) (hc : Low c) (hd : Low d) : Con w 3 21 [.str (T [c]) t, .str (T [d]) u] (fun r tl => tl = [] ∧ ∃ t', r = .int (if c = d then 0 else 2) t') := by
  unfold Con
  k_fill
  intro loose mean mg mb dp un gd cn cs a ccd cl outer A₀ base h₀ L m news s Q E B F X N TT hk hdp hun hret
  refine wpAny_call ?_
  k_dflt cell_enter
  (repeat' (first | (k_unfold; (try dsimp only)) | ((with_reducible refine wpAny_execs_cons ?_); (try dsimp only)) | ((with_reducible refine call_low (by assumption) ?_)) | walk1 | (dsimp only; walk1)))
  · rename (T [c] == T [d]) = true => he
    refine hret _ [] _ _ (by assumption) (by assumption) tl0 ⟨rfl, ktn_int ?_⟩
    have := T_true he
    rw [if_pos (by simpa using this)]
  all_goals (
    rename (T [c] == T [d]) = false => he
    have hne : c ≠ d := fun e => T_false he (by rw [e]))
  · refine hret _ [] _ _ (by assumption) (by assumption) tl0 ⟨rfl, ktn_int ?_⟩
    rw [if_neg hne]
theorem sub_use (w : World) (x y : Str) (c d : Nat) (t u : Tok) (hx : x = T [c]) (hy : y = T [d]) (hc : Low c) (hd : Low d) : Con w 3 21 [.str x t, .str y u] (fun r tl => tl = [] ∧ ∃ t', r = .int (if c = d then 0 else 2) t') := by
  subst hx hy
  exact sub_con w c d t u hc hd
end Mine
end
noncomputable section

open PySem PySem.W PySem.Calls PyProof.Rows
set_option Elab.async false
set_option maxRecDepth 100000
set_option maxHeartbeats 8000000
namespace Mine
theorem offLev : True := by
  w_top off
  trivial
-- names of a frame: those that a loop does not store
structure RS where
  vs : List Value
  ns : List Int
  nn : Nat
  res : Int
  t : Tok
structure IS where
  vs : List Value
  ns : List Int
  nn : Nat
  d : Int
  td : Tok
  r : Int
  tr : Tok
  m : Int
  tm : Tok
local macro_rules | `(tactic| k_all) => `(tactic| assumption)
theorem led_in {e t : Addr × Obj} {l : List (Addr × Obj)} : ∀ p ∈ e :: l, p ∈ e :: (l ++ [t]) := fun p hp => (List.mem_cons.mp hp).elim (fun h => h ▸ .head _) fun h => .tail _ (List.mem_append_left _ h)
theorem led_it {e t : Addr × Obj} {l : List (Addr × Obj)} : t ∈ e :: (l ++ [t]) := .tail _ (List.mem_append_right _ (.head _))
theorem led_off {R J : Addr} {o o' : Obj} {l : List (Addr × Obj)} (h : ∀ p ∈ (R, o) :: l, p.1 ≠ J) : ∀ p ∈ (R, o') :: l, p.1 ≠ J := fun p hp => (List.mem_cons.mp hp).elim (fun e => by rw [e]; exact h (R, o) (.head _)) fun hp => h p (.tail _ hp)
theorem off_R {R I J : Addr} {oI oJ oR : Obj} {news : List (Addr × Obj)} (hlt : ∀ p ∈ news, p.1 < R) (hI : ∀ p ∈ (R, oR) :: news, p.1 ≠ I) {oR' : Obj} (hJ : ∀ p ∈ (R, oR') :: (news ++ [(I, oI)]), p.1 ≠ J) :
    ∀ p ∈ news ++ [(I, oI)] ++ [(J, oJ)], p.1 ≠ R := by
  intro p hp
  rcases List.mem_append.mp hp with hp | hp
  · rcases List.mem_append.mp hp with hp | hp
    · exact Nat.ne_of_lt (hlt p hp)
    · rw [List.mem_singleton.mp hp]; exact fun e => hI _ (.head _) e.symm
  · rw [List.mem_singleton.mp hp]; exact fun e => hJ _ (.head _) e.symm
theorem post_next {x y : List Nat} {k : Nat} (h1 : k < x.length) (h2 : k < y.length) (hq : (Txt.item (T x) (-(k : Int) - 1) == Txt.item (T y) (-(k : Int) - 1)) = true) (h : stripR (x.take (x.length - k)) (y.take (y.length - k)) = stripR x y) :
    stripR (x.take (x.length - (k + 1))) (y.take (y.length - (k + 1))) = stripR x y := by
  have l1 : x.length - (k + 1) < x.length := by omega
  have l2 : y.length - (k + 1) < y.length := by omega
  rw [item_neg (k := k + 1) (by omega) (by omega) (by omega) (List.getElem?_eq_getElem l1), item_neg (k := k + 1) (by omega) (by omega) (by omega) (List.getElem?_eq_getElem l2)] at hq
  have e := T_true hq
  rw [← h]
  exact (stripR_step (c := x[x.length - (k + 1)]) h1 h2 (List.getElem?_eq_getElem l1) (by rw [List.getElem?_eq_getElem l2]; simpa using e.symm)).symm
theorem post_done {x y : List Nat} {k : Nat} (h1 : k < x.length) (h2 : k < y.length) (hq : (Txt.item (T x) (-(k : Int) - 1) == Txt.item (T y) (-(k : Int) - 1)) = false) (h : stripR (x.take (x.length - k)) (y.take (y.length - k)) = stripR x y) :
    stripR x y = (x.take (x.length - k), y.take (y.length - k)) := by
  have l1 : x.length - (k + 1) < x.length := by omega
  have l2 : y.length - (k + 1) < y.length := by omega
  rw [item_neg (k := k + 1) (by omega) (by omega) (by omega) (List.getElem?_eq_getElem l1), item_neg (k := k + 1) (by omega) (by omega) (by omega) (List.getElem?_eq_getElem l2)] at hq
  have e := T_false hq
  rw [← h]
  refine stripR_done (by omega) (by omega) fun c d _ _ hc hd => ?_
  rw [List.getElem?_eq_getElem l1] at hc
  rw [List.getElem?_eq_getElem l2] at hd
  cases hc; cases hd
  simpa using e
theorem post_out {x y : List Nat} {k : Nat} (h1 : k ≤ x.length) (h2 : k ≤ y.length) (h0 : x.length ≤ k ∨ y.length ≤ k) (h : stripR (x.take (x.length - k)) (y.take (y.length - k)) = stripR x y) :
    stripR x y = (x.take (x.length - k), y.take (y.length - k)) := by
  rw [← h]
  refine stripR_done h1 h2 fun c d hc hd => ?_
  omega
theorem pre_next {x y : List Nat} {i : Nat} (h1 : i < x.length) (h2 : i < y.length) (hq : (Txt.item (T x) (i : Int) == Txt.item (T y) (i : Int)) = true) (h : stripL (x.drop i) (y.drop i) = stripL x y) : stripL (x.drop (i + 1)) (y.drop (i + 1)) = stripL x y := by
  rw [item_at (List.getElem?_eq_getElem h1), item_at (List.getElem?_eq_getElem h2)] at hq
  have e := T_true hq
  rw [← h]
  exact (stripL_step (c := x[i]) (List.getElem?_eq_getElem h1) (by rw [List.getElem?_eq_getElem h2]; simpa using e.symm)).symm
theorem pre_done {x y : List Nat} {i : Nat} (h1 : i < x.length) (h2 : i < y.length) (hq : (Txt.item (T x) (i : Int) == Txt.item (T y) (i : Int)) = false) (h : stripL (x.drop i) (y.drop i) = stripL x y) : stripL x y = (x.drop i, y.drop i) := by
  rw [item_at (List.getElem?_eq_getElem h1), item_at (List.getElem?_eq_getElem h2)] at hq
  have e := T_false hq
  rw [← h]
  refine stripL_done fun c d hc hd => ?_
  rw [List.getElem?_eq_getElem h1] at hc
  rw [List.getElem?_eq_getElem h2] at hd
  cases hc; cases hd
  simpa using e
theorem pre_out {x y : List Nat} {i : Nat} (h1 : x.length ≤ i ∨ y.length ≤ i) (h : stripL (x.drop i) (y.drop i) = stripL x y) : stripL x y = (x.drop i, y.drop i) := by
  rw [← h]
  refine stripL_done fun c d hc hd => ?_
  obtain ⟨a, _⟩ := List.getElem?_eq_some_iff.mp hc
  obtain ⟨b, _⟩ := List.getElem?_eq_some_iff.mp hd
  omega
theorem lev_con (w : World) (x y : List Nat) (cst : Int) (t u v : Tok) (hx0 : x.length ≤ 4) (hy0 : y.length ≤ 4) (hxl : ∀ k ∈ x, Low k) (hyl : ∀ k ∈ y, Low k) : Con w 6 28 [.str (T x) t, .str (T y) u, .int cst v] (fun r tl => tl = [] ∧ ∃ t', r = .int (levM x y cst) t') := by
  unfold Con
  k_fill
  intro loose mean mg mb dp un gd cn cs a ccd cl otr A₀ base h₀ L m news s Q E B F X N TT hk hdp hun hret
  have hx := T_len x
  have hy := T_len y
  refine wpAny_call ?_
  k_dflt cell_enter
  (repeat' ((fail_if_success (with_reducible show wpAny _ _ (exec (Stmt.While _ _ _ _) _) _ _ _)); (fail_if_success (with_reducible show wpAny _ _ (pyIter _) (fun it s₂ => LoopAtV _ _ _ _ _ _ _ _ _ it s₂) _ _)); (fail_if_success (with_reducible show At _ _ _ _ _ _ _ _ _)); (fail_if_success (with_reducible show WPost _ _ _ _ _)); (fail_if_success (with_reducible show wpAny _ _ (exec (Stmt.If _ [Stmt.Assign [Expr.Tuple _ _ _] _ _] [] _) _) _ _ _)); (fail_if_success (with_reducible show wpAny _ _ (call (Value.type "list") _) _ _ _)); (fail_if_success (with_reducible show AtI _ _ _ _ _ _ _ _ _ _ _)); first | (k_unfold; (try dsimp only)) | ((with_reducible refine wpAny_execs_cons ?_); (try dsimp only)) | (with_reducible (k_here; (with_reducible show wpAny _ _ (call (Value.ref 21) [Value.str _ _, Value.str _ _]) _ _ _); k_dflt (refine' Con.use (sub_use _ _ _ _ _ _ _ ?hx ?hy ?hc ?hd) ?B ?F ?X ?N ?T ?hk ?dp ?un ?_; (case hx => assumption); (case hy => assumption); (case hc => assumption); (case hd => assumption); (case B => k_asm); (case F => k_asm); (case X => k_asm); (case N => k_asm); (case T => k_asm); (case hk => rfl); (case dp => ktr_room); (case un => ktr_units)); (intro r9 tl9 h9 tk9 F9 N9 o9 q9); (obtain ⟨a9, t9, b9⟩ := q9); (subst a9; subst b9); (try simp only [List.nil_append] at N9); (try dsimp only))) | (with_reducible (k_here; (with_reducible show wpAny _ _ (eval (Expr.Subscript (Expr.Name _ _) (Expr.Slice none (some (Expr.BoolOp BoolOp.Or [_, _] _)) none _) _) _) _ _ _); k_dflt (refine' slice_post ?F ?N ?v ?k ?j ?l ?_; (case F => k_asm); (case N => k_asm); (case v => exact rfl); (case k => exact rfl); (case j => omega); (case l => omega)); intro _ _ _ _ _)) | walk1 | (dsimp only; walk1)))
  · rename (T x == T y) = true => he
    refine hret _ [] _ _ (by assumption) (by assumption) tl0 ⟨rfl, ktn_int ?_⟩
    rw [levM, if_pos (T_true he)]
  · rename (T x == T y) = false => he
    rename Fr _ _ _ _ => F1
    rename News _ _ _ _ => N1
    refine while_at (σ := Nat × Tok) (fun _ => news) (fun c => [(Str.ofString "pre", .int (c.1:Int) c.2)]) [Str.ofString "pre"] (fun c => c.1 ≤ x.length ∧ c.1 ≤ y.length ∧ stripL (x.drop c.1) (y.drop c.1) = stripL x y) (fun c => c.1 ≤ x.length ∧ c.1 ≤ y.length ∧ stripL x y = (x.drop c.1, y.drop c.1)) (fun c => x.length - c.1) (0, ?tk0) F1 N1 ?hk ?hp ?turn ?done
    case hk => kst_all
    case hp => exact ⟨Nat.zero_le _, Nat.zero_le _, rfl⟩
    case turn =>
      clear F1 N1
      rintro ⟨pre, tp⟩ u1 h1 tk1 ⟨hp1, hp2, hp3⟩ F2 N2
      dsimp only at F2 N2 hp1 hp2 hp3
      (repeat' ((fail_if_success (with_reducible show wpAny _ _ (exec (Stmt.While _ _ _ _) _) _ _ _)); (fail_if_success (with_reducible show wpAny _ _ (pyIter _) (fun it s₂ => LoopAtV _ _ _ _ _ _ _ _ _ it s₂) _ _)); (fail_if_success (with_reducible show At _ _ _ _ _ _ _ _ _)); (fail_if_success (with_reducible show WPost _ _ _ _ _)); (fail_if_success (with_reducible show wpAny _ _ (exec (Stmt.If _ [Stmt.Assign [Expr.Tuple _ _ _] _ _] [] _) _) _ _ _)); (fail_if_success (with_reducible show wpAny _ _ (call (Value.type "list") _) _ _ _)); (fail_if_success (with_reducible show AtI _ _ _ _ _ _ _ _ _ _ _)); first | (k_unfold; (try dsimp only)) | ((with_reducible refine wpAny_execs_cons ?_); (try dsimp only)) | (with_reducible (k_here; (with_reducible show wpAny _ _ (call (Value.ref 21) [Value.str _ _, Value.str _ _]) _ _ _); k_dflt (refine' Con.use (sub_use _ _ _ _ _ _ _ ?hx ?hy ?hc ?hd) ?B ?F ?X ?N ?T ?hk ?dp ?un ?_; (case hx => assumption); (case hy => assumption); (case hc => assumption); (case hd => assumption); (case B => k_asm); (case F => k_asm); (case X => k_asm); (case N => k_asm); (case T => k_asm); (case hk => rfl); (case dp => ktr_room); (case un => ktr_units)); (intro r9 tl9 h9 tk9 F9 N9 o9 q9); (obtain ⟨a9, t9, b9⟩ := q9); (subst a9; subst b9); (try simp only [List.nil_append] at N9); (try dsimp only))) | (with_reducible (k_here; (with_reducible show wpAny _ _ (eval (Expr.Subscript (Expr.Name _ _) (Expr.Slice none (some (Expr.BoolOp BoolOp.Or [_, _] _)) none _) _) _) _ _ _); k_dflt (refine' slice_post ?F ?N ?v ?k ?j ?l ?_; (case F => k_asm); (case N => k_asm); (case v => exact rfl); (case k => exact rfl); (case j => omega); (case l => omega)); intro _ _ _ _ _)) | walk1 | (dsimp only; walk1)))
      · rename (Txt.item _ _ == Txt.item _ _) = true => hq
        have l1 : pre < x.length := by omega
        have l2 : pre < y.length := by omega
        dsimp only [WPost]
        refine At.intro (pre + 1, ?tz1) (by k_asm) (by k_asm) (fun _ h => h) ?hk (by ((intro z hz; (simp only [List.contains_cons, List.contains_nil, Bool.or_false, Bool.or_eq_false_iff, beq_eq_false_iff_ne, ne_eq] at hz); (simp [hz, kstB]; done)))) ⟨⟨by omega, by omega, pre_next l1 l2 hq hp3⟩, by dsimp only; omega⟩
        case hk => kst_all
      · rename (Txt.item _ _ == Txt.item _ _) = false => hq
        have l1 : pre < x.length := by omega
        have l2 : pre < y.length := by omega
        refine At.intro (pre, ?tz2) (by k_asm) (by k_asm) (fun _ h => h) ?hk (by ((intro z hz; (simp only [List.contains_cons, List.contains_nil, Bool.or_false, Bool.or_eq_false_iff, beq_eq_false_iff_ne, ne_eq] at hz); (simp [hz, kstB]; done)))) ⟨by omega, by omega, pre_done l1 l2 hq hp3⟩
        case hk => kst_all
      · have l2 : y.length ≤ pre := by omega
        refine At.intro (pre, ?tz3) (by k_asm) (by k_asm) (fun _ h => h) ?hk (by ((intro z hz; (simp only [List.contains_cons, List.contains_nil, Bool.or_false, Bool.or_eq_false_iff, beq_eq_false_iff_ne, ne_eq] at hz); (simp [hz, kstB]; done)))) ⟨by omega, by omega, pre_out (.inr l2) hp3⟩
        case hk => kst_all
      · have l2 : x.length ≤ pre := by omega
        refine At.intro (pre, ?tz4) (by k_asm) (by k_asm) (fun _ h => h) ?hk (by ((intro z hz; (simp only [List.contains_cons, List.contains_nil, Bool.or_false, Bool.or_eq_false_iff, beq_eq_false_iff_ne, ne_eq] at hz); (simp [hz, kstB]; done)))) ⟨by omega, by omega, pre_out (.inl l2) hp3⟩
        case hk => kst_all
    case done =>
      clear F1 N1
      rintro ⟨pre, tp⟩ u1 h1 tk1 ⟨hp1, hp2, hp3⟩ F2 N2
      dsimp only at F2 N2 hp1 hp2 hp3
      (repeat' ((fail_if_success (with_reducible show wpAny _ _ (exec (Stmt.While _ _ _ _) _) _ _ _)); (fail_if_success (with_reducible show wpAny _ _ (pyIter _) (fun it s₂ => LoopAtV _ _ _ _ _ _ _ _ _ it s₂) _ _)); (fail_if_success (with_reducible show At _ _ _ _ _ _ _ _ _)); (fail_if_success (with_reducible show WPost _ _ _ _ _)); (fail_if_success (with_reducible show wpAny _ _ (exec (Stmt.If _ [Stmt.Assign [Expr.Tuple _ _ _] _ _] [] _) _) _ _ _)); (fail_if_success (with_reducible show wpAny _ _ (call (Value.type "list") _) _ _ _)); (fail_if_success (with_reducible show AtI _ _ _ _ _ _ _ _ _ _ _)); first | (k_unfold; (try dsimp only)) | ((with_reducible refine wpAny_execs_cons ?_); (try dsimp only)) | (with_reducible (k_here; (with_reducible show wpAny _ _ (call (Value.ref 21) [Value.str _ _, Value.str _ _]) _ _ _); k_dflt (refine' Con.use (sub_use _ _ _ _ _ _ _ ?hx ?hy ?hc ?hd) ?B ?F ?X ?N ?T ?hk ?dp ?un ?_; (case hx => assumption); (case hy => assumption); (case hc => assumption); (case hd => assumption); (case B => k_asm); (case F => k_asm); (case X => k_asm); (case N => k_asm); (case T => k_asm); (case hk => rfl); (case dp => ktr_room); (case un => ktr_units)); (intro r9 tl9 h9 tk9 F9 N9 o9 q9); (obtain ⟨a9, t9, b9⟩ := q9); (subst a9; subst b9); (try simp only [List.nil_append] at N9); (try dsimp only))) | (with_reducible (k_here; (with_reducible show wpAny _ _ (eval (Expr.Subscript (Expr.Name _ _) (Expr.Slice none (some (Expr.BoolOp BoolOp.Or [_, _] _)) none _) _) _) _ _ _); k_dflt (refine' slice_post ?F ?N ?v ?k ?j ?l ?_; (case F => k_asm); (case N => k_asm); (case v => exact rfl); (case k => exact rfl); (case j => omega); (case l => omega)); intro _ _ _ _ _)) | walk1 | (dsimp only; walk1)))
      rename Fr _ _ _ _ => F1
      rename News _ _ _ _ => N1
      rw [slice_from hp1, slice_from hp2] at F1
      have hx1 : (x.drop pre).length ≤ 4 := by rw [List.length_drop]; omega
      have hy1 : (y.drop pre).length ≤ 4 := by rw [List.length_drop]; omega
      have hxl1 : ∀ k ∈ x.drop pre, Low k := fun k h => hxl k (List.mem_of_mem_drop h)
      have hyl1 : ∀ k ∈ y.drop pre, Low k := fun k h => hyl k (List.mem_of_mem_drop h)
      generalize x.drop pre = xx at F1 hx1 hp3 hxl1
      generalize y.drop pre = yy at F1 hy1 hp3 hyl1
      have hxx := T_len xx
      have hyy := T_len yy
      obtain ⟨ux, F0⟩ := fr_known [(Str.ofString "a", .str (T xx) ?ta), (Str.ofString "b", .str (T yy) ?tb), (Str.ofString "max_cost", .int cst v), (Str.ofString "post", .int 0 ?tc)] (by kst_all) F1
      clear F1
      have F1 := F0
      clear F0
      refine while_at (σ := Nat × Tok) (fun _ => news) (fun c => [(Str.ofString "post", .int (-(c.1:Int)) c.2)]) [Str.ofString "post"] (fun c => c.1 ≤ xx.length ∧ c.1 ≤ yy.length ∧ stripR (xx.take (xx.length - c.1)) (yy.take (yy.length - c.1)) = stripR xx yy) (fun c => c.1 ≤ xx.length ∧ c.1 ≤ yy.length ∧ stripR xx yy = (xx.take (xx.length - c.1), yy.take (yy.length - c.1))) (fun c => xx.length - c.1) (0, ?tz5) F1 N1 ?hkB ?hpB ?turnB ?doneB
      case hkB => kst_all
      case hpB => exact ⟨Nat.zero_le _, Nat.zero_le _, by simp⟩
      case turnB =>
        clear F1 N1
        rintro ⟨post, tp⟩ u1 h1 tk1 ⟨hp1, hp2, hp3⟩ F2 N2
        dsimp only at F2 N2 hp1 hp2 hp3
        have e1 : (T (xx.take (xx.length - post))).length = xx.length - post := by rw [T_len, List.length_take]; omega
        have e2 : (T (yy.take (yy.length - post))).length = yy.length - post := by rw [T_len, List.length_take]; omega
        (repeat' ((fail_if_success (with_reducible show wpAny _ _ (exec (Stmt.While _ _ _ _) _) _ _ _)); (fail_if_success (with_reducible show wpAny _ _ (pyIter _) (fun it s₂ => LoopAtV _ _ _ _ _ _ _ _ _ it s₂) _ _)); (fail_if_success (with_reducible show At _ _ _ _ _ _ _ _ _)); (fail_if_success (with_reducible show WPost _ _ _ _ _)); (fail_if_success (with_reducible show wpAny _ _ (exec (Stmt.If _ [Stmt.Assign [Expr.Tuple _ _ _] _ _] [] _) _) _ _ _)); (fail_if_success (with_reducible show wpAny _ _ (call (Value.type "list") _) _ _ _)); (fail_if_success (with_reducible show AtI _ _ _ _ _ _ _ _ _ _ _)); first | (k_unfold; (try dsimp only)) | ((with_reducible refine wpAny_execs_cons ?_); (try dsimp only)) | (with_reducible (k_here; (with_reducible show wpAny _ _ (call (Value.ref 21) [Value.str _ _, Value.str _ _]) _ _ _); k_dflt (refine' Con.use (sub_use _ _ _ _ _ _ _ ?hx ?hy ?hc ?hd) ?B ?F ?X ?N ?T ?hk ?dp ?un ?_; (case hx => assumption); (case hy => assumption); (case hc => assumption); (case hd => assumption); (case B => k_asm); (case F => k_asm); (case X => k_asm); (case N => k_asm); (case T => k_asm); (case hk => rfl); (case dp => ktr_room); (case un => ktr_units)); (intro r9 tl9 h9 tk9 F9 N9 o9 q9); (obtain ⟨a9, t9, b9⟩ := q9); (subst a9; subst b9); (try simp only [List.nil_append] at N9); (try dsimp only))) | (with_reducible (k_here; (with_reducible show wpAny _ _ (eval (Expr.Subscript (Expr.Name _ _) (Expr.Slice none (some (Expr.BoolOp BoolOp.Or [_, _] _)) none _) _) _) _ _ _); k_dflt (refine' slice_post ?F ?N ?v ?k ?j ?l ?_; (case F => k_asm); (case N => k_asm); (case v => exact rfl); (case k => exact rfl); (case j => omega); (case l => omega)); intro _ _ _ _ _)) | walk1 | (dsimp only; walk1)))
        · rename (Txt.item _ _ == Txt.item _ _) = true => hq
          have l1 : post < xx.length := by omega
          have l2 : post < yy.length := by omega
          dsimp only [WPost]
          have ez : -(post : Int) - 1 = -((post + 1 : Nat) : Int) := by omega
          rename Fr _ _ _ _ => F1
          rw [ez] at F1
          refine At.intro (post + 1, ?ty1) (by k_asm) (by k_asm) (fun _ h => h) ?hk (by ((intro z hz; (simp only [List.contains_cons, List.contains_nil, Bool.or_false, Bool.or_eq_false_iff, beq_eq_false_iff_ne, ne_eq] at hz); (simp [hz, kstB]; done)))) ⟨⟨by omega, by omega, post_next l1 l2 hq hp3⟩, by dsimp only; omega⟩
          case hk => kst_all
        · rename (Txt.item _ _ == Txt.item _ _) = false => hq
          have l1 : post < xx.length := by omega
          have l2 : post < yy.length := by omega
          refine At.intro (post, ?ty2) (by k_asm) (by k_asm) (fun _ h => h) ?hk (by ((intro z hz; (simp only [List.contains_cons, List.contains_nil, Bool.or_false, Bool.or_eq_false_iff, beq_eq_false_iff_ne, ne_eq] at hz); (simp [hz, kstB]; done)))) ⟨by omega, by omega, post_done l1 l2 hq hp3⟩
          case hk => kst_all
        · have l2 : yy.length ≤ post := by omega
          refine At.intro (post, ?ty3) (by k_asm) (by k_asm) (fun _ h => h) ?hk (by ((intro z hz; (simp only [List.contains_cons, List.contains_nil, Bool.or_false, Bool.or_eq_false_iff, beq_eq_false_iff_ne, ne_eq] at hz); (simp [hz, kstB]; done)))) ⟨by omega, by omega, post_out hp1 hp2 (.inr l2) hp3⟩
          case hk => kst_all
        · have l2 : xx.length ≤ post := by omega
          refine At.intro (post, ?ty4) (by k_asm) (by k_asm) (fun _ h => h) ?hk (by ((intro z hz; (simp only [List.contains_cons, List.contains_nil, Bool.or_false, Bool.or_eq_false_iff, beq_eq_false_iff_ne, ne_eq] at hz); (simp [hz, kstB]; done)))) ⟨by omega, by omega, post_out hp1 hp2 (.inl l2) hp3⟩
          case hk => kst_all
      case doneB =>
        clear F1 N1
        rintro ⟨post, tp⟩ u1 h1 tk1 ⟨hp1, hp2, hp4⟩ F2 N2
        dsimp only at F2 N2 hp1 hp2 hp4
        have e1 : (T (xx.take (xx.length - post))).length = (xx.take (xx.length - post)).length := T_len _
        have e2 : (T (yy.take (yy.length - post))).length = (yy.take (yy.length - post)).length := T_len _
        have e3 : (xx.take (xx.length - post)).length ≤ 4 := by rw [List.length_take]; omega
        have e4 : (yy.take (yy.length - post)).length ≤ 4 := by rw [List.length_take]; omega
        have e5 : ∀ k ∈ xx.take (xx.length - post), Low k := fun k h => hxl1 k (List.mem_of_mem_take h)
        have e6 : ∀ k ∈ yy.take (yy.length - post), Low k := fun k h => hyl1 k (List.mem_of_mem_take h)
        have hM : levM x y cst = (if xx.take (xx.length - post) = [] ∨ yy.take (yy.length - post) = [] then 2 * (((xx.take (xx.length - post)).length : Int) + ((yy.take (yy.length - post)).length : Int))
            else if (yy.take (yy.length - post)).length < (xx.take (xx.length - post)).length then levD (yy.take (yy.length - post)) (xx.take (xx.length - post)) cst else levD (xx.take (xx.length - post)) (yy.take (yy.length - post)) cst) := by
          unfold levM
          rw [if_neg (T_false he)]
          dsimp only
          rw [hp3]
          dsimp only
          rw [hp4]
        (repeat' ((fail_if_success (with_reducible show wpAny _ _ (exec (Stmt.While _ _ _ _) _) _ _ _)); (fail_if_success (with_reducible show wpAny _ _ (pyIter _) (fun it s₂ => LoopAtV _ _ _ _ _ _ _ _ _ it s₂) _ _)); (fail_if_success (with_reducible show At _ _ _ _ _ _ _ _ _)); (fail_if_success (with_reducible show WPost _ _ _ _ _)); (fail_if_success (with_reducible show wpAny _ _ (exec (Stmt.If _ [Stmt.Assign [Expr.Tuple _ _ _] _ _] [] _) _) _ _ _)); (fail_if_success (with_reducible show wpAny _ _ (call (Value.type "list") _) _ _ _)); (fail_if_success (with_reducible show AtI _ _ _ _ _ _ _ _ _ _ _)); first | (k_unfold; (try dsimp only)) | ((with_reducible refine wpAny_execs_cons ?_); (try dsimp only)) | (with_reducible (k_here; (with_reducible show wpAny _ _ (call (Value.ref 21) [Value.str _ _, Value.str _ _]) _ _ _); k_dflt (refine' Con.use (sub_use _ _ _ _ _ _ _ ?hx ?hy ?hc ?hd) ?B ?F ?X ?N ?T ?hk ?dp ?un ?_; (case hx => assumption); (case hy => assumption); (case hc => assumption); (case hd => assumption); (case B => k_asm); (case F => k_asm); (case X => k_asm); (case N => k_asm); (case T => k_asm); (case hk => rfl); (case dp => ktr_room); (case un => ktr_units)); (intro r9 tl9 h9 tk9 F9 N9 o9 q9); (obtain ⟨a9, t9, b9⟩ := q9); (subst a9; subst b9); (try simp only [List.nil_append] at N9); (try dsimp only))) | (with_reducible (k_here; (with_reducible show wpAny _ _ (eval (Expr.Subscript (Expr.Name _ _) (Expr.Slice none (some (Expr.BoolOp BoolOp.Or [_, _] _)) none _) _) _) _ _ _); k_dflt (refine' slice_post ?F ?N ?v ?k ?j ?l ?_; (case F => k_asm); (case N => k_asm); (case v => exact rfl); (case k => exact rfl); (case j => omega); (case l => omega)); intro _ _ _ _ _)) | walk1 | (dsimp only; walk1)))
        all_goals generalize xx.take (xx.length - post) = p at *
        all_goals generalize yy.take (yy.length - post) = q at *
        rotate_left
        · rename ((T q).length : Int) = 0 => hz
          refine hret _ [] _ _ (by assumption) (by assumption) tl0 ⟨rfl, ktn_int ?_⟩
          rw [hM, e1, e2, if_pos]
          right
          exact List.eq_nil_of_length_eq_zero (by omega)
        · rename ((T p).length : Int) = 0 => hz
          refine hret _ [] _ _ (by assumption) (by assumption) tl0 ⟨rfl, ktn_int ?_⟩
          rw [hM, e1, e2, if_pos]
          left
          exact List.eq_nil_of_length_eq_zero (by omega)
        · rename ((T q).length : Int) ≠ 0 => hz2
          rename ((T p).length : Int) ≠ 0 => hz1
          rename Fr _ _ _ _ => F1
          rename News _ _ _ _ => N1
          have np : p ≠ [] := fun e => hz1 (by rw [e]; simp [T_len])
          have nq : q ≠ [] := fun e => hz2 (by rw [e]; simp [T_len])
          rw [if_neg (fun h => h.elim np nq)] at hM
          refine cut_at (σ := (List Nat × Tok) × (List Nat × Tok)) (fun _ => news) (fun c => [(Str.ofString "a", .str (T c.1.1) c.1.2), (Str.ofString "b", .str (T c.2.1) c.2.2)]) [Str.ofString "a", Str.ofString "b"]
            (fun c => c.1.1.length ≤ c.2.1.length ∧ c.2.1.length ≤ 4 ∧ 0 < c.1.1.length ∧ (∀ k ∈ c.1.1, Low k) ∧ (∀ k ∈ c.2.1, Low k) ∧ levM x y cst = levD c.1.1 c.2.1 cst) F1 ?hC ?doneC
          case hC =>
            walk1
            (repeat' ((fail_if_success (with_reducible show wpAny _ _ (exec (Stmt.While _ _ _ _) _) _ _ _)); (fail_if_success (with_reducible show wpAny _ _ (pyIter _) (fun it s₂ => LoopAtV _ _ _ _ _ _ _ _ _ it s₂) _ _)); (fail_if_success (with_reducible show At _ _ _ _ _ _ _ _ _)); (fail_if_success (with_reducible show WPost _ _ _ _ _)); (fail_if_success (with_reducible show wpAny _ _ (exec (Stmt.If _ [Stmt.Assign [Expr.Tuple _ _ _] _ _] [] _) _) _ _ _)); (fail_if_success (with_reducible show wpAny _ _ (call (Value.type "list") _) _ _ _)); (fail_if_success (with_reducible show AtI _ _ _ _ _ _ _ _ _ _ _)); first | (k_unfold; (try dsimp only)) | ((with_reducible refine wpAny_execs_cons ?_); (try dsimp only)) | (with_reducible (k_here; (with_reducible show wpAny _ _ (call (Value.ref 21) [Value.str _ _, Value.str _ _]) _ _ _); k_dflt (refine' Con.use (sub_use _ _ _ _ _ _ _ ?hx ?hy ?hc ?hd) ?B ?F ?X ?N ?T ?hk ?dp ?un ?_; (case hx => assumption); (case hy => assumption); (case hc => assumption); (case hd => assumption); (case B => k_asm); (case F => k_asm); (case X => k_asm); (case N => k_asm); (case T => k_asm); (case hk => rfl); (case dp => ktr_room); (case un => ktr_units)); (intro r9 tl9 h9 tk9 F9 N9 o9 q9); (obtain ⟨a9, t9, b9⟩ := q9); (subst a9; subst b9); (try simp only [List.nil_append] at N9); (try dsimp only))) | (with_reducible (k_here; (with_reducible show wpAny _ _ (eval (Expr.Subscript (Expr.Name _ _) (Expr.Slice none (some (Expr.BoolOp BoolOp.Or [_, _] _)) none _) _) _) _ _ _); k_dflt (refine' slice_post ?F ?N ?v ?k ?j ?l ?_; (case F => k_asm); (case N => k_asm); (case v => exact rfl); (case k => exact rfl); (case j => omega); (case l => omega)); intro _ _ _ _ _)) | walk1 | (dsimp only; walk1)))
            · dsimp only
              refine At.intro ((q, ?tw1), (p, ?tw2)) (by k_asm) (by k_asm) (fun _ h => .tail _ h) ?hk7 (by ((intro z hz; (simp only [List.contains_cons, List.contains_nil, Bool.or_false, Bool.or_eq_false_iff, beq_eq_false_iff_ne, ne_eq] at hz); (simp [hz, kstB]; done)))) ⟨by dsimp only; omega, by dsimp only; omega, by dsimp only; omega, e6, e5, ?hw1⟩
              case hk7 => kst_all
              case hw1 => rw [hM, if_pos (by omega)]
            · dsimp only
              refine At.intro ((p, ?tw3), (q, ?tw4)) (by k_asm) (by k_asm) (fun _ h => h) ?hk8 (by ((intro z hz; (simp only [List.contains_cons, List.contains_nil, Bool.or_false, Bool.or_eq_false_iff, beq_eq_false_iff_ne, ne_eq] at hz); (simp [hz, kstB]; done)))) ⟨by dsimp only; omega, by dsimp only; omega, by dsimp only; omega, e5, e6, ?hw2⟩
              case hk8 => kst_all
              case hw2 => rw [hM, if_neg (by omega)]
          case doneC =>
            clear F1 N1
            rintro ⟨⟨p', tp'⟩, ⟨q', tq'⟩⟩ u1 h1 tk1 ⟨hq1, hq2, hq3, hq4, hq5, hq6⟩ F2 N2
            dsimp only at F2 N2 hq1 hq2 hq3 hq4 hq5 hq6
            obtain ⟨ux, F0⟩ := fr_known [(Str.ofString "a", .str (T p') tp'), (Str.ofString "b", .str (T q') tq'), (Str.ofString "max_cost", .int cst v)] (by kst_all) F2
            clear F2
            have e7 := T_len p'
            have e8 := T_len q'
            (repeat' ((fail_if_success (with_reducible show wpAny _ _ (exec (Stmt.While _ _ _ _) _) _ _ _)); (fail_if_success (with_reducible show wpAny _ _ (pyIter _) (fun it s₂ => LoopAtV _ _ _ _ _ _ _ _ _ it s₂) _ _)); (fail_if_success (with_reducible show At _ _ _ _ _ _ _ _ _)); (fail_if_success (with_reducible show WPost _ _ _ _ _)); (fail_if_success (with_reducible show wpAny _ _ (exec (Stmt.If _ [Stmt.Assign [Expr.Tuple _ _ _] _ _] [] _) _) _ _ _)); (fail_if_success (with_reducible show wpAny _ _ (call (Value.type "list") _) _ _ _)); (fail_if_success (with_reducible show AtI _ _ _ _ _ _ _ _ _ _ _)); first | (k_unfold; (try dsimp only)) | ((with_reducible refine wpAny_execs_cons ?_); (try dsimp only)) | (with_reducible (k_here; (with_reducible show wpAny _ _ (call (Value.ref 21) [Value.str _ _, Value.str _ _]) _ _ _); k_dflt (refine' Con.use (sub_use _ _ _ _ _ _ _ ?hx ?hy ?hc ?hd) ?B ?F ?X ?N ?T ?hk ?dp ?un ?_; (case hx => assumption); (case hy => assumption); (case hc => assumption); (case hd => assumption); (case B => k_asm); (case F => k_asm); (case X => k_asm); (case N => k_asm); (case T => k_asm); (case hk => rfl); (case dp => ktr_room); (case un => ktr_units)); (intro r9 tl9 h9 tk9 F9 N9 o9 q9); (obtain ⟨a9, t9, b9⟩ := q9); (subst a9; subst b9); (try simp only [List.nil_append] at N9); (try dsimp only))) | (with_reducible (k_here; (with_reducible show wpAny _ _ (eval (Expr.Subscript (Expr.Name _ _) (Expr.Slice none (some (Expr.BoolOp BoolOp.Or [_, _] _)) none _) _) _) _ _ _); k_dflt (refine' slice_post ?F ?N ?v ?k ?j ?l ?_; (case F => k_asm); (case N => k_asm); (case v => exact rfl); (case k => exact rfl); (case j => omega); (case l => omega)); intro _ _ _ _ _)) | walk1 | (dsimp only; walk1)))
            · rename (cst < _) => hc
              refine hret _ [] _ _ (by assumption) (by assumption) tl0 ⟨rfl, ktn_int ?_⟩
              rw [hq6, levD, if_pos (by omega)]
            · rename (¬ cst < _) => hc
              rename IsRange _ _ _ _ _ _ _ _ => hr
              rename Fr _ _ _ _ => F1
              rename News _ _ _ _ => N1
              refine list_range_led (n := p'.length) rfl F1 N1 hr (by omega) (by omega) fun R h' tk ys nn hys hlt F2 N2 => ?_
              clear F1 N1 hr
              (repeat' ((fail_if_success (with_reducible show wpAny _ _ (exec (Stmt.While _ _ _ _) _) _ _ _)); (fail_if_success (with_reducible show wpAny _ _ (pyIter _) (fun it s₂ => LoopAtV _ _ _ _ _ _ _ _ _ it s₂) _ _)); (fail_if_success (with_reducible show At _ _ _ _ _ _ _ _ _)); (fail_if_success (with_reducible show WPost _ _ _ _ _)); (fail_if_success (with_reducible show wpAny _ _ (exec (Stmt.If _ [Stmt.Assign [Expr.Tuple _ _ _] _ _] [] _) _) _ _ _)); (fail_if_success (with_reducible show wpAny _ _ (call (Value.type "list") _) _ _ _)); (fail_if_success (with_reducible show AtI _ _ _ _ _ _ _ _ _ _ _)); first | (k_unfold; (try dsimp only)) | ((with_reducible refine wpAny_execs_cons ?_); (try dsimp only)) | (with_reducible (k_here; (with_reducible show wpAny _ _ (call (Value.ref 21) [Value.str _ _, Value.str _ _]) _ _ _); k_dflt (refine' Con.use (sub_use _ _ _ _ _ _ _ ?hx ?hy ?hc ?hd) ?B ?F ?X ?N ?T ?hk ?dp ?un ?_; (case hx => assumption); (case hy => assumption); (case hc => assumption); (case hd => assumption); (case B => k_asm); (case F => k_asm); (case X => k_asm); (case N => k_asm); (case T => k_asm); (case hk => rfl); (case dp => ktr_room); (case un => ktr_units)); (intro r9 tl9 h9 tk9 F9 N9 o9 q9); (obtain ⟨a9, t9, b9⟩ := q9); (subst a9; subst b9); (try simp only [List.nil_append] at N9); (try dsimp only))) | (with_reducible (k_here; (with_reducible show wpAny _ _ (eval (Expr.Subscript (Expr.Name _ _) (Expr.Slice none (some (Expr.BoolOp BoolOp.Or [_, _] _)) none _) _) _) _ _ _); k_dflt (refine' slice_post ?F ?N ?v ?k ?j ?l ?_; (case F => k_asm); (case N => k_asm); (case v => exact rfl); (case k => exact rfl); (case j => omega); (case l => omega)); intro _ _ _ _ _)) | walk1 | (dsimp only; walk1)))
              rename IsRange _ _ _ _ _ _ _ _ => hr
              rename Fr _ _ _ _ => F1
              rename News _ _ _ _ => N1
              rw [e8] at hr
              refine range_at (σ := RS) (n := q'.length) (fun c => (R, listOf c.vs.toArray c.nn) :: news) (fun c => [(Str.ofString "result", .int c.res c.t)])
                [Str.ofString "bindex", Str.ofString "bchar", Str.ofString "distance", Str.ofString "result", Str.ofString "minimum", Str.ofString "index", Str.ofString "substitute", Str.ofString "insert_delete"] rfl
                (fun i c => IntsAre c.vs c.ns ∧ c.ns.length = p'.length ∧ outer p' cst q' 0 (rangeInts 2 2 p'.length) 0 = outer p' cst (q'.drop i) (i : Int) c.ns c.res)
                (fun c => levM x y cst = c.res) ⟨ys, rangeInts 2 2 p'.length, nn, 0, ?tv1⟩ rfl hr ?hsm ?hsz F1 N1 ?hkO ?hpO ?hDO ?turnO ?doneO
              case hsm => exact small_one (by omega) (by omega) (by omega) (by omega)
              case hsz => rw [rangeSize_nat]; simp
              case hkO => kst_all
              case hpO => exact ⟨hys, rangeInts_length _ _ _, rfl⟩
              case hDO =>
                rintro ⟨vs1, ns1, nn1, res1, t1⟩ ⟨g1, g2, g3⟩
                dsimp only at g1 g2 g3 ⊢
                rw [hq6, levD, if_neg (by omega)]
                rw [List.drop_length] at g3
                exact g3
              case doneO =>
                clear F1 N1 hr
                rintro ⟨vs1, ns1, nn1, res1, t1⟩ u3 h3 tk3 g F3 N3
                dsimp only at F3 N3 g
                (repeat' ((fail_if_success (with_reducible show wpAny _ _ (exec (Stmt.While _ _ _ _) _) _ _ _)); (fail_if_success (with_reducible show wpAny _ _ (pyIter _) (fun it s₂ => LoopAtV _ _ _ _ _ _ _ _ _ it s₂) _ _)); (fail_if_success (with_reducible show At _ _ _ _ _ _ _ _ _)); (fail_if_success (with_reducible show WPost _ _ _ _ _)); (fail_if_success (with_reducible show wpAny _ _ (exec (Stmt.If _ [Stmt.Assign [Expr.Tuple _ _ _] _ _] [] _) _) _ _ _)); (fail_if_success (with_reducible show wpAny _ _ (call (Value.type "list") _) _ _ _)); (fail_if_success (with_reducible show AtI _ _ _ _ _ _ _ _ _ _ _)); first | (k_unfold; (try dsimp only)) | ((with_reducible refine wpAny_execs_cons ?_); (try dsimp only)) | (with_reducible (k_here; (with_reducible show wpAny _ _ (call (Value.ref 21) [Value.str _ _, Value.str _ _]) _ _ _); k_dflt (refine' Con.use (sub_use _ _ _ _ _ _ _ ?hx ?hy ?hc ?hd) ?B ?F ?X ?N ?T ?hk ?dp ?un ?_; (case hx => assumption); (case hy => assumption); (case hc => assumption); (case hd => assumption); (case B => k_asm); (case F => k_asm); (case X => k_asm); (case N => k_asm); (case T => k_asm); (case hk => rfl); (case dp => ktr_room); (case un => ktr_units)); (intro r9 tl9 h9 tk9 F9 N9 o9 q9); (obtain ⟨a9, t9, b9⟩ := q9); (subst a9; subst b9); (try simp only [List.nil_append] at N9); (try dsimp only))) | (with_reducible (k_here; (with_reducible show wpAny _ _ (eval (Expr.Subscript (Expr.Name _ _) (Expr.Slice none (some (Expr.BoolOp BoolOp.Or [_, _] _)) none _) _) _) _ _ _); k_dflt (refine' slice_post ?F ?N ?v ?k ?j ?l ?_; (case F => k_asm); (case N => k_asm); (case v => exact rfl); (case k => exact rfl); (case j => omega); (case l => omega)); intro _ _ _ _ _)) | walk1 | (dsimp only; walk1)))
                refine hret _ [] _ _ (by assumption) (fun p hp => (by assumption : News _ _ _ (_ :: news)) p (.tail _ hp)) tl0 ⟨rfl, ktn_int ?_⟩
                exact g.symm
              case turnO =>
                clear F1 N1 hr
                rintro i ⟨vs1, ns1, nn1, res1, t1⟩ tb u2 h2 tk2 I oI hi ⟨hv1, hl1, ho1⟩ hI1 hI2 F3 N3
                dsimp only at F3 N3 hv1 hl1 ho1 hI2
                obtain ⟨y0, hy0'⟩ : ∃ y0, q'[i]? = some y0 := ⟨_, List.getElem?_eq_getElem hi⟩
                have hyI : Txt.item (T q') (0 + (i : Int)) = T [y0] := by rw [Int.zero_add]; exact item_at hy0'
                have hylow : Low y0 := hq5 _ (List.mem_of_getElem? hy0')
                (repeat' ((fail_if_success (with_reducible show wpAny _ _ (exec (Stmt.While _ _ _ _) _) _ _ _)); (fail_if_success (with_reducible show wpAny _ _ (pyIter _) (fun it s₂ => LoopAtV _ _ _ _ _ _ _ _ _ it s₂) _ _)); (fail_if_success (with_reducible show At _ _ _ _ _ _ _ _ _)); (fail_if_success (with_reducible show WPost _ _ _ _ _)); (fail_if_success (with_reducible show wpAny _ _ (exec (Stmt.If _ [Stmt.Assign [Expr.Tuple _ _ _] _ _] [] _) _) _ _ _)); (fail_if_success (with_reducible show wpAny _ _ (call (Value.type "list") _) _ _ _)); (fail_if_success (with_reducible show AtI _ _ _ _ _ _ _ _ _ _ _)); first | (k_unfold; (try dsimp only)) | ((with_reducible refine wpAny_execs_cons ?_); (try dsimp only)) | (with_reducible (k_here; (with_reducible show wpAny _ _ (call (Value.ref 21) [Value.str _ _, Value.str _ _]) _ _ _); k_dflt (refine' Con.use (sub_use _ _ _ _ _ _ _ ?hx ?hy ?hc ?hd) ?B ?F ?X ?N ?T ?hk ?dp ?un ?_; (case hx => assumption); (case hy => assumption); (case hc => assumption); (case hd => assumption); (case B => k_asm); (case F => k_asm); (case X => k_asm); (case N => k_asm); (case T => k_asm); (case hk => rfl); (case dp => ktr_room); (case un => ktr_units)); (intro r9 tl9 h9 tk9 F9 N9 o9 q9); (obtain ⟨a9, t9, b9⟩ := q9); (subst a9; subst b9); (try simp only [List.nil_append] at N9); (try dsimp only))) | (with_reducible (k_here; (with_reducible show wpAny _ _ (eval (Expr.Subscript (Expr.Name _ _) (Expr.Slice none (some (Expr.BoolOp BoolOp.Or [_, _] _)) none _) _) _) _ _ _); k_dflt (refine' slice_post ?F ?N ?v ?k ?j ?l ?_; (case F => k_asm); (case N => k_asm); (case v => exact rfl); (case k => exact rfl); (case j => omega); (case l => omega)); intro _ _ _ _ _)) | walk1 | (dsimp only; walk1)))
                clear F3 N3
                rename IsRange _ _ _ _ _ _ _ _ => hr
                rename Fr _ _ _ _ => F1
                rename News _ _ _ _ => N1
                rw [e7] at hr
                simp only [List.cons_append] at N1
                refine range_at (σ := IS) (n := p'.length) (fun c => (R, listOf c.vs.toArray c.nn) :: (news ++ [(I, oI)])) (fun c => [(Str.ofString "distance", .int c.d c.td), (Str.ofString "result", .int c.r c.tr), (Str.ofString "minimum", .int c.m c.tm)])
                  [Str.ofString "distance", Str.ofString "result", Str.ofString "minimum", Str.ofString "index", Str.ofString "substitute", Str.ofString "insert_delete"] rfl
                  (fun j c => IntsAre c.vs c.ns ∧ c.ns.length = p'.length ∧ inner y0 p' ns1 ((i : Int) * 2) ((i : Int) * 2) 9223372036854775807 = (c.ns.take j ++ (inner y0 (p'.drop j) (c.ns.drop j) c.d c.r c.m).1, (inner y0 (p'.drop j) (c.ns.drop j) c.d c.r c.m).2))
                  (fun c => IntsAre c.vs c.ns ∧ c.ns.length = p'.length ∧ inner y0 p' ns1 ((i : Int) * 2) ((i : Int) * 2) 9223372036854775807 = (c.ns, c.r, c.m)) ⟨vs1, ns1, nn1, (0 + (i : Int)) * 2, ?tu1, (0 + (i : Int)) * 2, ?tu2, 9223372036854775807, ?tu3⟩ rfl hr ?hsmI ?hszI F1 N1 ?hkI ?hpI ?hDI ?turnI ?doneI
                case hsmI => exact small_one (by omega) (by omega) (by omega) (by omega)
                case hszI => rw [rangeSize_nat]; simp
                case hkI => kst_all
                case hpI => exact ⟨hv1, hl1, by simp⟩
                case hDI =>
                  rintro ⟨vs2, ns2, nn2, d2, td2, r2, tr2, m2, tm2⟩ ⟨g1, g2, g3⟩
                  dsimp only at g1 g2 g3 ⊢
                  refine ⟨g1, g2, ?_⟩
                  rw [g3, List.drop_length, List.take_of_length_le (by omega), List.drop_of_length_le (by omega)]
                  simp [inner]
                case doneI =>
                  clear F1 N1 hr
                  rintro ⟨vs2, ns2, nn2, d2, td2, r2, tr2, m2, tm2⟩ u3 h3 tk3 ⟨g1, g2, g3⟩ F3 N3
                  dsimp only at F3 N3 g1 g2 g3
                  (repeat' ((fail_if_success (with_reducible show wpAny _ _ (exec (Stmt.While _ _ _ _) _) _ _ _)); (fail_if_success (with_reducible show wpAny _ _ (pyIter _) (fun it s₂ => LoopAtV _ _ _ _ _ _ _ _ _ it s₂) _ _)); (fail_if_success (with_reducible show At _ _ _ _ _ _ _ _ _)); (fail_if_success (with_reducible show WPost _ _ _ _ _)); (fail_if_success (with_reducible show wpAny _ _ (exec (Stmt.If _ [Stmt.Assign [Expr.Tuple _ _ _] _ _] [] _) _) _ _ _)); (fail_if_success (with_reducible show wpAny _ _ (call (Value.type "list") _) _ _ _)); (fail_if_success (with_reducible show AtI _ _ _ _ _ _ _ _ _ _ _)); first | (k_unfold; (try dsimp only)) | ((with_reducible refine wpAny_execs_cons ?_); (try dsimp only)) | (with_reducible (k_here; (with_reducible show wpAny _ _ (call (Value.ref 21) [Value.str _ _, Value.str _ _]) _ _ _); k_dflt (refine' Con.use (sub_use _ _ _ _ _ _ _ ?hx ?hy ?hc ?hd) ?B ?F ?X ?N ?T ?hk ?dp ?un ?_; (case hx => assumption); (case hy => assumption); (case hc => assumption); (case hd => assumption); (case B => k_asm); (case F => k_asm); (case X => k_asm); (case N => k_asm); (case T => k_asm); (case hk => rfl); (case dp => ktr_room); (case un => ktr_units)); (intro r9 tl9 h9 tk9 F9 N9 o9 q9); (obtain ⟨a9, t9, b9⟩ := q9); (subst a9; subst b9); (try simp only [List.nil_append] at N9); (try dsimp only))) | (with_reducible (k_here; (with_reducible show wpAny _ _ (eval (Expr.Subscript (Expr.Name _ _) (Expr.Slice none (some (Expr.BoolOp BoolOp.Or [_, _] _)) none _) _) _) _ _ _); k_dflt (refine' slice_post ?F ?N ?v ?k ?j ?l ?_; (case F => k_asm); (case N => k_asm); (case v => exact rfl); (case k => exact rfl); (case j => omega); (case l => omega)); intro _ _ _ _ _)) | walk1 | (dsimp only; walk1)))
                  · rename cst < m2 => hm9
                    dsimp only [WPost]
                    (repeat' ((fail_if_success (with_reducible show wpAny _ _ (exec (Stmt.While _ _ _ _) _) _ _ _)); (fail_if_success (with_reducible show wpAny _ _ (pyIter _) (fun it s₂ => LoopAtV _ _ _ _ _ _ _ _ _ it s₂) _ _)); (fail_if_success (with_reducible show At _ _ _ _ _ _ _ _ _)); (fail_if_success (with_reducible show WPost _ _ _ _ _)); (fail_if_success (with_reducible show wpAny _ _ (exec (Stmt.If _ [Stmt.Assign [Expr.Tuple _ _ _] _ _] [] _) _) _ _ _)); (fail_if_success (with_reducible show wpAny _ _ (call (Value.type "list") _) _ _ _)); (fail_if_success (with_reducible show AtI _ _ _ _ _ _ _ _ _ _ _)); first | (k_unfold; (try dsimp only)) | ((with_reducible refine wpAny_execs_cons ?_); (try dsimp only)) | (with_reducible (k_here; (with_reducible show wpAny _ _ (call (Value.ref 21) [Value.str _ _, Value.str _ _]) _ _ _); k_dflt (refine' Con.use (sub_use _ _ _ _ _ _ _ ?hx ?hy ?hc ?hd) ?B ?F ?X ?N ?T ?hk ?dp ?un ?_; (case hx => assumption); (case hy => assumption); (case hc => assumption); (case hd => assumption); (case B => k_asm); (case F => k_asm); (case X => k_asm); (case N => k_asm); (case T => k_asm); (case hk => rfl); (case dp => ktr_room); (case un => ktr_units)); (intro r9 tl9 h9 tk9 F9 N9 o9 q9); (obtain ⟨a9, t9, b9⟩ := q9); (subst a9; subst b9); (try simp only [List.nil_append] at N9); (try dsimp only))) | (with_reducible (k_here; (with_reducible show wpAny _ _ (eval (Expr.Subscript (Expr.Name _ _) (Expr.Slice none (some (Expr.BoolOp BoolOp.Or [_, _] _)) none _) _) _) _ _ _); k_dflt (refine' slice_post ?F ?N ?v ?k ?j ?l ?_; (case F => k_asm); (case N => k_asm); (case v => exact rfl); (case k => exact rfl); (case j => omega); (case l => omega)); intro _ _ _ _ _)) | walk1 | (dsimp only; walk1)))
                    refine hret _ [] _ _ (by assumption) (fun p hp => (by assumption : News _ _ _ (_ :: (news ++ _))) p (.tail _ (List.mem_append_left _ hp))) tl0 ⟨rfl, ktn_int ?_⟩
                    rw [hq6, levD, if_neg (by omega)]
                    refine (ho1.trans ?_).symm
                    rw [outer_step hy0' g3, if_pos hm9]
                  · rename ¬ cst < m2 => hm9
                    dsimp only [WPost]
                    refine AtI.intro ⟨vs2, ns2, nn2, r2, tr2⟩ (by k_asm) (by k_asm) led_in led_it (led_off hI2) ?hkZ (by ((intro z hz; (simp only [List.contains_cons, List.contains_nil, Bool.or_false, Bool.or_eq_false_iff, beq_eq_false_iff_ne, ne_eq] at hz); (simp [hz, kstB]; done)))) ⟨g1, g2, ?_⟩
                    case hkZ => kst_all
                    dsimp only
                    rw [ho1, outer_step hy0' g3, if_neg hm9]
                case turnI =>
                  clear F1 N1 hr
                  rintro j ⟨vs2, ns2, nn2, d2, td2, r2, tr2, m2, tm2⟩ tb2 u3 h3 tk3 J oJ hj ⟨g1, g2, g3⟩ hJ1 hJ2 F3 N3
                  dsimp only at F3 N3 g1 g2 g3 hJ2
                  obtain ⟨x0, hx0'⟩ : ∃ x0, p'[j]? = some x0 := ⟨_, List.getElem?_eq_getElem hj⟩
                  have hxI : Txt.item (T p') (0 + (j : Int)) = T [x0] := by rw [Int.zero_add]; exact item_at hx0'
                  have hxlow : Low x0 := hq4 _ (List.mem_of_getElem? hx0')
                  simp only [List.cons_append] at N3
                  have hR : ∀ p ∈ news ++ [(I, oI)] ++ [(J, oJ)], p.1 ≠ R := off_R hlt hI2 hJ2
                  (repeat' ((fail_if_success (with_reducible show wpAny _ _ (exec (Stmt.While _ _ _ _) _) _ _ _)); (fail_if_success (with_reducible show wpAny _ _ (pyIter _) (fun it s₂ => LoopAtV _ _ _ _ _ _ _ _ _ it s₂) _ _)); (fail_if_success (with_reducible show At _ _ _ _ _ _ _ _ _)); (fail_if_success (with_reducible show WPost _ _ _ _ _)); (fail_if_success (with_reducible show wpAny _ _ (exec (Stmt.If _ [Stmt.Assign [Expr.Tuple _ _ _] _ _] [] _) _) _ _ _)); (fail_if_success (with_reducible show wpAny _ _ (call (Value.type "list") _) _ _ _)); (fail_if_success (with_reducible show AtI _ _ _ _ _ _ _ _ _ _ _)); first | (k_unfold; (try dsimp only)) | ((with_reducible refine wpAny_execs_cons ?_); (try dsimp only)) | (with_reducible (k_here; (with_reducible show wpAny _ _ (call (Value.ref 21) [Value.str _ _, Value.str _ _]) _ _ _); k_dflt (refine' Con.use (sub_use _ _ _ _ _ _ _ ?hx ?hy ?hc ?hd) ?B ?F ?X ?N ?T ?hk ?dp ?un ?_; (case hx => assumption); (case hy => assumption); (case hc => assumption); (case hd => assumption); (case B => k_asm); (case F => k_asm); (case X => k_asm); (case N => k_asm); (case T => k_asm); (case hk => rfl); (case dp => ktr_room); (case un => ktr_units)); (intro r9 tl9 h9 tk9 F9 N9 o9 q9); (obtain ⟨a9, t9, b9⟩ := q9); (subst a9; subst b9); (try simp only [List.nil_append] at N9); (try dsimp only))) | (with_reducible (k_here; (with_reducible show wpAny _ _ (eval (Expr.Subscript (Expr.Name _ _) (Expr.Slice none (some (Expr.BoolOp BoolOp.Or [_, _] _)) none _) _) _) _ _ _); k_dflt (refine' slice_post ?F ?N ?v ?k ?j ?l ?_; (case F => k_asm); (case N => k_asm); (case v => exact rfl); (case k => exact rfl); (case j => omega); (case l => omega)); intro _ _ _ _ _)) | walk1 | (dsimp only; walk1)))
                  all_goals (
                    have e0 : (0 + (j : Int)).toNat = j := by omega
                    rename IntsAre (List.set _ _ _) _ => hi9
                    dsimp only [WPost]
                    rw [e0] at hi9)
                  · rename _ < m2 => hm9
                    rw [e0] at hm9
                    refine AtI.intro ⟨?x1, ?x2, ?x3, ?x4, ?x5, ?x6, ?x7, ?x8, ?x9⟩ (by k_asm) (by k_asm) led_in led_it (led_off hJ2) ?hkA (by ((intro z hz; (simp only [List.contains_cons, List.contains_nil, Bool.or_false, Bool.or_eq_false_iff, beq_eq_false_iff_ne, ne_eq] at hz); (simp [hz, kstB]; done)))) ⟨?p1, ?p2, ?p3⟩
                    case hkA => kst_all
                    case p1 => (try simp only [e0]); exact hi9
                    case p2 => (try simp only [e0]); rw [List.length_set]; exact g2
                    case p3 => (try simp only [e0]); exact inner_step hx0' (by omega) g3 (if_pos hm9).symm
                  · rename ¬ _ < m2 => hm9
                    rw [e0] at hm9
                    refine AtI.intro ⟨?y1, ?y2, ?y3, ?y4, ?y5, ?y6, ?y7, ?y8, ?y9⟩ (by k_asm) (by k_asm) led_in led_it (led_off hJ2) ?hkA2 (by ((intro z hz; (simp only [List.contains_cons, List.contains_nil, Bool.or_false, Bool.or_eq_false_iff, beq_eq_false_iff_ne, ne_eq] at hz); (simp [hz, kstB]; done)))) ⟨?q1, ?q2, ?q3⟩
                    case hkA2 => kst_all
                    case q1 => (try simp only [e0]); exact hi9
                    case q2 => (try simp only [e0]); rw [List.length_set]; exact g2
                    case q3 => (try simp only [e0]); exact inner_step hx0' (by omega) g3 (if_neg hm9).symm
end Mine
end
noncomputable section

open PySem PySem.W PySem.Calls PyProof.Rows PyProof
set_option Elab.async false
set_option maxRecDepth 100000
set_option maxHeartbeats 8000000
namespace Mine
theorem offParse : True := by
  w_top off
  trivial
noncomputable def parseM : List Nat → List Nat
  | [] => []
  | [c] => if c = 34 then [] else [c]
  | c :: d :: r => if c = 34 then (if d = 34 then 34 :: parseM r else []) else c :: parseM (d :: r)
theorem parseM_at {l : List Nat} {i c : Nat} (h : l[i]? = some c) (hc : c ≠ 34) : parseM (l.drop i) = c :: parseM (l.drop (i + 1)) := by
  obtain ⟨l1, e1⟩ := List.getElem?_eq_some_iff.mp h
  rw [List.drop_eq_getElem_cons l1, e1]
  cases l.drop (i + 1) with
  | nil => simp [parseM, hc]
  | cons d r => simp [parseM, hc]
theorem parseM_end {l : List Nat} {i : Nat} (h : l.length ≤ i) : parseM (l.drop i) = [] := by
  rw [List.drop_of_length_le h]; rfl
theorem parseM_last {l : List Nat} {i : Nat} (h : l[i]? = some 34) (hl : l.length ≤ i + 1) : parseM (l.drop i) = [] := by
  obtain ⟨l1, e1⟩ := List.getElem?_eq_some_iff.mp h
  rw [List.drop_eq_getElem_cons l1, e1, List.drop_of_length_le hl]
  rfl
theorem parseM_one {l : List Nat} {i d : Nat} (h : l[i]? = some 34) (h2 : l[i + 1]? = some d) (hd : d ≠ 34) : parseM (l.drop i) = [] := by
  obtain ⟨l1, e1⟩ := List.getElem?_eq_some_iff.mp h
  obtain ⟨l2, e2⟩ := List.getElem?_eq_some_iff.mp h2
  rw [List.drop_eq_getElem_cons l1, e1, List.drop_eq_getElem_cons l2, e2]
  simp [parseM, hd]
theorem parseM_two {l : List Nat} {i : Nat} (h : l[i]? = some 34) (h2 : l[i + 1]? = some 34) : parseM (l.drop i) = 34 :: parseM (l.drop (i + 2)) := by
  obtain ⟨l1, e1⟩ := List.getElem?_eq_some_iff.mp h
  obtain ⟨l2, e2⟩ := List.getElem?_eq_some_iff.mp h2
  rw [List.drop_eq_getElem_cons l1, e1, List.drop_eq_getElem_cons l2, e2]
  simp [parseM]
theorem quote_is : PySem.Str.ofString "\"" = T [34] := by decide +kernel
section
variable {prog : Program} {w : World} {A : Around} {E : Value → Shared → Prop} {s : Shared}
theorem ne_same {x y : Str} {t u : Tok} {Q : Value → Shared → Prop} (h : x = y) (hQ : Q (.bool false) s) : wpAny (model prog w) A (compareOp .NotEq (.str x t) (.str y u)) Q E s := by
  subst h
  refine ne_str ?_
  simpa using hQ
end
theorem parse_con (w : World) (x : List Nat) (t : Tok) (hx0 : x.length ≤ 4) : Con w 3 60 [.str (T (50 :: 53 :: 55 :: 32 :: 34 :: x)) t] (fun r tl => tl = [] ∧ ∃ t', r = .str (T (parseM x)) t') := by
  unfold Con
  k_fill
  intro loose mean mg mb dp un gd cn cs a ccd cl otr A₀ base h₀ L m news s Q E B F X N TT hk hdp hun hret
  have hl : (T (50 :: 53 :: 55 :: 32 :: 34 :: x)).length = x.length + 5 := by rw [T_len]; rfl
  have h257 : Txt.slice (T (50 :: 53 :: 55 :: 32 :: 34 :: x)) none (some 3) = Str.ofString "257" := by
    rw [show (3 : Int) = ((3 : Nat) : Int) from rfl, slice_to (by simp)]
    show T [50, 53, 55] = _
    decide +kernel
  have h35 : Txt.slice (T (50 :: 53 :: 55 :: 32 :: 34 :: x)) (some 3) (some 5) = Str.ofString " \"" := by
    rw [show (3 : Int) = ((3 : Nat) : Int) from rfl, show (5 : Int) = ((5 : Nat) : Int) from rfl, slice_ab (by decide) (by simp)]
    show T [32, 34] = _
    decide +kernel
  refine wpAny_call ?_
  k_dflt cell_enter
  (repeat' ((fail_if_success (with_reducible show wpAny _ _ (exec (Stmt.While _ _ _ _) _) _ _ _)); (fail_if_success (with_reducible show wpAny _ _ (pyIter _) (fun it s₂ => LoopAtV _ _ _ _ _ _ _ _ _ it s₂) _ _)); (fail_if_success (with_reducible show At _ _ _ _ _ _ _ _ _)); (fail_if_success (with_reducible show WPost _ _ _ _ _)); (fail_if_success (with_reducible show AtI _ _ _ _ _ _ _ _ _ _ _)); first | (k_unfold; (try dsimp only)) | ((with_reducible refine wpAny_execs_cons ?_); (try dsimp only)) | ((with_reducible refine ne_same (by assumption) ?_)) | walk1 | (dsimp only; walk1)))
  have hlen : (50 :: 53 :: 55 :: 32 :: 34 :: x).length = x.length + 5 := rfl
  have hM : parseM ((50 :: 53 :: 55 :: 32 :: 34 :: x).drop 5) = parseM x := rfl
  clear h257 h35
  generalize 50 :: 53 :: 55 :: 32 :: 34 :: x = l at *
  rename Fr _ _ _ _ => F1
  rename News _ _ _ _ => N1
  refine while_at (σ := (Nat × Tok) × (List Nat × Tok)) (fun _ => news) (fun c => [(Str.ofString "i", .int (c.1.1 : Int) c.1.2), (Str.ofString "dirname", .str (T c.2.1) c.2.2)]) [Str.ofString "i", Str.ofString "dirname", Str.ofString "c"]
    (fun c => 5 ≤ c.1.1 ∧ c.1.1 ≤ l.length ∧ c.2.1.length ≤ c.1.1 ∧ parseM x = c.2.1 ++ parseM (l.drop c.1.1)) (fun c => parseM x = c.2.1) (fun c => l.length - c.1.1) ((5, ?ta), ([], ?tb)) F1 N1 ?hk ?hp ?turn ?done
  case hk => kst_all
  case hp => exact ⟨Nat.le_refl _, (by dsimp only; omega), Nat.zero_le _, hM.symm⟩
  case turn =>
    clear F1 N1
    rintro ⟨⟨i, ti⟩, ⟨d, td⟩⟩ u1 h1 tk1 ⟨hp1, hp2, hp3, hp4⟩ F2 N2
    dsimp only at F2 N2 hp1 hp2 hp3 hp4
    have hd0 := T_len d
    (repeat' ((fail_if_success (with_reducible show wpAny _ _ (exec (Stmt.While _ _ _ _) _) _ _ _)); (fail_if_success (with_reducible show wpAny _ _ (pyIter _) (fun it s₂ => LoopAtV _ _ _ _ _ _ _ _ _ it s₂) _ _)); (fail_if_success (with_reducible show At _ _ _ _ _ _ _ _ _)); (fail_if_success (with_reducible show WPost _ _ _ _ _)); (fail_if_success (with_reducible show AtI _ _ _ _ _ _ _ _ _ _ _)); first | (k_unfold; (try dsimp only)) | ((with_reducible refine wpAny_execs_cons ?_); (try dsimp only)) | ((with_reducible refine ne_same (by assumption) ?_)) | walk1 | (dsimp only; walk1)))
    all_goals try (
      have hi0 : i < l.length := by omega
      obtain ⟨k, hk⟩ : ∃ k, l[i]? = some k := ⟨_, List.getElem?_eq_getElem hi0⟩
      have hkI := item_at hk)
    · rename (Txt.item _ _ == _) = true => hq
      rw [hkI, quote_is] at hq
      have hk34 : k = 34 := by simpa using T_true hq
      subst hk34
      have hz : l.length ≤ i + 1 := by omega
      dsimp only [WPost]
      refine At.intro ((i + 1, ?tc1), (d, ?tc2)) (by k_asm) (by k_asm) (fun _ h => h) ?hkA (by ((intro z hz; (simp only [List.contains_cons, List.contains_nil, Bool.or_false, Bool.or_eq_false_iff, beq_eq_false_iff_ne, ne_eq] at hz); (simp [hz, kstB]; done)))) ?hA
      case hkA => kst_all
      case hA => dsimp only; rw [hp4, parseM_last hk hz, List.append_nil]
    · rename (Txt.item _ (_ + _) != _) = true => hq2
      rename (Txt.item _ _ == _) = true => hq
      rw [hkI, quote_is] at hq
      have hk34 : k = 34 := by simpa using T_true hq
      subst hk34
      have hi1 : i + 1 < l.length := by omega
      obtain ⟨k2, hk2⟩ : ∃ k, l[i + 1]? = some k := ⟨_, List.getElem?_eq_getElem hi1⟩
      have hkI2 : Txt.item (T l) ((i : Int) + 1) = T [k2] := item_at (i := i + 1) hk2
      rw [hkI2, quote_is] at hq2
      have hne : k2 ≠ 34 := fun e => by subst e; simp at hq2
      dsimp only [WPost]
      refine At.intro ((i + 1, ?td1), (d, ?td2)) (by k_asm) (by k_asm) (fun _ h => h) ?hkB (by ((intro z hz; (simp only [List.contains_cons, List.contains_nil, Bool.or_false, Bool.or_eq_false_iff, beq_eq_false_iff_ne, ne_eq] at hz); (simp [hz, kstB]; done)))) ?hB
      case hkB => kst_all
      case hB => dsimp only; rw [hp4, parseM_one hk hk2 hne, List.append_nil]
    · rename (Txt.item _ (_ + _) != _) = false => hq2
      rename (Txt.item _ _ == _) = true => hq
      rw [hkI, quote_is] at hq
      have hk34 : k = 34 := by simpa using T_true hq
      subst hk34
      have hi1 : i + 1 < l.length := by omega
      obtain ⟨k2, hk2⟩ : ∃ k, l[i + 1]? = some k := ⟨_, List.getElem?_eq_getElem hi1⟩
      have hkI2 : Txt.item (T l) ((i : Int) + 1) = T [k2] := item_at (i := i + 1) hk2
      rw [hkI2, quote_is] at hq2
      have he : k2 = 34 := by
        have : T [k2] = T [34] := by simpa using hq2
        simpa using T_inj this
      subst he
      rename Fr _ _ _ _ => F3
      rw [hkI, T_app] at F3
      dsimp only [WPost]
      refine At.intro ((i + 2, ?te1), (d ++ [34], ?te2)) (by k_asm) (by k_asm) (fun _ h => h) ?hkC (by ((intro z hz; (simp only [List.contains_cons, List.contains_nil, Bool.or_false, Bool.or_eq_false_iff, beq_eq_false_iff_ne, ne_eq] at hz); (simp [hz, kstB]; done)))) ⟨⟨(by dsimp only; omega), (by dsimp only; omega), (by simp; omega), ?hC⟩, (by dsimp only; omega)⟩
      case hkC => kst_all
      case hC => dsimp only; rw [hp4, parseM_two hk hk2, List.append_assoc]; rfl
    · rename (Txt.item _ _ == _) = false => hq
      rw [hkI, quote_is] at hq
      have hne : k ≠ 34 := fun e => T_false hq (by rw [e])
      rename Fr _ _ _ _ => F3
      rw [hkI, T_app] at F3
      dsimp only [WPost]
      refine At.intro ((i + 1, ?tf1), (d ++ [k], ?tf2)) (by k_asm) (by k_asm) (fun _ h => h) ?hkD (by ((intro z hz; (simp only [List.contains_cons, List.contains_nil, Bool.or_false, Bool.or_eq_false_iff, beq_eq_false_iff_ne, ne_eq] at hz); (simp [hz, kstB]; done)))) ⟨⟨(by dsimp only; omega), (by dsimp only; omega), (by simp; omega), ?hD⟩, (by dsimp only; omega)⟩
      case hkD => kst_all
      case hD => dsimp only; rw [hp4, parseM_at hk hne, List.append_assoc]; rfl
    · have hz : l.length ≤ i := by omega
      refine At.intro ((i, ?tg1), (d, ?tg2)) (by k_asm) (by k_asm) (fun _ h => h) ?hkE (by ((intro z hz; (simp only [List.contains_cons, List.contains_nil, Bool.or_false, Bool.or_eq_false_iff, beq_eq_false_iff_ne, ne_eq] at hz); (simp [hz, kstB]; done)))) ?hE
      case hkE => kst_all
      case hE => dsimp only; rw [hp4, parseM_end hz, List.append_nil]
  case done =>
    clear F1 N1
    rintro ⟨⟨i, ti⟩, ⟨d, td⟩⟩ u1 h1 tk1 hp F2 N2
    dsimp only at F2 N2 hp
    (repeat' ((fail_if_success (with_reducible show wpAny _ _ (exec (Stmt.While _ _ _ _) _) _ _ _)); (fail_if_success (with_reducible show wpAny _ _ (pyIter _) (fun it s₂ => LoopAtV _ _ _ _ _ _ _ _ _ it s₂) _ _)); (fail_if_success (with_reducible show At _ _ _ _ _ _ _ _ _)); (fail_if_success (with_reducible show WPost _ _ _ _ _)); (fail_if_success (with_reducible show AtI _ _ _ _ _ _ _ _ _ _ _)); first | (k_unfold; (try dsimp only)) | ((with_reducible refine wpAny_execs_cons ?_); (try dsimp only)) | ((with_reducible refine ne_same (by assumption) ?_)) | walk1 | (dsimp only; walk1)))
    refine hret _ [] _ _ (by assumption) (by assumption) tl0 ⟨rfl, td, ?_⟩
    rw [hp]
end Mine
end
noncomputable section
open PySem PySem.W PySem.Calls PyProof.Rows PyProof PyProof.Rows.LCg PyProof.Rows.LCt
set_option Elab.async false
set_option maxRecDepth 100000
namespace Mine
theorem offComps : True := by
  w_top off
  trivial
section
variable {prog : Program} {w : World} {A : Around} {E : Value → Shared → Prop} {s : Shared} {h₀ : Heap} {L : Addr} {m : Str → Option Value} {env : Env}
noncomputable abbrev tupOf (its : Array Value) (k : Nat) : Obj := { cls := .type "tuple", data := .seq its k }
/-- the source of a comprehension with one test is a tuple of the ledger -/
noncomputable def SrcTT (prog : Program) (w : World) (A : Around) (h₀ : Heap) (L : Addr) (m : Str → Option Value) (env : Env) (ct elt : Expr) (x : Str) (scope : Scope) (cl : List (Str × Addr)) (Fin : Shared → List Value → List (Addr × Obj) → Prop) (xv : Value) (s₁ : Shared) : Prop :=
  ∃ ax its k news, xv = .ref ax ∧ A.handled = none ∧ Fr h₀ L s₁.heap m ∧ News h₀ L s₁.heap news ∧ (ax, tupOf its k) ∈ news ∧ its.size ≤ sizeLine ∧
    ∀ s₂ : Shared, (∃ h, s₂ = { s₁ with heap := h }) → CompRestT prog w A h₀ L m env ct elt x scope cl s₂ (fun nw => (ax, tupOf its k) ∈ nw) (fun i v => its[i]? = some v) (Fin s₂) its.size 0 [] news
theorem ListComp_TT {ct elt iter : Expr} {x : Str} {px : Pos} {scope : Scope} {cl : List (Str × Addr)} {pos : Pos} {Q : Value → Shared → Prop} (_F₀ : Fr h₀ L s.heap m)
    (hclos : closureFor scope env = pure cl) (hcell : ∀ y ∈ scope.names, y.2 ≠ .cell) (hkind : scope.kind = .function)
    (hnames : ∀ y ∈ scope.names, y.2 = .local → scope.names.lookup y.1 = some .local) (hx : scope.names.lookup x = some .local)
    (h : wpAny (model prog w) A (eval iter env) (SrcTT prog w A h₀ L m env ct elt x scope cl (fun s₂ => FinE h₀ L m s₂ Q)) E s)
    (hs : ∀ x, foldedSetIterable iter env x = pure x := by intro _; rfl) :
    wpAny (model prog w) A (eval (.ListComp elt [⟨.Name x px, iter, [ct], 0⟩] scope pos) env) Q E s := by
  rw [eval_ListComp]
  refine wpAny_comprehension_free rfl hs hclos hkind hnames (wpAny_mono h ?_ fun _ _ q => q)
  rintro v s₁ ⟨ax, its, k, news, rfl, hh, F, N, S, hsz, R⟩
  have lt : ∀ p ∈ news, @LT.lt Nat _ p.1 s₁.heap.objs.size := fun p hp => Heap.lt_size (N p hp).1
  have ltx : @LT.lt Nat _ ax s₁.heap.objs.size := lt _ S
  have U : s₁.heap.IsTuple ax its := ⟨_, (N _ S).1, rfl, k, rfl⟩
  have grow : ∀ o : Obj, ∀ b x, s₁.heap.get? b = some x → (s₁.heap.push o).get? b = some x := fun o _ _ => Heap.get?_push_of_some o
  refine wpAny_pyIter_tuple U (block_T (Walks.tuple hh _ ax (Nat.ne_of_lt ltx) its) hsz (fun _ _ st => let ⟨o, e, _⟩ := st.1; ⟨o, e⟩) ?same hcell hkind hx ⟨⟨_, Heap.get?_push_size _ rfl, rfl, rfl⟩, U.push _⟩ ?foot
    (F.keeps (grow _)) (N.grown (grow _)) (Nat.ne_of_lt F.ns.lt) (next_is_new F) (fun p hp => Nat.ne_of_lt (lt p hp)) S (R _ ⟨_, rfl⟩) ?fin)
  case same =>
    rintro i h h' o nw ⟨⟨o', q, r⟩, -⟩ e e' - NN SS
    obtain rfl : o' = o := Option.some.inj (q.symm.trans e)
    exact ⟨⟨o', e', r⟩, ⟨_, (NN _ SS).1, rfl, k, rfl⟩⟩
  case foot =>
    intro b hb
    have : @LT.lt Nat _ b (s₁.heap.objs.size + 1) := by
      simp only [List.mem_cons, List.not_mem_nil, or_false] at hb
      rcases hb with rfl | rfl <;> omega
    simpa only [Heap.size_push] using this
  case fin =>
    intro D C h tk u ys nw F' N' o1 hu hC _ hCL _ hCD oC f
    refine ⟨u, hu, fun h2 b2 => f D h2 tk (F'.change b2 hCL hC) ((Out.one b2).led (List.forall_mem_cons.mpr ⟨?_, fun p hp => ?_⟩) N') o1⟩
    · simpa using Ne.symm hCD
    · simpa using oC p hp
end
end Mine
end
noncomputable section
open PySem PySem.W PySem.Calls PyProof.Rows PyProof PyProof.Rows.LCg PyProof.Rows.LCt
set_option Elab.async false
set_option maxRecDepth 100000
namespace Mine
theorem offPieces0 : True := by
  w_top off
  trivial
noncomputable def EX : List (List Nat) := [[33], [33, 61], [37], [37, 61], [38], [38, 61], [40], [41], [42], [42, 42], [42, 42, 61], [42, 61], [43], [43, 61], [44], [45], [45, 61], [45, 62], [46], [46, 46, 46], [47], [47, 47], [47, 47, 61], [47, 61], [58], [58, 61], [59], [60], [60, 60], [60, 60, 61], [60, 61], [61], [61, 61], [62], [62, 61], [62, 62], [62, 62, 61], [64], [64, 61], [91], [93], [94], [94, 61], [123], [124], [124, 61], [125], [126]]
open Builtin.Str in
theorem slice_clip {l : List Nat} {a b : Nat} (h0 : a ≤ l.length) (h1 : a ≤ b) : Txt.slice (T l) (some (a : Int)) (some (b : Int)) = T ((l.drop a).take (b - a)) := by
  by_cases h : b ≤ l.length
  · exact slice_ab h1 h
  · have e : Txt.slice (T l) (some (a : Int)) (some (b : Int)) = Txt.slice (T l) (some (a : Int)) (some ((l.length : Nat) : Int)) := by
      have e1 : Builtin.Str.strSliceIndices (some (a : Int)) (some (b : Int)) 1 (T l).length = Builtin.Str.strSliceIndices (some (a : Int)) (some ((l.length : Nat) : Int)) 1 (T l).length := by
        rw [T_len]
        have a1 : ¬ ((b : Int) < 0) := by omega
        have a2 : ¬ ((l.length : Int) < 0) := by omega
        have a3 : min (b : Int) (l.length : Int) = l.length := by omega
        simp [strSliceIndices, a1, a2, a3]
      show StrLaws.sliceText _ _ _ = StrLaws.sliceText _ _ _
      unfold StrLaws.sliceText
      rw [e1]
    rw [e, slice_ab h0 (Nat.le_refl _), List.take_of_length_le (by simp), List.take_of_length_le (by simp; omega)]
theorem slice_k {l : List Nat} {a k : Nat} {z : Int} (hz : z = (a : Int) + (k : Int)) (h0 : a ≤ l.length) : Txt.slice (T l) (some (a : Int)) (some z) = T ((l.drop a).take k) := by
  have : z = ((a + k : Nat) : Int) := by omega
  rw [this, slice_clip h0 (by omega), Nat.add_sub_cancel_left]
theorem inKeys_map {δ : Type} (k : Str) : ∀ D : List (Str × δ), KTD.inKeys k D = (D.map (·.1)).contains k
  | [] => rfl
  | (x, _) :: D => by
    show (decide (k = x) || KTD.inKeys k D) = _
    rw [inKeys_map k D, List.map_cons, List.contains_cons]
    by_cases h : k = x <;> simp [h]
theorem contains_T (l : List Nat) : ∀ E : List (List Nat), (E.map T).contains (T l) = E.contains l
  | [] => rfl
  | e :: E => by
    rw [List.map_cons, List.contains_cons, List.contains_cons, contains_T l E]
    by_cases h : l = e
    · simp [h]
    · have h1 : (T l == T e) = false := beq_eq_false_iff_ne.mpr fun q => h (T_inj q)
      have h2 : (l == e) = false := beq_eq_false_iff_ne.mpr h
      rw [h1, h2]
theorem in_EX {prog : Program} {w : World} {A : Around} {E : Value → Shared → Prop} {s : Shared} {h₀ : Heap} {D : List (Str × KTD.Dat)} {k : Str} {l : List Nat} {tk : Tok} {Q : Value → Shared → Prop}
    (H : KTD.Here h₀ s.heap 68 D) (hD : D.map (·.1) = EX.map T) (hk : k = T l) (h : Q (.bool (EX.contains l)) { s with toks := s.toks + 1 }) :
    wpAny (model prog w) A (compareOp .In (.str k tk) (.ref 68)) Q E s := by
  refine KTD.in_text H ?_
  rw [inKeys_map, hD, hk, contains_T]
  exact h
theorem look_EX {l : List Nat} {k : Str} (hk : k = T l) : ∀ (D : List (PyData × PyData)) (E : List (List Nat)), D.map (·.1) = E.map (fun e => PyData.str (T e)) → (PySem.Spec.lookup (PyData.str k) D).isSome = E.contains l
  | [], [], _ => rfl
  | [], _ :: _, h => by cases h
  | _ :: _, [], h => by cases h
  | (i, v) :: D, e :: E, h => by
    have h1 : i = PyData.str (T e) := (List.cons.inj h).1
    have h2 := (List.cons.inj h).2
    show (if PySem.Spec.same i (PyData.str k) = true then some v else PySem.Spec.lookup (PyData.str k) D).isSome = _
    rw [List.contains_cons, ← look_EX hk D E h2, h1, PyProof.V.same_str, hk]
    by_cases q : e = l
    · subst q; simp
    · have h3 : T e ≠ T l := fun z => q (T_inj z)
      have h4 : (l == e) = false := beq_eq_false_iff_ne.mpr (Ne.symm q)
      simp [h3, h4]
theorem one_in {c : Nat} (h : c ∈ [42, 47, 60, 62, 34]) (h2 : c ≠ 34) : EX.contains [c] = true := by
  simp only [List.mem_cons, List.not_mem_nil, or_false] at h
  rcases h with rfl | rfl | rfl | rfl | rfl
  all_goals first | rfl | exact absurd rfl h2
theorem take_one {l : List Nat} {i c : Nat} (h : l[i]? = some c) : (l.drop i).take 1 = [c] := by
  obtain ⟨hi, e⟩ := List.getElem?_eq_some_iff.mp h
  rw [List.drop_eq_getElem_cons hi, e]; rfl
theorem drop_at {l : List Nat} {i c : Nat} (h : l[i]? = some c) : l.drop i = c :: l.drop (i + 1) := by
  obtain ⟨hi, e⟩ := List.getElem?_eq_some_iff.mp h
  rw [List.drop_eq_getElem_cons hi, e]
theorem strs_T {vs : List Value} {ps : List (List Nat)} {y : Str} {x : List Nat} {t : Tok} (h : StrsAre vs (ps.map T)) (e : y = T x) : StrsAre (vs ++ [.str y t]) ((ps ++ [x]).map T) := by
  subst e
  rw [List.map_append]
  exact kct_snoc h
theorem led_push (vs : List Value) (v : Value) : vs.toArray.push v = (vs ++ [v]).toArray := by simp
theorem parseM_mem : ∀ y : List Nat, ∀ c ∈ parseM y, c ∈ y
  | [] => by simp [parseM]
  | [c] => by
    unfold parseM
    split
    · simp
    · simp
  | c :: d :: r => by
    unfold parseM
    split
    · split
      · rename_i h1 h2
        have := parseM_mem r
        intro z hz
        rcases List.mem_cons.mp hz with e | e
        · rw [e, h1]; exact .head _
        · exact .tail _ (.tail _ (this z e))
      · simp
    · have := parseM_mem (d :: r)
      intro z hz
      rcases List.mem_cons.mp hz with e | e
      · rw [e]; exact .head _
      · exact .tail _ (this z e)
noncomputable def sz (l : List Nat) : Nat := if EX.contains (l.take 3) then 3 else if EX.contains (l.take 2) then 2 else 1
theorem sz_pos (l : List Nat) : 1 ≤ sz l := by unfold sz; split; omega; split <;> omega
theorem sz_of {l : List Nat} {b2 b3 : Bool} {M : Int} (h2 : EX.contains (l.take 2) = b2) (h3 : EX.contains (l.take 3) = b3)
    (e : (b3 = true → M = 3) ∧ (b3 = false → b2 = true → M = 2) ∧ (b3 = false → b2 = false → M = 1)) : M = (sz l : Int) := by
  unfold sz
  rw [h2, h3]
  cases b3 with
  | true => exact e.1 rfl
  | false => cases b2 with
    | true => exact e.2.1 rfl rfl
    | false => exact e.2.2 rfl rfl
noncomputable def cut : Nat → List Nat → List (List Nat)
  | 0, _ => []
  | _ + 1, [] => []
  | n + 1, c :: r => if c = 34 then [34, 34] :: cut n r else (c :: r).take (sz (c :: r)) :: cut n ((c :: r).drop (sz (c :: r)))
theorem cut_nil (n : Nat) : cut n [] = [] := by cases n <;> rfl
theorem cut_quote {n i : Nat} {l : List Nat} (h : l[i]? = some 34) : cut (n + 1) (l.drop i) = [34, 34] :: cut n (l.drop (i + 1)) := by
  rw [drop_at h, cut, if_pos rfl]
theorem cut_sign {n i c : Nat} {l : List Nat} (h : l[i]? = some c) (hc : c ≠ 34) : cut (n + 1) (l.drop i) = (l.drop i).take (sz (l.drop i)) :: cut n (l.drop (i + sz (l.drop i))) := by
  rw [← List.drop_drop, drop_at h, cut, if_neg hc]
theorem cut_len : ∀ (n : Nat) (l : List Nat), (cut n l).length ≤ l.length
  | 0, _ => by simp [cut]
  | _ + 1, [] => by simp [cut]
  | n + 1, c :: r => by
    unfold cut
    split
    · have := cut_len n r
      simp only [List.length_cons]
      omega
    · have := cut_len n ((c :: r).drop (sz (c :: r)))
      have h1 := sz_pos (c :: r)
      simp only [List.length_cons, List.length_drop] at this ⊢
      omega
end Mine
end
noncomputable section
open PySem PySem.W PySem.Calls PyProof.Rows PyProof PyProof.Rows.LCg PyProof.Rows.LCt
set_option Elab.async false
set_option maxRecDepth 100000
set_option maxHeartbeats 8000000
namespace Mine
theorem offPieces : True := by
  w_top off
  trivial
theorem parse_use (w : World) (z : Str) (x : List Nat) (t : Tok) (hz : z = T (50 :: 53 :: 55 :: 32 :: 34 :: x)) (hx0 : x.length ≤ 4) : Con w 3 60 [.str z t] (fun r tl => tl = [] ∧ ∃ t', r = .str (T (parseM x)) t') := by
  subst hz
  exact parse_con w x t hx0
theorem open_is : PySem.Str.ofString "257 \"" = T [50, 53, 55, 32, 34] := by decide +kernel
local macro_rules | `(tactic| k_all) => `(tactic| first | assumption | exact all_ne (by assumption) (by omega))
theorem parseM_used : ∀ y : List Nat, (parseM y).length + (parseM y).count 34 ≤ y.length
  | [] => by simp [parseM]
  | [c] => by
    unfold parseM
    split
    · simp
    · rename_i h; simp [h]
  | c :: d :: r => by
    unfold parseM
    split
    · split
      · have := parseM_used r
        simp only [List.length_cons, List.count_cons_self]
        omega
      · simp
    · rename_i h
      have := parseM_used (d :: r)
      have e : (c :: parseM (d :: r)).count 34 = (parseM (d :: r)).count 34 := by rw [List.count_cons, if_neg (by simpa using h)]; rfl
      rw [e]
      simp only [List.length_cons] at this ⊢
      omega
noncomputable def pieces : Nat → List Nat → List (List Nat)
  | 0, _ => []
  | n + 1, x => if x = [] then [] else
    let name := parseM x
    let rest := x.drop (name.length + name.count 34)
    cut (name.length + 1) name ++ (if rest = [] then [] else [34] :: pieces n (rest.drop 1))
theorem cnt_count (c : Nat) : ∀ l : List Nat, PyProof.Rows.cnt c l = (l.count c : Int)
  | [] => rfl
  | d :: r => by
    show (if PySem.Spec.same (PyData.str ⟨#[d]⟩) (PyData.str ⟨#[c]⟩) = true then 1 else 0) + PyProof.Rows.cnt c r = _
    rw [cnt_count c r, PyProof.V.same_str, List.count_cons]
    by_cases h : d = c
    · subst h; simp; omega
    · have : (⟨#[d]⟩ : Str) ≠ ⟨#[c]⟩ := fun e => h (by have := T_inj (a := [d]) (b := [c]) e; simpa using this)
      simp [h, this]
theorem count_quote (l : List Nat) : Txt.count (T l) (PySem.Str.ofString "\"") = (l.count 34 : Int) := by
  rw [quote_is]
  exact (count_cnt (T l) 34).trans (cnt_count 34 l)
structure PS where
  f : Nat
  place : Nat
  tp : Tok
  ps : List (List Nat)
  vs : List Value
  nn : Nat
  o1 : Obj
  o2 : Obj
structure QS where
  f : Nat
  spot : Nat
  ts : Tok
  ps : List (List Nat)
  vs : List Value
  nn : Nat
  o1 : Obj
theorem pieces_con (w : World) (x : List Nat) (t : Tok) (hx0 : x.length ≤ 4) (hxs : ∀ c ∈ x, c ∈ [42, 47, 60, 62, 34]) : Con w 5 96 [.str (T x) t] (fun r tl => ∃ D vs nn, r = .ref D ∧ tl = [(D, listOf vs.toArray nn)] ∧ StrsAre vs ((pieces (x.length + 1) x).map T)) := by
  unfold Con
  k_fill
  intro loose mean mg mb dp un gd cn cs a ccd cl otr A₀ base h₀ L m news s Q E B F X N TT hk hdp hun hret
  have hl : (T x).length = x.length := T_len x
  refine wpAny_call ?_
  k_dflt (refine' code_defC ?k1 ?k2 ?k3 ?k4 ?k5 ?kA ?kF ?kK ?k6 ?k7 ?k8 ?k9 ?kB ?kD ?_ ?c2 ?c3 ?c4; (case kA => exact rfl); (case kF => exact rfl); (case kK => assumption); (case k1 => k_asm); (case k2 => k_asm); (case k3 => k_asm); (case k4 => k_asm); (case k5 => k_asm); (case k6 => k_is); (case k7 => k_is); (case k8 => ktr_room); (case k9 => exact BindsTo.of_eq rfl); (case kB => exact rfl); (case kD => decide +kernel); (case c2 => exact rfl); (case c3 => exact rfl); (case c4 => exact rfl); k_whole)
  intro g' L' h' tk' cells' FG' F' N' Y' B' X' T' hlt
  obtain ⟨o1, o2, hE, d1, d2⟩ := CellsAre.two Y'
  subst hE
  clear Y'
  (try simp only [List.cons_append, List.nil_append] at N')
  (try dsimp only)
  (try k_lift B')
  (try k_fold)
  (repeat' ((fail_if_success (with_reducible show wpAny _ _ (exec (Stmt.While _ _ _ _) _) _ _ _)); (fail_if_success (with_reducible show wpAny _ _ (pyIter _) (fun it s₂ => LoopAtV _ _ _ _ _ _ _ _ _ it s₂) _ _)); (fail_if_success (with_reducible show At _ _ _ _ _ _ _ _ _)); (fail_if_success (with_reducible show WPost _ _ _ _ _)); (fail_if_success (with_reducible show wpAny _ _ (exec (Stmt.Assign _ (Expr.Call (Expr.Name _ _) [Expr.ListComp _ _ _ _] _ _) _) _) _ _ _)); (fail_if_success (with_reducible show wpAny _ _ (eval (Expr.ListComp _ _ _ _) _) _ _ _)); (fail_if_success (with_reducible show AtI _ _ _ _ _ _ _ _ _ _ _)); first | (k_unfold; (try dsimp only)) | ((with_reducible refine wpAny_execs_cons ?_); (try dsimp only)) | (k_here; (with_reducible show wpAny _ _ (compareOp CmpOp.In (Value.str _ _) (Value.ref _)) _ _ _); (fail_if_success (with_reducible rename KTD.TextTab _ _ _ => ttX)); walk_plain_pass; kt_sym; kt_k; ((with_reducible rename KTD.TextTab _ _ _ => ttX); (refine in_EX (by kt_tab) (by decide +kernel) (by first | exact slice_k (k := 1) (by omega) (by omega) | exact slice_k (k := 2) (by omega) (by omega) | exact slice_k (k := 3) (by omega) (by omega)) ?_))) | ((with_reducible show LCg.CompEnd _ _ _ _ _ _ _ _ _ _ _ _ _ _); (refine LCg.CompEnd.intro (by assumption) (by assumption) _ (fun _ hp => hp) (by first | assumption | (simp only [LCg.Off3, and_true]; assumption)) (by first | assumption | k_mem) ?_)) | (with_reducible (k_here; (with_reducible show wpAny _ _ (call (Value.ref 60) [Value.str _ _]) _ _ _); k_dflt (refine' Con.use (parse_use _ _ _ _ ?hz ?hx) ?B ?F ?X ?N ?T ?hk ?dp ?un ?_; (case hz => assumption); (case hx => assumption); (case B => k_asm); (case F => k_asm); (case X => k_asm); (case N => k_asm); (case T => k_asm); (case hk => rfl); (case dp => ktr_room); (case un => ktr_units)); (intro r9 tl9 h9 tk9 F9 N9 o9 q9); (obtain ⟨a9, t9, b9⟩ := q9); (subst a9; subst b9); (try simp only [List.nil_append] at N9); (try dsimp only))) | walk1 | (dsimp only; walk1)))
  rename Fr _ _ _ _ => F1
  rename News _ _ _ _ => N1
  rename _ ∧ _ ∧ AllLt _ _ => hAll
  rename_i D hh1 hh2 hh3
  refine while_at (σ := PS) (fun c => (D, listOf c.vs.toArray c.nn) :: (L' + 1 + 1, c.o1) :: (L' + 1, c.o2) :: news) (fun c => [(Str.ofString "place", .int (c.place : Int) c.tp)]) [Str.ofString "place", Str.ofString "size"]
    (fun c => (∃ v, c.o1.data = .cell v) ∧ (∃ v, c.o2.data = .cell v) ∧ StrsAre c.vs (c.ps.map T) ∧ c.place ≤ x.length ∧ x.length - c.place < c.f ∧ pieces (x.length + 1) x = c.ps ++ pieces c.f (x.drop c.place) ∧ c.ps.length ≤ c.place)
    (fun c => StrsAre c.vs (c.ps.map T) ∧ pieces (x.length + 1) x = c.ps) (fun c => x.length - c.place) ⟨x.length + 1, 0, ?ta, [], [], 0, o1, o2⟩ F1 N1 ?hk ?hp ?turn ?done
  case hk => kst_all
  case hp => exact ⟨⟨_, d1⟩, ⟨_, d2⟩, .nil, Nat.zero_le _, (by dsimp only; omega), rfl, Nat.zero_le _⟩
  case turn =>
    clear F1 N1
    rintro ⟨f, place, tp, ps, vs, nn, p1, p2⟩ u1 h1 tk1 ⟨⟨v1, e1⟩, ⟨v2, e2⟩, hvs, hp1, hp2, hp3, hp4⟩ F2 N2
    dsimp only at F2 N2 e1 e2 hvs hp1 hp2 hp3 hp4
    have hArg : Str.ofString "257 \"" ++ Txt.slice (T x) (some (place : Int)) none = T (50 :: 53 :: 55 :: 32 :: 34 :: x.drop place) := by
      rw [slice_from hp1, open_is, T_app]; rfl
    have hlen : (x.drop place).length ≤ 4 := by rw [List.length_drop]; omega
    have hused := parseM_used (x.drop place)
    have hnl : (T (parseM (x.drop place))).length = (parseM (x.drop place)).length := T_len _
    have hnmS : ∀ c ∈ parseM (x.drop place), c ∈ [42, 47, 60, 62, 34] := fun c hc => hxs c (List.mem_of_mem_drop (parseM_mem _ c hc))
    (repeat' ((fail_if_success (with_reducible show wpAny _ _ (exec (Stmt.While _ _ _ _) _) _ _ _)); (fail_if_success (with_reducible show wpAny _ _ (pyIter _) (fun it s₂ => LoopAtV _ _ _ _ _ _ _ _ _ it s₂) _ _)); (fail_if_success (with_reducible show At _ _ _ _ _ _ _ _ _)); (fail_if_success (with_reducible show WPost _ _ _ _ _)); (fail_if_success (with_reducible show wpAny _ _ (exec (Stmt.Assign _ (Expr.Call (Expr.Name _ _) [Expr.ListComp _ _ _ _] _ _) _) _) _ _ _)); (fail_if_success (with_reducible show wpAny _ _ (eval (Expr.ListComp _ _ _ _) _) _ _ _)); (fail_if_success (with_reducible show AtI _ _ _ _ _ _ _ _ _ _ _)); first | (k_unfold; (try dsimp only)) | ((with_reducible refine wpAny_execs_cons ?_); (try dsimp only)) | (k_here; (with_reducible show wpAny _ _ (compareOp CmpOp.In (Value.str _ _) (Value.ref _)) _ _ _); (fail_if_success (with_reducible rename KTD.TextTab _ _ _ => ttX)); walk_plain_pass; kt_sym; kt_k; ((with_reducible rename KTD.TextTab _ _ _ => ttX); (refine in_EX (by kt_tab) (by decide +kernel) (by first | exact slice_k (k := 1) (by omega) (by omega) | exact slice_k (k := 2) (by omega) (by omega) | exact slice_k (k := 3) (by omega) (by omega)) ?_))) | ((with_reducible show LCg.CompEnd _ _ _ _ _ _ _ _ _ _ _ _ _ _); (refine LCg.CompEnd.intro (by assumption) (by assumption) _ (fun _ hp => hp) (by first | assumption | (simp only [LCg.Off3, and_true]; assumption)) (by first | assumption | k_mem) ?_)) | (with_reducible (k_here; (with_reducible show wpAny _ _ (call (Value.ref 60) [Value.str _ _]) _ _ _); k_dflt (refine' Con.use (parse_use _ _ _ _ ?hz ?hx) ?B ?F ?X ?N ?T ?hk ?dp ?un ?_; (case hz => assumption); (case hx => assumption); (case B => k_asm); (case F => k_asm); (case X => k_asm); (case N => k_asm); (case T => k_asm); (case hk => rfl); (case dp => ktr_room); (case un => ktr_units)); (intro r9 tl9 h9 tk9 F9 N9 o9 q9); (obtain ⟨a9, t9, b9⟩ := q9); (subst a9; subst b9); (try simp only [List.nil_append] at N9); (try dsimp only))) | walk1 | (dsimp only; walk1)))
    · rename_i hA oN dN hB hC oS F1 N1 dS
      rw [count_quote, hnl] at F1
      generalize hnm : parseM (x.drop place) = nm at *
      refine while_at (σ := QS) (fun c => (D, listOf c.vs.toArray c.nn) :: (L' + 1 + 1, c.o1) :: (L' + 1, oN) :: news) (fun _ => []) [Str.ofString "size"]
        (fun c => c.o1.data = .cell (some (.int (c.spot : Int) c.ts)) ∧ StrsAre c.vs (c.ps.map T) ∧ nm.length - c.spot < c.f ∧ ps ++ cut (nm.length + 1) nm = c.ps ++ cut c.f (nm.drop c.spot) ∧ c.ps.length ≤ ps.length + c.spot)
        (fun c => (∃ v, c.o1.data = .cell v) ∧ StrsAre c.vs (c.ps.map T) ∧ c.ps = ps ++ cut (nm.length + 1) nm) (fun c => nm.length - c.spot) ⟨nm.length + 1, 0, ?tts9, ps, vs, nn, oS⟩ F1 N1 ?hkI ?hpI ?turnI ?doneI
      case hkI => kst_all
      case hpI => exact ⟨(by rw [dS]; rfl), hvs, (by dsimp only; omega), rfl, Nat.le_refl _⟩
      case turnI =>
        clear F1 N1
        rintro ⟨f2, spot, ts, ps2, vs2, nn2, q1⟩ u2 h2 tk2 ⟨d3, hvs2, hq1, hq2, hq3⟩ F3 N3
        dsimp only at F3 N3 d3 hvs2 hq1 hq2 hq3
        obtain ⟨f', rfl⟩ : ∃ f', f2 = f' + 1 := ⟨f2 - 1, by omega⟩
        (repeat' ((fail_if_success (with_reducible show wpAny _ _ (exec (Stmt.While _ _ _ _) _) _ _ _)); (fail_if_success (with_reducible show wpAny _ _ (pyIter _) (fun it s₂ => LoopAtV _ _ _ _ _ _ _ _ _ it s₂) _ _)); (fail_if_success (with_reducible show At _ _ _ _ _ _ _ _ _)); (fail_if_success (with_reducible show WPost _ _ _ _ _)); (fail_if_success (with_reducible show wpAny _ _ (exec (Stmt.Assign _ (Expr.Call (Expr.Name _ _) [Expr.ListComp _ _ _ _] _ _) _) _) _ _ _)); (fail_if_success (with_reducible show wpAny _ _ (eval (Expr.ListComp _ _ _ _) _) _ _ _)); (fail_if_success (with_reducible show AtI _ _ _ _ _ _ _ _ _ _ _)); first | (k_unfold; (try dsimp only)) | ((with_reducible refine wpAny_execs_cons ?_); (try dsimp only)) | (k_here; (with_reducible show wpAny _ _ (compareOp CmpOp.In (Value.str _ _) (Value.ref _)) _ _ _); (fail_if_success (with_reducible rename KTD.TextTab _ _ _ => ttX)); walk_plain_pass; kt_sym; kt_k; ((with_reducible rename KTD.TextTab _ _ _ => ttX); (refine in_EX (by kt_tab) (by decide +kernel) (by first | exact slice_k (k := 1) (by omega) (by omega) | exact slice_k (k := 2) (by omega) (by omega) | exact slice_k (k := 3) (by omega) (by omega)) ?_))) | ((with_reducible show LCg.CompEnd _ _ _ _ _ _ _ _ _ _ _ _ _ _); (refine LCg.CompEnd.intro (by assumption) (by assumption) _ (fun _ hp => hp) (by first | assumption | (simp only [LCg.Off3, and_true]; assumption)) (by first | assumption | k_mem) ?_)) | (with_reducible (k_here; (with_reducible show wpAny _ _ (call (Value.ref 60) [Value.str _ _]) _ _ _); k_dflt (refine' Con.use (parse_use _ _ _ _ ?hz ?hx) ?B ?F ?X ?N ?T ?hk ?dp ?un ?_; (case hz => assumption); (case hx => assumption); (case B => k_asm); (case F => k_asm); (case X => k_asm); (case N => k_asm); (case T => k_asm); (case hk => rfl); (case dp => ktr_room); (case un => ktr_units)); (intro r9 tl9 h9 tk9 F9 N9 o9 q9); (obtain ⟨a9, t9, b9⟩ := q9); (subst a9; subst b9); (try simp only [List.nil_append] at N9); (try dsimp only))) | walk1 | (dsimp only; walk1)))
        · rename_i oQ F8 N8 dQ
          have hsp : spot < nm.length := by omega
          obtain ⟨c, hc⟩ : ∃ c, nm[spot]? = some c := ⟨nm[spot], List.getElem?_eq_getElem hsp⟩
          rename (Txt.item _ _ == _) = true => hq
          rw [item_at hc, quote_is] at hq
          have hc34 : c = 34 := by simpa using T_true hq
          subst hc34
          rw [led_push] at N8
          dsimp only [WPost]
          refine At.intro ⟨f', spot + 1, ?tp1, ps2 ++ [[34, 34]], _, nn2 + 1, oQ⟩ F8 N8 (fun _ h => h) (fun _ h => nomatch h) (by ((intro z hz; (simp only [List.contains_cons, List.contains_nil, Bool.or_false, Bool.or_eq_false_iff, beq_eq_false_iff_ne, ne_eq] at hz); (simp [hz, kstB]; done)))) ⟨⟨?hP1, strs_T hvs2 (by decide +kernel), (by dsimp only; omega), ?hP2, (by simp; omega)⟩, (by dsimp only; omega)⟩
          case hP1 => rw [dQ]; rfl
          case hP2 => dsimp only; rw [hq2, cut_quote hc, List.append_assoc]; rfl
        · rename Fr _ _ _ _ => F1
          rename News _ _ _ _ => N1
          have hsp : spot < nm.length := by omega
          obtain ⟨c, hc⟩ : ∃ c, nm[spot]? = some c := ⟨nm[spot], List.getElem?_eq_getElem hsp⟩
          rename (Txt.item _ _ == _) = false => hq
          rw [item_at hc, quote_is] at hq
          have hc34 : c ≠ 34 := fun e => T_false hq (by rw [e])
          have hone : EX.contains ((nm.drop spot).take 1) = true := by
            rw [take_one hc]
            exact one_in (hnmS c (List.mem_of_getElem? hc)) hc34
          refine cut_at (σ := Tok) (fun _ => (D, listOf vs2.toArray nn2) :: (L' + 1 + 1, q1) :: (L' + 1, oN) :: news) (fun t => [(Str.ofString "size", .int (sz (nm.drop spot) : Int) t)]) [Str.ofString "size"] (fun _ => True) F1 ?hC ?doneC
          case hC =>
            walk1
            (repeat' ((fail_if_success (with_reducible show wpAny _ _ (exec (Stmt.While _ _ _ _) _) _ _ _)); (fail_if_success (with_reducible show wpAny _ _ (pyIter _) (fun it s₂ => LoopAtV _ _ _ _ _ _ _ _ _ it s₂) _ _)); (fail_if_success (with_reducible show At _ _ _ _ _ _ _ _ _)); (fail_if_success (with_reducible show WPost _ _ _ _ _)); (fail_if_success (with_reducible show wpAny _ _ (exec (Stmt.Assign _ (Expr.Call (Expr.Name _ _) [Expr.ListComp _ _ _ _] _ _) _) _) _ _ _)); (fail_if_success (with_reducible show wpAny _ _ (eval (Expr.ListComp _ _ _ _) _) _ _ _)); (fail_if_success (with_reducible show AtI _ _ _ _ _ _ _ _ _ _ _)); first | (k_unfold; (try dsimp only)) | ((with_reducible refine wpAny_execs_cons ?_); (try dsimp only)) | (k_here; (with_reducible show wpAny _ _ (compareOp CmpOp.In (Value.str _ _) (Value.ref _)) _ _ _); (fail_if_success (with_reducible rename KTD.TextTab _ _ _ => ttX)); walk_plain_pass; kt_sym; kt_k; ((with_reducible rename KTD.TextTab _ _ _ => ttX); (refine in_EX (by kt_tab) (by decide +kernel) (by first | exact slice_k (k := 1) (by omega) (by omega) | exact slice_k (k := 2) (by omega) (by omega) | exact slice_k (k := 3) (by omega) (by omega)) ?_))) | ((with_reducible show LCg.CompEnd _ _ _ _ _ _ _ _ _ _ _ _ _ _); (refine LCg.CompEnd.intro (by assumption) (by assumption) _ (fun _ hp => hp) (by first | assumption | (simp only [LCg.Off3, and_true]; assumption)) (by first | assumption | k_mem) ?_)) | (with_reducible (k_here; (with_reducible show wpAny _ _ (call (Value.ref 60) [Value.str _ _]) _ _ _); k_dflt (refine' Con.use (parse_use _ _ _ _ ?hz ?hx) ?B ?F ?X ?N ?T ?hk ?dp ?un ?_; (case hz => assumption); (case hx => assumption); (case B => k_asm); (case F => k_asm); (case X => k_asm); (case N => k_asm); (case T => k_asm); (case hk => rfl); (case dp => ktr_room); (case un => ktr_units)); (intro r9 tl9 h9 tk9 F9 N9 o9 q9); (obtain ⟨a9, t9, b9⟩ := q9); (subst a9; subst b9); (try simp only [List.nil_append] at N9); (try dsimp only))) | walk1 | (dsimp only; walk1)))
            refine ListComp_TT F1 (by with_unfolding_all rfl) (by decide) (by rfl) (by decide) (by rfl) ?_
            (repeat' ((fail_if_success (with_reducible show wpAny _ _ (exec (Stmt.While _ _ _ _) _) _ _ _)); (fail_if_success (with_reducible show wpAny _ _ (pyIter _) (fun it s₂ => LoopAtV _ _ _ _ _ _ _ _ _ it s₂) _ _)); (fail_if_success (with_reducible show At _ _ _ _ _ _ _ _ _)); (fail_if_success (with_reducible show WPost _ _ _ _ _)); (fail_if_success (with_reducible show wpAny _ _ (exec (Stmt.Assign _ (Expr.Call (Expr.Name _ _) [Expr.ListComp _ _ _ _] _ _) _) _) _ _ _)); (fail_if_success (with_reducible show wpAny _ _ (eval (Expr.ListComp _ _ _ _) _) _ _ _)); (fail_if_success (with_reducible show AtI _ _ _ _ _ _ _ _ _ _ _)); first | (k_unfold; (try dsimp only)) | ((with_reducible refine wpAny_execs_cons ?_); (try dsimp only)) | (k_here; (with_reducible show wpAny _ _ (compareOp CmpOp.In (Value.str _ _) (Value.ref _)) _ _ _); (fail_if_success (with_reducible rename KTD.TextTab _ _ _ => ttX)); walk_plain_pass; kt_sym; kt_k; ((with_reducible rename KTD.TextTab _ _ _ => ttX); (refine in_EX (by kt_tab) (by decide +kernel) (by first | exact slice_k (k := 1) (by omega) (by omega) | exact slice_k (k := 2) (by omega) (by omega) | exact slice_k (k := 3) (by omega) (by omega)) ?_))) | ((with_reducible show LCg.CompEnd _ _ _ _ _ _ _ _ _ _ _ _ _ _); (refine LCg.CompEnd.intro (by assumption) (by assumption) _ (fun _ hp => hp) (by first | assumption | (simp only [LCg.Off3, and_true]; assumption)) (by first | assumption | k_mem) ?_)) | (with_reducible (k_here; (with_reducible show wpAny _ _ (call (Value.ref 60) [Value.str _ _]) _ _ _); k_dflt (refine' Con.use (parse_use _ _ _ _ ?hz ?hx) ?B ?F ?X ?N ?T ?hk ?dp ?un ?_; (case hz => assumption); (case hx => assumption); (case B => k_asm); (case F => k_asm); (case X => k_asm); (case N => k_asm); (case T => k_asm); (case hk => rfl); (case dp => ktr_room); (case un => ktr_units)); (intro r9 tl9 h9 tk9 F9 N9 o9 q9); (obtain ⟨a9, t9, b9⟩ := q9); (subst a9; subst b9); (try simp only [List.nil_append] at N9); (try dsimp only))) | walk1 | (dsimp only; walk1)))
            refine ⟨_, _, 0, _, rfl, rfl, (by k_asm), (by k_asm), .head _, (by exact Nat.le_of_ble_eq_true rfl), ?_⟩
            rintro s₂ ⟨g9, rfl⟩
            lct_lit
            (repeat' ((fail_if_success (with_reducible show wpAny _ _ (exec (Stmt.While _ _ _ _) _) _ _ _)); (fail_if_success (with_reducible show wpAny _ _ (pyIter _) (fun it s₂ => LoopAtV _ _ _ _ _ _ _ _ _ it s₂) _ _)); (fail_if_success (with_reducible show At _ _ _ _ _ _ _ _ _)); (fail_if_success (with_reducible show WPost _ _ _ _ _)); (fail_if_success (with_reducible show wpAny _ _ (exec (Stmt.Assign _ (Expr.Call (Expr.Name _ _) [Expr.ListComp _ _ _ _] _ _) _) _) _ _ _)); (fail_if_success (with_reducible show wpAny _ _ (eval (Expr.ListComp _ _ _ _) _) _ _ _)); (fail_if_success (with_reducible show AtI _ _ _ _ _ _ _ _ _ _ _)); first | (k_unfold; (try dsimp only)) | ((with_reducible refine wpAny_execs_cons ?_); (try dsimp only)) | (k_here; (with_reducible show wpAny _ _ (compareOp CmpOp.In (Value.str _ _) (Value.ref _)) _ _ _); (fail_if_success (with_reducible rename KTD.TextTab _ _ _ => ttX)); walk_plain_pass; kt_sym; kt_k; ((with_reducible rename KTD.TextTab _ _ _ => ttX); (refine in_EX (by kt_tab) (by decide +kernel) (by first | exact slice_k (k := 1) (by omega) (by omega) | exact slice_k (k := 2) (by omega) (by omega) | exact slice_k (k := 3) (by omega) (by omega)) ?_))) | ((with_reducible show LCg.CompEnd _ _ _ _ _ _ _ _ _ _ _ _ _ _); (refine LCg.CompEnd.intro (by assumption) (by assumption) _ (fun _ hp => hp) (by first | assumption | (simp only [LCg.Off3, and_true]; assumption)) (by first | assumption | k_mem) ?_)) | (with_reducible (k_here; (with_reducible show wpAny _ _ (call (Value.ref 60) [Value.str _ _]) _ _ _); k_dflt (refine' Con.use (parse_use _ _ _ _ ?hz ?hx) ?B ?F ?X ?N ?T ?hk ?dp ?un ?_; (case hz => assumption); (case hx => assumption); (case B => k_asm); (case F => k_asm); (case X => k_asm); (case N => k_asm); (case T => k_asm); (case hk => rfl); (case dp => ktr_room); (case un => ktr_units)); (intro r9 tl9 h9 tk9 F9 N9 o9 q9); (obtain ⟨a9, t9, b9⟩ := q9); (subst a9; subst b9); (try simp only [List.nil_append] at N9); (try dsimp only))) | walk1 | (dsimp only; walk1)))
            all_goals
              rename_i M9 t9 k9 a9 b9 c9 F9 N9
              rename Option.isSome _ = _ => hL3
              rw [look_EX (slice_k (k := 3) (by omega) (by omega)) _ EX (by rfl)] at hL3
              rename Option.isSome _ = _ => hL2
              rw [look_EX (slice_k (k := 2) (by omega) (by omega)) _ EX (by rfl)] at hL2
              have hM : M9 = ((sz (nm.drop spot) : Nat) : Int) := sz_of hL2 hL3 (by refine ⟨?_, ?_, ?_⟩ <;> intros <;> first | contradiction | omega)
              subst hM
              refine At.intro t9 F9 N9 (fun p hp => List.mem_cons_of_mem _ (List.mem_cons_of_mem _ hp)) ?hk3 (by ((intro z hz; (simp only [List.contains_cons, List.contains_nil, Bool.or_false, Bool.or_eq_false_iff, beq_eq_false_iff_ne, ne_eq] at hz); (simp [hz, kstB]; done)))) True.intro
              case hk3 => kst_all
          case doneC =>
            rintro t3 u3 h3 tk3 - F5 N5
            have hcut : Txt.slice (T nm) (some (spot : Int)) (some ((spot : Int) + (sz (nm.drop spot) : Int))) = T ((nm.drop spot).take (sz (nm.drop spot))) := slice_k rfl (by omega)
            have hszp := sz_pos (nm.drop spot)
            have hsz3 : sz (nm.drop spot) ≤ 3 := by unfold sz; split; omega; split <;> omega
            (repeat' ((fail_if_success (with_reducible show wpAny _ _ (exec (Stmt.While _ _ _ _) _) _ _ _)); (fail_if_success (with_reducible show wpAny _ _ (pyIter _) (fun it s₂ => LoopAtV _ _ _ _ _ _ _ _ _ it s₂) _ _)); (fail_if_success (with_reducible show At _ _ _ _ _ _ _ _ _)); (fail_if_success (with_reducible show WPost _ _ _ _ _)); (fail_if_success (with_reducible show wpAny _ _ (exec (Stmt.Assign _ (Expr.Call (Expr.Name _ _) [Expr.ListComp _ _ _ _] _ _) _) _) _ _ _)); (fail_if_success (with_reducible show wpAny _ _ (eval (Expr.ListComp _ _ _ _) _) _ _ _)); (fail_if_success (with_reducible show AtI _ _ _ _ _ _ _ _ _ _ _)); first | (k_unfold; (try dsimp only)) | ((with_reducible refine wpAny_execs_cons ?_); (try dsimp only)) | (k_here; (with_reducible show wpAny _ _ (compareOp CmpOp.In (Value.str _ _) (Value.ref _)) _ _ _); (fail_if_success (with_reducible rename KTD.TextTab _ _ _ => ttX)); walk_plain_pass; kt_sym; kt_k; ((with_reducible rename KTD.TextTab _ _ _ => ttX); (refine in_EX (by kt_tab) (by decide +kernel) (by first | exact slice_k (k := 1) (by omega) (by omega) | exact slice_k (k := 2) (by omega) (by omega) | exact slice_k (k := 3) (by omega) (by omega)) ?_))) | ((with_reducible show LCg.CompEnd _ _ _ _ _ _ _ _ _ _ _ _ _ _); (refine LCg.CompEnd.intro (by assumption) (by assumption) _ (fun _ hp => hp) (by first | assumption | (simp only [LCg.Off3, and_true]; assumption)) (by first | assumption | k_mem) ?_)) | (with_reducible (k_here; (with_reducible show wpAny _ _ (call (Value.ref 60) [Value.str _ _]) _ _ _); k_dflt (refine' Con.use (parse_use _ _ _ _ ?hz ?hx) ?B ?F ?X ?N ?T ?hk ?dp ?un ?_; (case hz => assumption); (case hx => assumption); (case B => k_asm); (case F => k_asm); (case X => k_asm); (case N => k_asm); (case T => k_asm); (case hk => rfl); (case dp => ktr_room); (case un => ktr_units)); (intro r9 tl9 h9 tk9 F9 N9 o9 q9); (obtain ⟨a9, t9, b9⟩ := q9); (subst a9; subst b9); (try simp only [List.nil_append] at N9); (try dsimp only))) | walk1 | (dsimp only; walk1)))
            rename_i oQ F8 N8 dQ
            rw [hcut, led_push] at N8
            dsimp only [WPost]
            refine At.intro ⟨f', spot + sz (nm.drop spot), ?tp2, ps2 ++ [(nm.drop spot).take (sz (nm.drop spot))], _, nn2 + 1, oQ⟩ F8 N8 (fun _ h => h) (fun _ h => nomatch h) (by ((intro z hz; (simp only [List.contains_cons, List.contains_nil, Bool.or_false, Bool.or_eq_false_iff, beq_eq_false_iff_ne, ne_eq] at hz); (simp [hz, kstB]; done)))) ⟨⟨?hP1b, strs_T hvs2 rfl, (by dsimp only; omega), ?hP2b, (by simp; omega)⟩, (by dsimp only; omega)⟩
            case hP1b => rw [dQ]; rfl
            case hP2b => dsimp only; rw [hq2, cut_sign hc hc34, List.append_assoc]; rfl
        · have hz : nm.drop spot = [] := List.drop_of_length_le (by omega)
          refine At.intro ⟨f' + 1, spot, ts, ps2, vs2, nn2, q1⟩ (by k_asm) (by k_asm) (fun _ h => h) (fun _ h => nomatch h) (by ((intro z hz; (simp only [List.contains_cons, List.contains_nil, Bool.or_false, Bool.or_eq_false_iff, beq_eq_false_iff_ne, ne_eq] at hz); (simp [hz, kstB]; done)))) ⟨⟨_, d3⟩, hvs2, ?hP3⟩
          case hP3 => dsimp only; rw [hq2, hz, cut_nil, List.append_nil]
      case doneI =>
        rintro ⟨f3, spot3, ts3, ps3, vs3, nn3, q3⟩ u3 h3 tk3 ⟨⟨v3, hv3⟩, hvs3, hps3⟩ F3 N3
        dsimp only at F3 N3 hv3 hvs3 hps3
        have hb3 : ps3.length ≤ place + nm.length := by
          have := cut_len (nm.length + 1) nm
          rw [hps3, List.length_append]
          omega
        have hlx : place < x.length := by omega
        obtain ⟨f', rfl⟩ : ∃ f', f = f' + 1 := ⟨f - 1, by omega⟩
        have hne : x.drop place ≠ [] := by rw [← List.length_pos_iff, List.length_drop]; omega
        have hstep : pieces (f' + 1) (x.drop place) = cut (nm.length + 1) nm ++ (if x.drop (place + (nm.length + nm.count 34)) = [] then [] else [34] :: pieces f' (x.drop (place + (nm.length + nm.count 34) + 1))) := by
          rw [pieces, if_neg hne, hnm]
          dsimp only
          rw [List.drop_drop, List.drop_drop]
        have hu2 : nm.length + nm.count 34 ≤ x.length - place := by rw [← List.length_drop]; exact hused
        (repeat' ((fail_if_success (with_reducible show wpAny _ _ (exec (Stmt.While _ _ _ _) _) _ _ _)); (fail_if_success (with_reducible show wpAny _ _ (pyIter _) (fun it s₂ => LoopAtV _ _ _ _ _ _ _ _ _ it s₂) _ _)); (fail_if_success (with_reducible show At _ _ _ _ _ _ _ _ _)); (fail_if_success (with_reducible show WPost _ _ _ _ _)); (fail_if_success (with_reducible show wpAny _ _ (exec (Stmt.Assign _ (Expr.Call (Expr.Name _ _) [Expr.ListComp _ _ _ _] _ _) _) _) _ _ _)); (fail_if_success (with_reducible show wpAny _ _ (eval (Expr.ListComp _ _ _ _) _) _ _ _)); (fail_if_success (with_reducible show AtI _ _ _ _ _ _ _ _ _ _ _)); first | (k_unfold; (try dsimp only)) | ((with_reducible refine wpAny_execs_cons ?_); (try dsimp only)) | (k_here; (with_reducible show wpAny _ _ (compareOp CmpOp.In (Value.str _ _) (Value.ref _)) _ _ _); (fail_if_success (with_reducible rename KTD.TextTab _ _ _ => ttX)); walk_plain_pass; kt_sym; kt_k; ((with_reducible rename KTD.TextTab _ _ _ => ttX); (refine in_EX (by kt_tab) (by decide +kernel) (by first | exact slice_k (k := 1) (by omega) (by omega) | exact slice_k (k := 2) (by omega) (by omega) | exact slice_k (k := 3) (by omega) (by omega)) ?_))) | ((with_reducible show LCg.CompEnd _ _ _ _ _ _ _ _ _ _ _ _ _ _); (refine LCg.CompEnd.intro (by assumption) (by assumption) _ (fun _ hp => hp) (by first | assumption | (simp only [LCg.Off3, and_true]; assumption)) (by first | assumption | k_mem) ?_)) | (with_reducible (k_here; (with_reducible show wpAny _ _ (call (Value.ref 60) [Value.str _ _]) _ _ _); k_dflt (refine' Con.use (parse_use _ _ _ _ ?hz ?hx) ?B ?F ?X ?N ?T ?hk ?dp ?un ?_; (case hz => assumption); (case hx => assumption); (case B => k_asm); (case F => k_asm); (case X => k_asm); (case N => k_asm); (case T => k_asm); (case hk => rfl); (case dp => ktr_room); (case un => ktr_units)); (intro r9 tl9 h9 tk9 F9 N9 o9 q9); (obtain ⟨a9, t9, b9⟩ := q9); (subst a9; subst b9); (try simp only [List.nil_append] at N9); (try dsimp only))) | walk1 | (dsimp only; walk1)))
        · rename_i F8 N8
          rw [led_push] at N8
          have hrest : x.drop (place + (nm.length + nm.count 34)) ≠ [] := by rw [← List.length_pos_iff, List.length_drop]; omega
          dsimp only [WPost]
          refine At.intro ⟨f', place + (nm.length + nm.count 34) + 1, ?tq1, ps3 ++ [[34]], _, nn3 + 1, q3, oN⟩ F8 N8 (fun _ h => h) ?hkY (by ((intro z hz; (simp only [List.contains_cons, List.contains_nil, Bool.or_false, Bool.or_eq_false_iff, beq_eq_false_iff_ne, ne_eq] at hz); (simp [hz, kstB]; done)))) ⟨⟨⟨_, hv3⟩, ⟨_, dN⟩, strs_T hvs3 (by decide +kernel), (by dsimp only; omega), (by dsimp only; omega), ?hPY, (by simp; omega)⟩, (by dsimp only; omega)⟩
          case hkY => kst_all
          case hPY => dsimp only; rw [hp3, hstep, if_neg hrest, hps3]; simp
        · have hrest : x.drop (place + (nm.length + nm.count 34)) = [] := List.drop_of_length_le (by omega)
          dsimp only [WPost]
          refine At.intro ⟨f', place + (nm.length + nm.count 34), ?tq2, ps3, vs3, nn3, q3, oN⟩ (by k_asm) (by k_asm) (fun _ h => h) ?hkZ (by ((intro z hz; (simp only [List.contains_cons, List.contains_nil, Bool.or_false, Bool.or_eq_false_iff, beq_eq_false_iff_ne, ne_eq] at hz); (simp [hz, kstB]; done)))) ⟨⟨⟨_, hv3⟩, ⟨_, dN⟩, hvs3, (by dsimp only; omega), (by dsimp only; omega), ?hPZ, (by dsimp only; omega)⟩, (by dsimp only; omega)⟩
          case hkZ => kst_all
          case hPZ => dsimp only; rw [hp3, hstep, if_pos hrest, hps3, hrest]; cases f' <;> simp [pieces]
    · have hz : x.drop place = [] := List.drop_of_length_le (by omega)
      refine At.intro ⟨f, place, tp, ps, vs, nn, p1, p2⟩ (by k_asm) (by k_asm) (fun _ h => h) ?hkX (by ((intro z hz; (simp only [List.contains_cons, List.contains_nil, Bool.or_false, Bool.or_eq_false_iff, beq_eq_false_iff_ne, ne_eq] at hz); (simp [hz, kstB]; done)))) ⟨hvs, ?hPX⟩
      case hkX => kst_all
      case hPX => dsimp only; rw [hp3, hz]; cases f <;> simp [pieces]
  case done =>
    clear F1 N1
    rintro ⟨f3, place3, ts3, ps3, vs3, nn3, q3, q4⟩ u3 h3 tk3 ⟨hvs3, hps3⟩ F3 N3
    dsimp only at F3 N3 hvs3 hps3
    (repeat' ((fail_if_success (with_reducible show wpAny _ _ (exec (Stmt.While _ _ _ _) _) _ _ _)); (fail_if_success (with_reducible show wpAny _ _ (pyIter _) (fun it s₂ => LoopAtV _ _ _ _ _ _ _ _ _ it s₂) _ _)); (fail_if_success (with_reducible show At _ _ _ _ _ _ _ _ _)); (fail_if_success (with_reducible show WPost _ _ _ _ _)); (fail_if_success (with_reducible show wpAny _ _ (exec (Stmt.Assign _ (Expr.Call (Expr.Name _ _) [Expr.ListComp _ _ _ _] _ _) _) _) _ _ _)); (fail_if_success (with_reducible show wpAny _ _ (eval (Expr.ListComp _ _ _ _) _) _ _ _)); (fail_if_success (with_reducible show AtI _ _ _ _ _ _ _ _ _ _ _)); first | (k_unfold; (try dsimp only)) | ((with_reducible refine wpAny_execs_cons ?_); (try dsimp only)) | (k_here; (with_reducible show wpAny _ _ (compareOp CmpOp.In (Value.str _ _) (Value.ref _)) _ _ _); (fail_if_success (with_reducible rename KTD.TextTab _ _ _ => ttX)); walk_plain_pass; kt_sym; kt_k; ((with_reducible rename KTD.TextTab _ _ _ => ttX); (refine in_EX (by kt_tab) (by decide +kernel) (by first | exact slice_k (k := 1) (by omega) (by omega) | exact slice_k (k := 2) (by omega) (by omega) | exact slice_k (k := 3) (by omega) (by omega)) ?_))) | ((with_reducible show LCg.CompEnd _ _ _ _ _ _ _ _ _ _ _ _ _ _); (refine LCg.CompEnd.intro (by assumption) (by assumption) _ (fun _ hp => hp) (by first | assumption | (simp only [LCg.Off3, and_true]; assumption)) (by first | assumption | k_mem) ?_)) | (with_reducible (k_here; (with_reducible show wpAny _ _ (call (Value.ref 60) [Value.str _ _]) _ _ _); k_dflt (refine' Con.use (parse_use _ _ _ _ ?hz ?hx) ?B ?F ?X ?N ?T ?hk ?dp ?un ?_; (case hz => assumption); (case hx => assumption); (case B => k_asm); (case F => k_asm); (case X => k_asm); (case N => k_asm); (case T => k_asm); (case hk => rfl); (case dp => ktr_room); (case un => ktr_units)); (intro r9 tl9 h9 tk9 F9 N9 o9 q9); (obtain ⟨a9, t9, b9⟩ := q9); (subst a9; subst b9); (try simp only [List.nil_append] at N9); (try dsimp only))) | walk1 | (dsimp only; walk1)))
    refine hret _ [(D, listOf vs3.toArray nn3)] _ _ (by assumption) ?hN9 ?hO9 ⟨D, vs3, nn3, rfl, rfl, ?hS9⟩
    case hN9 =>
      rename News h₀ L _ _ => kN
      exact fun p hp => kN p ((List.mem_cons.mp hp).elim (fun e => e ▸ .head _) fun e => .tail _ (.tail _ (.tail _ e)))
    case hO9 =>
      intro p hp q hq
      rw [List.mem_singleton.mp hq]
      exact ktn_ltOf hAll.2.2 p hp
    case hS9 => rw [hps3]; exact hvs3
end Mine
end
noncomputable section
open PySem PySem.W PySem.Calls PyProof.Rows PyProof
set_option Elab.async false
set_option maxRecDepth 100000
namespace Mine
theorem offWorth0 : True := by
  w_top off
  trivial
noncomputable abbrev Tab := List (List Nat × Int)
noncomputable def kd (c : Tab) : List (Str × Int) := c.map fun p => (T p.1, p.2)
noncomputable def wput (c : Tab) (k : List Nat) (v : Int) : Tab := if c.any (fun p => decide (p.1 = k)) then c.map (fun p => if p.1 = k then (p.1, v) else p) else c ++ [(k, v)]
noncomputable def wget (c : Tab) (k : List Nat) : Int := ((c.find? fun p => decide (p.1 = k)).map (·.2)).getD 0
noncomputable def wstep (p : List Nat) (c : Tab) (x : List Nat) (v : Int) : Tab :=
  let c1 := wput c (x ++ p) (wget c (x ++ p) + v)
  wput c1 (x ++ p.drop 1) (wget c1 (x ++ p.drop 1) - v)
noncomputable def wgrow (p : List Nat) (tb : Tab) : Tab := tb.foldl (fun c e => wstep p c e.1 (wget tb e.1)) []
noncomputable def worthM (ps : List (List Nat)) : Tab := ps.foldl (fun tb p => wgrow p tb) [([], 1)]
theorem kd_len (c : Tab) : (kd c).length = c.length := by simp [kd]
theorem dec_T (a b : List Nat) : decide (T a = T b) = decide (a = b) := by
  by_cases h : a = b
  · simp [h]
  · have : T a ≠ T b := fun q => h (T_inj q)
    simp [h, this]
theorem kd_any (c : Tab) (k : List Nat) : (kd c).any (fun p => decide (p.1 = T k)) = c.any fun p => decide (p.1 = k) := by
  unfold kd
  rw [List.any_map]
  exact congrArg (fun f => c.any f) (funext fun p => dec_T p.1 k)
theorem kd_put (c : Tab) (k : List Nat) (v : Int) : kdpPut (kd c) (T k) v = kd (wput c k v) := by
  unfold kdpPut wput
  rw [kd_any]
  by_cases h : (c.any fun p => decide (p.1 = k)) = true
  · rw [if_pos h, if_pos h]
    unfold kd
    rw [List.map_map, List.map_map]
    refine List.map_congr_left fun p _ => ?_
    show (if decide (T p.1 = T k) = true then (T p.1, v) else (T p.1, p.2)) = (fun p : List Nat × Int => (T p.1, p.2)) (if p.1 = k then (p.1, v) else p)
    rw [dec_T]
    by_cases hp : p.1 = k
    · simp [hp]
    · simp [hp]
  · rw [if_neg h, if_neg h]
    unfold kd
    rw [List.map_append]
    rfl
theorem kd_look (k : List Nat) : ∀ c : Tab, kdpLook (kd c) (T k) 0 = wget c k
  | [] => rfl
  | (i, v) :: c => by
    have ih := kd_look k c
    unfold kdpLook wget at ih ⊢
    show (((List.find? (fun p : Str × Int => decide (p.1 = T k)) ((T i, v) :: kd c)).map (·.2)).getD 0) = _
    by_cases h : i = k
    · subst h
      simp
    · have h2 : T i ≠ T k := fun q => h (T_inj q)
      rw [List.find?_cons_of_neg (by simpa using h2), List.find?_cons_of_neg (by simpa using h)]
      exact ih
theorem kd_has (k : List Nat) (c : Tab) : kdpHas (kd c) (T k) = c.any fun p => decide (p.1 = k) := kd_any c k
theorem wput_len (c : Tab) (k : List Nat) (v : Int) : (wput c k v).length ≤ c.length + 1 := by
  unfold wput
  split
  · rw [List.length_map]; omega
  · simp
theorem wstep_len (p : List Nat) (c : Tab) (x : List Nat) (v : Int) : (wstep p c x v).length ≤ c.length + 2 := by
  unfold wstep
  have h1 := wput_len c (x ++ p) (wget c (x ++ p) + v)
  have h2 := wput_len (wput c (x ++ p) (wget c (x ++ p) + v)) (x ++ p.drop 1) (wget (wput c (x ++ p) (wget c (x ++ p) + v)) (x ++ p.drop 1) - v)
  exact Nat.le_trans h2 (by omega)
theorem wput_keys {c : Tab} {k : List Nat} {v : Int} : ∀ q ∈ wput c k v, (∃ v', (q.1, v') ∈ c) ∨ q.1 = k := by
  unfold wput
  split
  · intro q hq
    obtain ⟨p, hp, e⟩ := List.mem_map.mp hq
    refine .inl ⟨p.2, ?_⟩
    have : q.1 = p.1 := by rw [← e]; split <;> rfl
    rw [this]; exact hp
  · intro q hq
    rcases List.mem_append.mp hq with h | h
    · exact .inl ⟨q.2, h⟩
    · rw [List.mem_singleton.mp h]; exact .inr rfl
theorem wstep_keys {p : List Nat} {c : Tab} {x : List Nat} {v : Int} {n : Nat} (hc : ∀ q ∈ c, q.1.length ≤ n) (hx : x.length + p.length ≤ n) : ∀ q ∈ wstep p c x v, q.1.length ≤ n := by
  intro q hq
  unfold wstep at hq
  rcases wput_keys q hq with ⟨v1, h1⟩ | h1
  · rcases wput_keys _ h1 with ⟨v2, h2⟩ | h2
    · exact hc (q.1, v2) h2
    · dsimp only at h2; rw [h2, List.length_append]; exact hx
  · rw [h1, List.length_append, List.length_drop]; omega
/-- the first j entries have been grown -/
noncomputable def wpart (p : List Nat) (tb : Tab) (j : Nat) : Tab := (tb.take j).foldl (fun c e => wstep p c e.1 (wget tb e.1)) []
theorem wpart_zero (p : List Nat) (tb : Tab) : wpart p tb 0 = [] := rfl
theorem wpart_succ {p : List Nat} {tb : Tab} {j : Nat} {e : List Nat × Int} (h : tb[j]? = some e) : wpart p tb (j + 1) = wstep p (wpart p tb j) e.1 (wget tb e.1) := by
  unfold wpart
  rw [List.take_add_one, h, List.foldl_append]; rfl
theorem wpart_full (p : List Nat) (tb : Tab) : wpart p tb tb.length = wgrow p tb := by
  unfold wpart wgrow; rw [List.take_length]
theorem worth_zero (ps : List (List Nat)) : worthM (ps.take 0) = [([], 1)] := rfl
theorem worth_succ {ps : List (List Nat)} {i : Nat} {p : List Nat} (h : ps[i]? = some p) : worthM (ps.take (i + 1)) = wgrow p (worthM (ps.take i)) := by
  unfold worthM
  rw [List.take_add_one, h, List.foldl_append]; rfl
/-- contract with a demand on the ledger -/
noncomputable def ConN (w : World) (k : Nat) (f : Addr) (vs : List Value) (Pre : List (Addr × Obj) → Prop) (R : Value → List (Addr × Obj) → Prop) : Prop :=
  ∀ (loose : List Str) (mean : ExcName → Option Value) (mg mb : Str → Option Value) (dp un : Nat) (gd : Option (List Code)) (cn : Str) (cs : Scope) (a : Addr) (ccd : Value) (cl : List (Str × Addr)) (outer : List Env) (A₀ : Around) (base h₀ : Heap) (L : Addr) (m : Str → Option Value) (news : List (Addr × Obj)) (s : Shared) (Q E : Value → Shared → Prop),
    Below A₀ base outer h₀ → Fr h₀ L s.heap m → (hd.heap_39 w.params).In h₀ → News h₀ L s.heap news → Top hd.view_39 loose mean mg mb h₀ → cs.kind = .function → dp + k < recursionLimit → un + 100 * k < cLine → Pre news →
    (∀ r tl h' tk', Fr h₀ L h' m → News h₀ L h' (tl ++ news) → (∀ p ∈ news, ∀ q ∈ tl, p.1 < q.1) → R r tl → Q r { s with heap := h', toks := tk' }) →
    wpAny (model PySem.Challenge.rw_wn0102_01.row.toRowW.prog w) (ktrTop dp un gd cn cs L a ccd cl outer) (call (.ref f) vs) Q E s
theorem ConN.use {w : World} {k : Nat} {f : Addr} {vs : List Value} {Pre : List (Addr × Obj) → Prop} {R : Value → List (Addr × Obj) → Prop} (C : ConN w k f vs Pre R) {loose : List Str} {mean : ExcName → Option Value} {mg mb : Str → Option Value} {dp un : Nat} {gd : Option (List Code)} {cn : Str} {cs : Scope} {a : Addr} {ccd : Value} {cl : List (Str × Addr)} {outer : List Env} {A₀ : Around} {base h₀ : Heap} {L : Addr} {m : Str → Option Value} {news : List (Addr × Obj)} {s : Shared} {Q E : Value → Shared → Prop}
    (B : Below A₀ base outer h₀) (F : Fr h₀ L s.heap m) (X : (hd.heap_39 w.params).In h₀) (N : News h₀ L s.heap news) (T : Top hd.view_39 loose mean mg mb h₀) (hk : cs.kind = .function) (hdp : dp + k < recursionLimit) (hun : un + 100 * k < cLine) (pre : Pre news)
    (ret : ∀ r tl h' tk', Fr h₀ L h' m → News h₀ L h' (tl ++ news) → (∀ p ∈ news, ∀ q ∈ tl, p.1 < q.1) → R r tl → Q r { s with heap := h', toks := tk' }) :
    wpAny (model PySem.Challenge.rw_wn0102_01.row.toRowW.prog w) (ktrTop dp un gd cn cs L a ccd cl outer) (call (.ref f) vs) Q E s :=
  C _ _ _ _ _ _ _ _ _ _ _ _ _ _ _ _ _ _ _ _ _ _ B F X N T hk hdp hun pre ret
end Mine
end
noncomputable section
open PySem PySem.W PySem.Calls PyProof.Rows PyProof
set_option Elab.async false
set_option maxRecDepth 100000
set_option maxHeartbeats 8000000
namespace Mine
theorem offWorth : True := by
  w_top off
  trivial
local macro_rules | `(tactic| k_all) => `(tactic| assumption)
theorem strs_at {ps : List (List Nat)} : ∀ {vs : List Value} {i : Nat} {v : Value}, StrsAre vs (ps.map T) → vs[i]? = some v → ∃ p t, ps[i]? = some p ∧ v = .str (T p) t := by
  induction ps with
  | nil => intro vs i v h hv; cases h; simp at hv
  | cons q ps ih =>
    intro vs i v h hv
    rw [List.map_cons] at h
    cases h with
    | cons _ _ h =>
      cases i with
      | zero => simp at hv; exact ⟨q, _, rfl, hv.symm⟩
      | succ i => simp at hv; exact ih h hv
theorem flat_at {k : Str} {y : Value} : ∀ {tb : Tab} {kvs : List (Str × Value)} {i : Nat}, V.FlatPairs PyData.str kvs (kdpD (kd tb)) → kvs[i]? = some (k, y) → ∃ e, tb[i]? = some e ∧ k = T e.1 := by
  intro tb
  induction tb with
  | nil => intro kvs i h hv; cases h; simp at hv
  | cons q tb ih =>
    intro kvs i h hv
    change V.FlatPairs PyData.str kvs ((PyData.str (T q.1), PyData.int q.2) :: kdpD (kd tb)) at h
    generalize hX : (PyData.str (T q.1), PyData.int q.2) = X at h
    cases h with
    | cons hf h =>
      cases hX
      cases i with
      | zero => simp at hv; exact ⟨q, rfl, hv.1.symm⟩
      | succ i => simp at hv; exact ih h hv
theorem has_at {tb : Tab} {i : Nat} {e : List Nat × Int} (h : tb[i]? = some e) : kdpHas (kd tb) (T e.1) = true := by
  rw [kd_has, List.any_eq_true]
  exact ⟨e, List.mem_of_getElem? h, by simp⟩
theorem wpart_len (p : List Nat) (tb : Tab) : ∀ j, (wpart p tb j).length ≤ 2 * j
  | 0 => by simp [wpart]
  | j + 1 => by
    cases h : tb[j]? with
    | none =>
      have : tb.length ≤ j := by simpa using h
      have e : wpart p tb (j + 1) = wpart p tb j := by unfold wpart; rw [List.take_of_length_le (by omega), List.take_of_length_le this]
      rw [e]
      have := wpart_len p tb j
      omega
    | some e =>
      rw [wpart_succ h]
      have h1 := wpart_len p tb j
      have h2 := wstep_len p (wpart p tb j) e.1 (wget tb e.1)
      omega
theorem worth_len : ∀ (ps : List (List Nat)) (i : Nat), (worthM (ps.take i)).length ≤ 2 ^ i
  | ps, 0 => by simp [worthM]
  | ps, i + 1 => by
    cases h : ps[i]? with
    | none =>
      have : ps.length ≤ i := by simpa using h
      have e : ps.take (i + 1) = ps.take i := by rw [List.take_of_length_le (by omega), List.take_of_length_le this]
      rw [e]
      have := worth_len ps i
      rw [Nat.pow_succ]; omega
    | some p =>
      rw [worth_succ h, ← wpart_full]
      have h1 := wpart_len p (worthM (ps.take i)) (worthM (ps.take i)).length
      have h2 := worth_len ps i
      rw [Nat.pow_succ]; omega
theorem worth_len16 {ps : List (List Nat)} {i : Nat} (h : i ≤ 4) : (worthM (ps.take i)).length ≤ 16 := by
  have := worth_len ps i
  have : i = 0 ∨ i = 1 ∨ i = 2 ∨ i = 3 ∨ i = 4 := by omega
  rcases this with rfl | rfl | rfl | rfl | rfl <;> omega
theorem wpart_keys {p : List Nat} {tb : Tab} {n : Nat} (ht : ∀ q ∈ tb, q.1.length ≤ n) : ∀ j, ∀ q ∈ wpart p tb j, q.1.length ≤ n + p.length
  | 0 => by simp [wpart]
  | j + 1 => by
    cases h : tb[j]? with
    | none =>
      have : tb.length ≤ j := by simpa using h
      have e : wpart p tb (j + 1) = wpart p tb j := by unfold wpart; rw [List.take_of_length_le (by omega), List.take_of_length_le this]
      rw [e]
      exact wpart_keys ht j
    | some e =>
      rw [wpart_succ h]
      exact wstep_keys (wpart_keys ht j) (Nat.add_le_add_right (ht e (List.mem_of_getElem? h)) _)
theorem worth_keys {ps : List (List Nat)} (h3 : ∀ p ∈ ps, 1 ≤ p.length ∧ p.length ≤ 3) : ∀ i, ∀ q ∈ worthM (ps.take i), q.1.length ≤ 3 * i
  | 0 => by simp [worthM]
  | i + 1 => by
    cases h : ps[i]? with
    | none =>
      have : ps.length ≤ i := by simpa using h
      have e : ps.take (i + 1) = ps.take i := by rw [List.take_of_length_le (by omega), List.take_of_length_le this]
      rw [e]
      intro q hq
      exact Nat.le_trans (worth_keys h3 i q hq) (by omega)
    | some p =>
      rw [worth_succ h, ← wpart_full]
      intro q hq
      have := wpart_keys (worth_keys h3 i) _ q hq
      have := (h3 p (List.mem_of_getElem? h)).2
      omega
theorem worth_start {kvs : List (Str × Value)} {D : List (PyData × PyData)} (ps : List (List Nat)) (h : V.FlatPairs PyData.str kvs D) (hD : D = [(PyData.str (Str.ofString ""), PyData.int 1)]) : V.FlatPairs PyData.str kvs (kdpD (kd (worthM (ps.take 0)))) := by
  subst hD
  have hT0 : T [] = Str.ofString "" := by decide +kernel
  show V.FlatPairs PyData.str _ [(PyData.str (T []), PyData.int 1)]
  rw [hT0]
  exact h
theorem flat_len : ∀ {tb : Tab} {kvs : List (Str × Value)}, V.FlatPairs PyData.str kvs (kdpD (kd tb)) → kvs.length = tb.length := by
  intro tb
  induction tb with
  | nil => intro kvs h; cases h; rfl
  | cons q tb ih =>
    intro kvs h
    change V.FlatPairs PyData.str kvs ((PyData.str (T q.1), PyData.int q.2) :: kdpD (kd tb)) at h
    generalize hX : (PyData.str (T q.1), PyData.int q.2) = X at h
    cases h with
    | cons hf h => simp [ih h]
theorem wl_in {a b t : Addr × Obj} {l : List (Addr × Obj)} : ∀ p ∈ a :: l, p ∈ a :: (b :: l ++ [t]) := fun p hp => (List.mem_cons.mp hp).elim (fun h => h ▸ .head _) fun h => .tail _ (List.mem_append_left _ (.tail _ h))
theorem wl_it {a b t : Addr × Obj} {l : List (Addr × Obj)} : t ∈ a :: (b :: l ++ [t]) := .tail _ (List.mem_append_right _ (.head _))
theorem wl_off {a d I : Addr} {o o1 o2 oI : Obj} {l : List (Addr × Obj)} (h : ∀ p ∈ (a, o1) :: l, p.1 ≠ I) (h2 : ∀ p ∈ (a, o) :: l ++ [(I, oI)], p.1 < d) : ∀ p ∈ (d, o2) :: l, p.1 ≠ I := fun p hp => (List.mem_cons.mp hp).elim (fun e => by
  rw [e]
  exact Nat.ne_of_gt (h2 (I, oI) (List.mem_append_right _ (.head _)))) fun hp => h p (.tail _ hp)
theorem wstep_is {p : List Nat} {c : Tab} {x : List Nat} {v : Int} (hp : 1 ≤ p.length) : kdpPut (kdpPut (kd c) (T x ++ T p) (kdpLook (kd c) (T x ++ T p) 0 + v)) (T x ++ Txt.slice (T p) (some 1) none)
    (kdpLook (kdpPut (kd c) (T x ++ T p) (kdpLook (kd c) (T x ++ T p) 0 + v)) (T x ++ Txt.slice (T p) (some 1) none) 0 - v) = kd (wstep p c x v) := by
  rw [show (some 1 : Option Int) = some ((1 : Nat) : Int) from rfl, slice_from hp, T_app, T_app, kd_look, kd_put, kd_look, kd_put]
  rfl
theorem wl_R {d J I : Addr} {o oJ oI : Obj} {a : Addr × Obj} {l : List (Addr × Obj)} (h2 : ∀ p ∈ a :: l ++ [(I, oI)], p.1 < d) (hJ : ∀ p ∈ (d, o) :: (a :: l ++ [(I, oI)]), p.1 ≠ J) : ∀ p ∈ a :: (l ++ [(I, oI)] ++ [(J, oJ)]), p.1 ≠ d := by
  intro p hp
  have : p ∈ (a :: l ++ [(I, oI)]) ++ [(J, oJ)] := hp
  rcases List.mem_append.mp this with h | h
  · exact Nat.ne_of_lt (h2 p h)
  · rw [List.mem_singleton.mp h]; exact fun e => hJ _ (.head _) e.symm
theorem wl_in2 {b a i j : Addr × Obj} {l : List (Addr × Obj)} : ∀ p ∈ b :: (a :: l ++ [i]), p ∈ b :: a :: (l ++ [i] ++ [j]) := fun p hp => by
  simp only [List.mem_cons, List.mem_append, List.cons_append, List.not_mem_nil, or_false] at hp ⊢
  rcases hp with h | h | h | h <;> simp [h]
theorem wl_it2 {b a i j : Addr × Obj} {l : List (Addr × Obj)} : j ∈ b :: a :: (l ++ [i] ++ [j]) := .tail _ (.tail _ (List.mem_append_right _ (.head _)))
theorem wl_off2 {d J : Addr} {o o' : Obj} {l : List (Addr × Obj)} (h : ∀ p ∈ (d, o) :: l, p.1 ≠ J) : ∀ p ∈ (d, o') :: l, p.1 ≠ J := fun p hp => (List.mem_cons.mp hp).elim (fun e => by rw [e]; exact h (d, o) (.head _)) fun hp => h p (.tail _ hp)
structure WS where
  d : Addr
  o : Obj
  kvs : List (Str × Value)
structure GS where
  o : Obj
  kvs : List (Str × Value)
noncomputable abbrev wprog : Program := PySem.Challenge.rw_wn0102_01.row.toRowW.prog
noncomputable def WIs (w : World) (o : Obj) (kvs : List (Str × Value)) (tb : Tab) : Prop := o.IsDictOf (PySem.strKind wprog w) kvs ∧ V.FlatPairs PyData.str kvs (kdpD (kd tb))
theorem worth_con (w : World) (D : Addr) (vs : List Value) (nn : Nat) (ps : List (List Nat)) (hvs : StrsAre vs (ps.map T)) (hps : ps.length ≤ 4) (hp3 : ∀ p ∈ ps, 1 ≤ p.length ∧ p.length ≤ 3) :
    ConN w 4 103 [.ref D] (fun news => (D, listOf vs.toArray nn) ∈ news) (fun r tl => ∃ d o kvs, r = .ref d ∧ tl = [(d, o)] ∧ WIs w o kvs (worthM ps)) := by
  unfold ConN
  k_fill
  intro loose mean mg mb dp un gd cn cs a ccd cl otr A₀ base h₀ L m news s Q E B F X N TT hk hdp hun hpre hret
  refine wpAny_call ?_
  k_dflt (refine' code_def ?k1 ?k2 ?k3 ?k4 ?k5 ?kA ?kF ?kK ?k6 ?k7 ?k8 ?k9 ?kB ?_ ?c2 ?c3 ?c4 ?c5; (case kA => exact rfl); (case kF => exact rfl); (case kK => assumption); (case k1 => k_asm); (case k2 => k_asm); (case k3 => k_asm); (case k4 => k_asm); (case k5 => k_asm); (case k6 => k_is); (case k7 => k_is); (case k8 => ktr_room); (case k9 => exact BindsTo.of_eq rfl); (case c5 => decide); (case kB => exact locs rfl); (case c2 => exact rfl); (case c3 => exact rfl); (case c4 => exact rfl); k_whole)
  intro g' L' h' FG' F' N' B' X' T'
  (try dsimp only)
  (try k_lift B')
  (try k_fold)
  (repeat' ((fail_if_success (with_reducible show wpAny _ _ (exec (Stmt.For _ _ _ _ _) _) _ _ _)); (fail_if_success (with_reducible show wpAny _ _ (exec (Stmt.While _ _ _ _) _) _ _ _)); (fail_if_success (with_reducible show wpAny _ _ (pyIter _) (fun it s₂ => LoopAtV _ _ _ _ _ _ _ _ _ it s₂) _ _)); (fail_if_success (with_reducible show At _ _ _ _ _ _ _ _ _)); (fail_if_success (with_reducible show WPost _ _ _ _ _)); (fail_if_success (with_reducible show AtI _ _ _ _ _ _ _ _ _ _ _)); first | (k_unfold; (try dsimp only)) | ((with_reducible refine wpAny_execs_cons ?_); (try dsimp only)) | walk1 | (dsimp only; walk1)))
  clear N
  rename News _ _ _ _ => N1
  rename Fr _ _ _ _ => F1
  rename Obj.IsDictOf _ _ _ => hd0
  rename V.FlatPairs _ _ _ => hf0
  rename (_ == sysModules) = false => hy0
  rename ∀ p ∈ news, p.1 < _ => hl0
  rename ∀ p ∈ news, p.1 ≠ _ => hn0
  have hlen0 := hvs.length
  refine For_invV g' (by rfl) (by rfl) ?_
  (repeat' ((fail_if_success (with_reducible show wpAny _ _ (exec (Stmt.For _ _ _ _ _) _) _ _ _)); (fail_if_success (with_reducible show wpAny _ _ (exec (Stmt.While _ _ _ _) _) _ _ _)); (fail_if_success (with_reducible show wpAny _ _ (pyIter _) (fun it s₂ => LoopAtV _ _ _ _ _ _ _ _ _ it s₂) _ _)); (fail_if_success (with_reducible show At _ _ _ _ _ _ _ _ _)); (fail_if_success (with_reducible show WPost _ _ _ _ _)); (fail_if_success (with_reducible show AtI _ _ _ _ _ _ _ _ _ _ _)); first | (k_unfold; (try dsimp only)) | ((with_reducible refine wpAny_execs_cons ?_); (try dsimp only)) | walk1 | (dsimp only; walk1)))
  rename News _ _ _ _ => N1
  rename Fr g' _ _ _ => F1
  obtain ⟨kv0, hd1, hf1⟩ : ∃ kv, Obj.IsDictOf (PySem.strKind wprog w) _ kv ∧ V.FlatPairs PyData.str kv (kdpD (kd (worthM (ps.take 0)))) := ⟨_, hd0, worth_start ps hf0 (by rfl)⟩
  clear hd0 hf0
  refine' list_at (σ := WS) (vs := vs) (nn := nn) (fun c => (c.d, c.o) :: news) (fun c => [(Str.ofString "table", .ref c.d)]) [Str.ofString "piece", Str.ofString "grown", Str.ofString "text", Str.ofString "table"] rfl
    (fun i c => WIs w c.o c.kvs (worthM (ps.take i)) ∧ (c.d == sysModules) = false ∧ ∀ p ∈ news, p.1 < c.d) (fun c => WIs w c.o c.kvs (worthM ps) ∧ ∀ p ∈ news, p.1 < c.d) ⟨_, _, kv0⟩ rfl (fun _ => .tail _ hpre) F1 N1 ?hk1 ?hp1 ?hD1 ?turn1 ?done1
  case hk1 => kst_all
  case hp1 => exact ⟨⟨hd1, hf1⟩, hy0, hl0⟩
  case hD1 =>
    rintro c ⟨h1, _, h3⟩
    rw [hlen0, List.length_map, List.take_length] at h1
    exact ⟨h1, h3⟩
  case done1 =>
    rintro ⟨d2, o2, kvs2⟩ u2 h2 tk2 ⟨h3, h4⟩ F2 N2
    dsimp only at h3 h4 F2 N2
    (repeat' ((fail_if_success (with_reducible show wpAny _ _ (exec (Stmt.For _ _ _ _ _) _) _ _ _)); (fail_if_success (with_reducible show wpAny _ _ (exec (Stmt.While _ _ _ _) _) _ _ _)); (fail_if_success (with_reducible show wpAny _ _ (pyIter _) (fun it s₂ => LoopAtV _ _ _ _ _ _ _ _ _ it s₂) _ _)); (fail_if_success (with_reducible show At _ _ _ _ _ _ _ _ _)); (fail_if_success (with_reducible show WPost _ _ _ _ _)); (fail_if_success (with_reducible show AtI _ _ _ _ _ _ _ _ _ _ _)); first | (k_unfold; (try dsimp only)) | ((with_reducible refine wpAny_execs_cons ?_); (try dsimp only)) | walk1 | (dsimp only; walk1)))
    refine hret _ [(d2, o2)] _ _ (by assumption) (by assumption) (fun p hp q hq => by rw [List.mem_singleton.mp hq]; exact h4 p hp) ⟨d2, o2, kvs2, rfl, rfl, h3⟩
  case turn1 =>
    clear F1 N1
    rintro i ⟨d1, o1, kvs1⟩ v u1 h1 tk1 I oI hi hv ⟨⟨hd1, hf1⟩, hy1, hl1⟩ hI1 hI2 F1 N1
    dsimp only at hd1 hf1 hy1 hl1 F1 N1 hI2
    obtain ⟨p, tp, hp, rfl⟩ := strs_at hvs hv
    (repeat' ((fail_if_success (with_reducible show wpAny _ _ (exec (Stmt.For _ _ _ _ _) _) _ _ _)); (fail_if_success (with_reducible show wpAny _ _ (exec (Stmt.While _ _ _ _) _) _ _ _)); (fail_if_success (with_reducible show wpAny _ _ (pyIter _) (fun it s₂ => LoopAtV _ _ _ _ _ _ _ _ _ it s₂) _ _)); (fail_if_success (with_reducible show At _ _ _ _ _ _ _ _ _)); (fail_if_success (with_reducible show WPost _ _ _ _ _)); (fail_if_success (with_reducible show AtI _ _ _ _ _ _ _ _ _ _ _)); first | (k_unfold; (try dsimp only)) | ((with_reducible refine wpAny_execs_cons ?_); (try dsimp only)) | walk1 | (dsimp only; walk1)))
    rename Obj.IsDictOf (intKind _ _) _ _ => hi3
    rename V.FlatPairs PyData.int _ _ => fi3
    clear hi3 fi3
    rename Obj.IsDictOf (PySem.strKind _ _) _ [] => hd2
    rename V.FlatPairs PyData.str [] [] => hf2
    rename (_ == sysModules) = false => hy2
    rename Fr g' _ _ _ => F2
    rename News g' _ _ _ => N2
    rename ∀ p ∈ (d1, o1) :: news ++ [(I, oI)], p.1 < _ => hl2
    have hpl := hp3 p (List.mem_of_getElem? hp)
    have hpt := T_len p
    have hil : i < 4 := by rw [hlen0, List.length_map] at hi; omega
    have htb := worth_len16 (ps := ps) (i := i) (by omega)
    have hkeys := worth_keys hp3 i
    generalize htbe : worthM (ps.take i) = tb at *
    refine For_invV g' (by rfl) (by rfl) ?_
    (repeat' ((fail_if_success (with_reducible show wpAny _ _ (exec (Stmt.For _ _ _ _ _) _) _ _ _)); (fail_if_success (with_reducible show wpAny _ _ (exec (Stmt.While _ _ _ _) _) _ _ _)); (fail_if_success (with_reducible show wpAny _ _ (pyIter _) (fun it s₂ => LoopAtV _ _ _ _ _ _ _ _ _ it s₂) _ _)); (fail_if_success (with_reducible show At _ _ _ _ _ _ _ _ _)); (fail_if_success (with_reducible show WPost _ _ _ _ _)); (fail_if_success (with_reducible show AtI _ _ _ _ _ _ _ _ _ _ _)); first | (k_unfold; (try dsimp only)) | ((with_reducible refine wpAny_execs_cons ?_); (try dsimp only)) | walk1 | (dsimp only; walk1)))
    refine' dict_at (σ := GS) (knd := PySem.strKind wprog w) (d := d1) (o := o1) (kvs := kvs1) (fun c => (_, c.o) :: ((d1, o1) :: news ++ [(I, oI)])) (fun _ => []) [Str.ofString "text"] rfl
      (fun j c => WIs w c.o c.kvs (wpart p tb j)) (fun c => WIs w c.o c.kvs (wgrow p tb)) ⟨_, []⟩ rfl hy1 (fun _ => .tail _ (.head _)) hd1 F2 N2 ?hk2 ?hp2 ?hD2 ?turn2 ?done2
    case hk2 => intro _ h; cases h
    case hp2 => exact ⟨hd2, hf2⟩
    case hD2 =>
      intro c h
      rw [flat_len hf1, wpart_full] at h
      exact h
    case done2 =>
      clear F2 N2
      rintro ⟨o3, kvs3⟩ u3 h3 tk3 hw3 F3 N3
      dsimp only at hw3 F3 N3
      (repeat' ((fail_if_success (with_reducible show wpAny _ _ (exec (Stmt.For _ _ _ _ _) _) _ _ _)); (fail_if_success (with_reducible show wpAny _ _ (exec (Stmt.While _ _ _ _) _) _ _ _)); (fail_if_success (with_reducible show wpAny _ _ (pyIter _) (fun it s₂ => LoopAtV _ _ _ _ _ _ _ _ _ it s₂) _ _)); (fail_if_success (with_reducible show At _ _ _ _ _ _ _ _ _)); (fail_if_success (with_reducible show WPost _ _ _ _ _)); (fail_if_success (with_reducible show AtI _ _ _ _ _ _ _ _ _ _ _)); first | (k_unfold; (try dsimp only)) | ((with_reducible refine wpAny_execs_cons ?_); (try dsimp only)) | walk1 | (dsimp only; walk1)))
      dsimp only [WPost]
      rename Fr g' _ _ _ => F4
      rename News g' _ _ _ => N4
      refine AtI.intro ⟨_, o3, kvs3⟩ F4 N4 wl_in wl_it (wl_off hI2 hl2) ?hkZ (by ((intro z hz; (simp only [List.contains_cons, List.contains_nil, Bool.or_false, Bool.or_eq_false_iff, beq_eq_false_iff_ne, ne_eq] at hz); (simp [hz, kstB]; done)))) ⟨?hpZ, hy2, fun p hp => hl2 p (List.mem_append_left _ (.tail _ hp))⟩
      case hkZ => kst_all
      case hpZ => rw [worth_succ hp, htbe]; exact hw3
    case turn2 =>
      clear F2 N2 hd2 hf2
      rintro j ⟨o3, kvs3⟩ v k y u3 h3 tk3 J oJ hj hkv hkis ⟨hd3, hf3⟩ hJ1 hJ2 F3 N3
      dsimp only at hd3 hf3 F3 N3 hJ2
      obtain ⟨tv, rfl⟩ := Value.isStrOf_shape hkis
      obtain ⟨e, he, rfl⟩ := flat_at hf1 hkv
      have hhas := has_at he
      have hel := hkeys e (List.mem_of_getElem? he)
      have het := T_len e.1
      have hjl : j < tb.length := (List.getElem?_eq_some_iff.mp he).1
      have hwl : (kd (wpart p tb j)).length ≤ 32 := by rw [kd_len]; have := wpart_len p tb j; omega
      have hR := wl_R (oJ := oJ) hl2 hJ2
      simp only [List.cons_append] at N3
      (repeat' ((fail_if_success (with_reducible show wpAny _ _ (exec (Stmt.For _ _ _ _ _) _) _ _ _)); (fail_if_success (with_reducible show wpAny _ _ (exec (Stmt.While _ _ _ _) _) _ _ _)); (fail_if_success (with_reducible show wpAny _ _ (pyIter _) (fun it s₂ => LoopAtV _ _ _ _ _ _ _ _ _ it s₂) _ _)); (fail_if_success (with_reducible show At _ _ _ _ _ _ _ _ _)); (fail_if_success (with_reducible show WPost _ _ _ _ _)); (fail_if_success (with_reducible show AtI _ _ _ _ _ _ _ _ _ _ _)); first | (k_unfold; (try dsimp only)) | ((with_reducible refine wpAny_execs_cons ?_); (try dsimp only)) | walk1 | (dsimp only; walk1)))
      rename V.FlatPairs PyData.str _ (kdpD (kdpPut (kdpPut _ _ _) _ _)) => hf9
      rename_i F9 N9 hd9
      rw [wstep_is hpl.1, kd_look] at hf9
      dsimp only [WPost]
      refine AtI.intro ⟨_, _⟩ F9 N9 wl_in2 wl_it2 (wl_off2 hJ2) ?hkY (by ((intro z hz; (simp only [List.contains_cons, List.contains_nil, Bool.or_false, Bool.or_eq_false_iff, beq_eq_false_iff_ne, ne_eq] at hz); (simp [hz, kstB]; done)))) ⟨hd9, ?hpY⟩
      case hkY => intro _ h; cases h
      case hpY => rw [wpart_succ he]; exact hf9
end Mine
end
noncomputable section
open PySem PySem.W PySem.Calls PyProof.Rows PyProof
set_option Elab.async false
set_option maxRecDepth 100000
namespace Mine
theorem offGenR : True := by
  w_top off
  trivial
section
variable {prog : Program} {w : World} {A₀ A : Around} {s : Shared} {base h₀ : Heap} {outer : List Env} {env : Env} {L : Addr} {m : Str → Option Value} {news : List (Addr × Obj)} {K : Frag} {p : Program} {loose : List Str} {mean : ExcName → Option Value} {mg mb : Str → Option Value}
    {R : Result → Shared → Prop} {name qual : Str} {params : Arguments} {body : List Stmt} {scope : Scope} {dV kV doc pm cdv ct oc : Value} {an od : Option Addr} {osl : Array (Option Value)} {f : Addr} {args : Args} {binds : List (Str × Value)}
/-- what stood ahead of a call stands behind it, where the call has turned nothing but the frames on the way -/
theorem turn_back {fs : List Addr} {h g g' h' : Heap} {L' : Addr} {u m' : Str → Option Value} {nw : List (Addr × Obj)} {oL : Obj} {es : Array DictEntry} {ep : Nat} (F : Fr h₀ L h u) (hfs : ∀ b ∈ fs, b = L) (hd : oL.data = .dict es ep) (hk : StrKeys es ∧ ∀ z, nsFind es z = u z)
    (hg : g.get? L = some oL) (st : ∀ b o, h₀.get? b = some o → g.get? b = some o) (T' : KtsTurn fs g g') (F' : Fr g' L' h' m') (N' : News g' L' h' nw) : Fr h₀ L h' u ∧ News h₀ L h' nw := by
  obtain ⟨sl, up⟩ := T'.up hg
  have hL₀ : h₀.get? L = none := kts_self F
  refine ⟨⟨⟨_, es, ep, F'.keep _ _ up, hd, hk⟩, fun b o e => F'.keep b o (T'.other b o (st b o e) fun q => ?_), F.above⟩, fun p hp => ?_⟩
  · rw [hfs b q, hL₀] at e
    exact nomatch e
  · obtain ⟨e, -, none'⟩ := N' p hp
    refine ⟨e, fun q => ?_, Option.eq_none_iff_forall_not_mem.mpr fun o ho => ?_⟩
    · rw [q, up] at none'
      exact nomatch none'
    · obtain ⟨sl', q⟩ := T'.up (st _ _ ho)
      rw [q] at none'
      exact nomatch none'
/-- into a def that catches, from a frame right above the caller -/
theorem code_S0X (B : Below A₀ base [] h₀) (F : Fr h₀ L s.heap m) (X₀ : K.In h₀) (N : News h₀ L s.heap news) (T : Top p loose mean mg mb h₀) (hA : A.frames = some [env]) (hf : env.frame = some L) (hke : env.scope.kind = .function)
    (ho : K.lookup f = some ⟨oc, od, .func (fnOf name qual params body scope dV kV doc pm an cdv ct), osl⟩) (hcd : codeIn K cdv qual = true) (hroom : A.depth < recursionLimit)
    (hbind : BindsTo s (fnOf name qual params body scope dV kV doc pm an cdv ct) args binds) (hloc : ∀ y ∈ binds, scope.names.lookup y.1 = some .local)
    (h : ∀ g L' h₁, Fr h₀ L g m → Fr g L' h₁ (fun y => binds.reverse.lookup y) → News g L' h₁ news → Below A base [env] g → K.In g → Top p loose mean mg mb g → KtsDicts ([env].filterMap (·.frame)) g →
      wpAny (model prog w) (A.deeper (envOf qual scope L' f cdv)) (execs body (envOf qual scope L' f cdv))
        (fun fl s' => LeaveS0 ([env].filterMap (·.frame)) h₀ L m g R (match fl with | .ret v => v | _ => .none) s')
        (fun e s' => wpAny (model prog w) (A.deeper (envOf qual scope L' f cdv)) (leaving (envOf qual scope L' f cdv) e) (fun _ s'' => R (.error e) s'') (fun e' s'' => R (.error e') s'') s')
        { s with heap := h₁, toks := s.toks + binds.length })
    (hco : scope.isCoroutine = false) (hgen : scope.isGenerator = false) (hk : scope.kind = .function)
    (hcell : ∀ x ∈ scope.names, x.2 ≠ .cell) : codeAny (model prog w) A (.call (.ref f) args) R s := by
  have X := X₀.keeps F.keep
  have mem1 : ∀ b, b ∈ ([env].filterMap (·.frame)) → b = L := fun b hb => by
    simp only [List.filterMap_cons, hf, List.filterMap_nil, List.mem_singleton] at hb
    exact hb
  refine codeAny_call_def (fd := fnOf name qual params body scope dV kV doc pm an cdv ct) (body := body) (binds := binds) hroom (X _ _ ho) rfl (T.nolimit.keeps F.keep) (codeRec_of X hcd) rfl hbind hcell hloc (fun h₁ hns hk₁ => ?_) hco hgen hk
  obtain ⟨FG, BG, st, _⟩ := groundX (R := R) B F N hA hf hke
  obtain ⟨oL, es, ep, hL, hLd, hLk⟩ := id F.ns
  have hLg : (hideAll s.heap (news.map (·.1))).get? L = some oL := hideAll_get _ hL fun q => let ⟨p, hp, e⟩ := List.mem_map.mp q; (N p hp).2.1 e
  refine wpAny_mono (h _ s.heap.objs.size h₁ FG ⟨hns, fun b o e => hk₁ b o (of_hideAll _ e), Nat.le_of_eq (hideAll_size _ _)⟩
    (fun p hp => ⟨hk₁ _ _ (N p hp).1, Nat.ne_of_lt (Heap.lt_size (N p hp).1), hideAll_none _ (List.mem_map_of_mem hp)⟩) BG (X₀.keeps st) (T.keeps st) (fun b hb => mem1 b hb ▸ ⟨oL, es, ep, hLg, hLd⟩)) ?_ fun _ _ y => y
  rintro fl s' ⟨g', L', m', news', T', F', N', k⟩
  obtain ⟨F2, N2⟩ := turn_back F mem1 hLd hLk hLg st T' F' N'
  exact k F2 N2
theorem set_pushed (g : Array GenState) (x y : GenState) : (g.push x).setIfInBounds g.size y = g.push y := by
  apply Array.ext
  · simp
  · intro i h1 h2
    simp only [Array.size_push, Array.size_setIfInBounds] at h1 h2
    rw [Array.getElem_setIfInBounds (by simpa using h1)]
    by_cases hi : g.size = i
    · subst hi; simp
    · have : i < g.size := by omega
      simp [hi, Array.getElem_push, this]
theorem over_func (A : Around) (body : List Stmt) (env : Env) : A.over (.func body env) [] = A.deeper env := by
  obtain ⟨a, b, c, d, e⟩ := A
  rfl
theorem left_gen {α : Type} {X : String} {G a : Addr} {og : Obj} {vs : Array Value} {oe : Obj} {Q : α → Shared → Prop} {E : Value → Shared → Prop} (hg : s.heap.get? G = some og) (hd : og.data = .fields vs) (h3 : vs[3]? = none) (he : s.heap.get? a = some oe) (hc : oe.cls = .type X)
    (hsub : isSubtype (.type X) (.type "StopIteration") = pure false) (h : E (.ref a) s) : wpAny (model prog w) A (Builtin.Generator.genLeft (.ref G) (.ref a) : Sem α) Q E s := by
  unfold Builtin.Generator.genLeft Builtin.Generator.madeByALambda Builtin.Generator.genEscaped
  refine wpAny_bind (wpAny_bind (wpAny_load hg (wpAny_pure ?_)))
  have e1 : (og.cls == Value.type "generator" && (match og.data with | .fields vs => vs[3]? == some (Value.bool true) | _ => false)) = false := by
    rw [hd]; simp only [h3]; simp
  refine wpAny_bind (wpAny_isInstance (T := X) (b := false) ⟨oe, he, hc⟩ hsub ?_)
  rw [Bool.and_false]
  refine wpAny_bind (wpAny_isInstance (T := X) (b := false) ⟨oe, he, hc⟩ hsub ?_)
  exact wpAny_bind (wpAny_throw h)
/-- a for over a def that yields, where the def raises ahead of its first yield -/
theorem gen_raises {X : String} {E : Value → Shared → Prop} {pos : List Value} {kw : List (Str × Value)} (hh : A.handled = none) (B : Below A₀ base outer h₀) (F : Fr h₀ L s.heap m) (X₀ : K.In h₀) (N : News h₀ L s.heap news) (T : Top p loose mean mg mb h₀) (hA : A.frames = some (env :: outer)) (hf : env.frame = some L) (hke : env.scope.kind = .function)
    (ho : K.lookup f = some ⟨oc, od, .func (fnOf name qual params body scope dV kV doc pm an cdv ct), osl⟩) (hcd : codeIn K cdv qual = true) (hroom : A.depth < recursionLimit)
    (hbind : BindsTo s (fnOf name qual params body scope dV kV doc pm an cdv ct) ⟨pos, kw⟩ binds) (hloc : ∀ y ∈ binds, scope.names.lookup y.1 = some .local)
    (h : ∀ g L' h₁ tk G go, Fr h₀ L g m → Fr g L' h₁ (fun y => binds.reverse.lookup y) → News g L' h₁ ((G, go) :: news) → Below A base (env :: outer) g → K.In g → Top p loose mean mg mb g →
      wpAny (model prog w) (A.in1.deeper (envOf qual scope L' f cdv)) (execs body (envOf qual scope L' f cdv)) (fun _ _ => False)
        (fun e s' => wpAny (model prog w) (A.in1.deeper (envOf qual scope L' f cdv)) (leaving (envOf qual scope L' f cdv) e)
          (fun _ s'' => (∃ a oe, e = .ref a ∧ s''.heap.get? a = some oe ∧ oe.cls = .type X) ∧ s''.heap.get? G = some go ∧ E e (s''.setGen s.gens.size .finished)) (fun _ _ => False) s')
        { s with heap := h₁, toks := tk, gens := s.gens.push .running })
    (hco : scope.isCoroutine = false) (hgen : scope.isGenerator = true) (hk : scope.kind = .function)
    (hcell : ∀ x ∈ scope.names, x.2 ≠ .cell) (hsub : isSubtype (.type X) (.type "StopIteration") = pure false) :
    wpAny (model prog w) A (call (.ref f) pos kw) (fun xv s₁ => wpAny (model prog w) A (pyIter xv) (fun it s₂ => wpAny (model prog w) A (pyNext it) (fun _ _ => False) E s₂) E s₁) E s := by
  have XK := X₀.keeps F.keep
  obtain ⟨FG, BG, st, _⟩ := groundX (R := fun _ _ => True) B F N hA hf hke
  refine wpAny_call (codeAny_call_generator (fd := fnOf name qual params body scope dV kV doc pm an cdv ct) hroom (XK _ _ ho) rfl hco hgen rfl (codeRec_of XK hcd) (hbind _ _ _ _ ?_))
  refine wpAny_newFunctionEnv hcell hloc (fun h₁ hns hsb => ⟨(T.nolimit.keeps F.keep).fresh _ hsb, ?_⟩) hk
  have hk₁ : ∀ b o, s.heap.get? b = some o → h₁.get? b = some o := fun b o e => hsb.extBut b o (Nat.ne_of_lt (Heap.lt_size e)) (Heap.get?_push_of_some _ e)
  dsimp only
  have hgg : (h₁.push { cls := Value.type "generator", data := Data.fields #[Value.int s.gens.size 0, Value.str name (s.toks + binds.length), Value.str qual (s.toks + binds.length + 1)] }).IsGen h₁.objs.size s.gens.size := ⟨_, _, _, Heap.get?_push_size _ rfl, rfl, rfl, rfl⟩
  refine wpAny_pyIter_gen hgg ?_
  generalize hgo : ({ cls := Value.type "generator", data := Data.fields #[Value.int s.gens.size 0, Value.str name (s.toks + binds.length), Value.str qual (s.toks + binds.length + 1)] } : Obj) = go at hgg
  have hgd : go.data = .fields #[Value.int s.gens.size 0, Value.str name (s.toks + binds.length), Value.str qual (s.toks + binds.length + 1)] := by rw [← hgo]
  have hfree : go.isFreed = false := by rw [← hgo]; rfl
  have hk₂ : ∀ b o, s.heap.get? b = some o → (h₁.push go).get? b = some o := fun b o e => Heap.get?_push_of_some _ (hk₁ b o e)
  have hLt : s.heap.objs.size < h₁.objs.size := hns.lt
  have lim : (h₁.push go).NoLimit := T.nolimit.keeps fun b o e => hk₂ b o (F.keep b o e)
  have hw := h _ s.heap.objs.size (h₁.push go) (s.toks + binds.length + 1 + 1) h₁.objs.size go FG ⟨hns.push _, fun b o e => hk₂ b o (of_hideAll _ e), Nat.le_of_eq (hideAll_size _ _)⟩
    (fun q hq => by
      rcases List.mem_cons.mp hq with rfl | hq
      · refine ⟨Heap.get?_push_size _ hfree, Nat.ne_of_gt hLt, ?_⟩
        cases q : (hideAll s.heap (news.map (·.1))).get? h₁.objs.size with
        | none => rfl
        | some o =>
          have := Heap.lt_size (of_hideAll _ q)
          exact absurd (Nat.lt_trans this hLt) (Nat.lt_irrefl _)
      · exact ⟨hk₂ _ _ (N q hq).1, Nat.ne_of_lt (Heap.lt_size (N q hq).1), hideAll_none _ (List.mem_map_of_mem hq)⟩) BG (X₀.keeps st) (T.keeps st)
  unfold pyNext
  refine wpAny_bind (wpAny_attempt (wpAny_callSpecial?_slot (name := Str.ofString "__next__") hgg.typeIs slot_gen_next
    (wpAny_call_entry slot_gen_next hgg.typeIs entry_gen_next ?_ (args_gen_next _))))
  show wpAny _ _ (Builtin.Generator.genWake (.ref h₁.objs.size) (.send .none)) _ _ _
  unfold Builtin.Generator.genWake
  have hgs : (s.gens.push (GenState.fresh (Code.func body (envOf qual scope s.heap.objs.size f cdv))))[s.gens.size]? = some (GenState.fresh (Code.func body (envOf qual scope s.heap.objs.size f cdv))) := by simp
  refine wpAny_bind (wpAny_holding (wpAny_genNumber hgg (wpAny_bind (wpAny_genState hgs ?_))))
  refine wpAny_bind (wpAny_roomToWake lim hroom ?_)
  show wpAny _ _ (.resume s.gens.size (.send .none) [] _) _ _ _
  refine wpAny_resume (n := 0) (R := fun _ _ r s₁ => ∃ e, r = .error e ∧ (∃ a oe, e = .ref a ∧ s₁.heap.get? a = some oe ∧ oe.cls = .type X) ∧ s₁.heap.get? h₁.objs.size = some go ∧ E e (s₁.setGen s.gens.size .finished)) (Y := fun _ _ _ _ _ => False) hgs ⟨rfl, ?_⟩ (fun x s₁ hx => ?_) (fun v s₁ gs' hv => hv.elim)
  · refine seg_func (seg_wrap ?_)
    rw [over_func]
    show wpAny _ _ _ _ _ { s with heap := h₁.push go, toks := s.toks + binds.length + 1 + 1, gens := (s.gens.push _).setIfInBounds s.gens.size .running }
    rw [set_pushed]
    refine wpAny_mono hw (fun _ _ q => q.elim) fun e s' q => ?_
    refine seg_wrap ?_
    rw [over_func]
    refine wpAny_mono q (fun _ s'' q' => ?_) fun _ _ q' => q'.elim
    exact seg_end (.error e) ⟨e, rfl, q'⟩
  · obtain ⟨e, rfl, ⟨a, oe, rfl, hoe, hcl⟩, hG, hE⟩ := hx
    show wpAny _ _ (Builtin.Generator.genLeft (.ref h₁.objs.size) (.ref a)) _ _ _
    refine left_gen (s := s₁.setGen s.gens.size .finished) hG hgd (by simp) hoe hcl hsub ?_
    refine wpAny_bind (wpAny_isInstance (T := X) (b := false) ⟨oe, hoe, hcl⟩ hsub ?_)
    exact wpAny_throw hE
/-- a for whose first look raises -/
theorem For_raises {x : Str} {px pos : Pos} {iter : Expr} {sts : List Stmt} {Q : Flow → Shared → Prop} {E : Value → Shared → Prop}
    (h : wpAny (model prog w) A (eval iter env) (fun xv s₁ => wpAny (model prog w) A (pyIter xv) (fun it s₂ => wpAny (model prog w) A (pyNext it) (fun _ _ => False) E s₂) E s₁) E s)
    (hs : ∀ x, foldedSetIterable iter env x = pure x := by intro _; rfl) (hE : PassesOwn (model prog w) A env E := by passes_own) :
    wpAny (model prog w) A (exec (.For (.Name x px) iter sts [] pos) env) Q E s := by
  refine wpAny_For (wpAny_mono h (fun xv s₁ h₁ => wpAny_mono h₁ (fun it s₂ h₂ => ?_) fun _ _ e => e) fun _ _ e => e) hs
  refine codeAny_forLoop (fun _ s' => s' = s₂) (fun n s' hs' => ?_) 0 rfl
  subst hs'
  exact wpAny_passesOwn hE (wpAny_mono h₂ (fun _ _ q => q.elim) fun _ _ q => q)
end
end Mine
end
noncomputable section
open PySem PySem.W PySem.Calls PyProof.Rows PyProof
set_option Elab.async false
set_option maxRecDepth 100000
set_option maxHeartbeats 8000000
namespace Mine
theorem offRefu : True := by
  w_top off
  trivial
noncomputable def RefuC (w : World) (f : Addr) (vs : List Value) (Pre : List (Addr × Obj) → Prop) (v : Value) : Prop :=
  ∀ (loose : List Str) (mean : ExcName → Option Value) (mg mb : Str → Option Value) (dp un : Nat) (gd : Option (List Code)) (cn : Str) (cs : Scope) (a : Addr) (ccd : Value) (cl : List (Str × Addr)) (A₀ : Around) (base h₀ : Heap) (L : Addr) (m : Str → Option Value) (news : List (Addr × Obj)) (s : Shared) (Q E : Value → Shared → Prop),
    Below A₀ base [] h₀ → Fr h₀ L s.heap m → (hd.heap_39 w.params).In h₀ → (hd.heap_39 w.params).In base → News h₀ L s.heap news → Top hd.view_39 loose mean mg mb h₀ → Top hd.view_39 loose mean mg mb base → cs.kind = .function → dp + 5 < recursionLimit → un + 500 < cLine → Pre news →
    (∀ h' tk' gs', Fr h₀ L h' m → News h₀ L h' news → (AllBare s.gens → AllBare gs') → Q v { s with heap := h', toks := tk', gens := gs' }) →
    wpAny (model PySem.Challenge.rw_wn0102_01.row.toRowW.prog w) (ktrTop dp un gd cn cs L a ccd cl []) (call (.ref f) vs) Q E s
theorem refu (w : World) (row : Addr) (t : Tok) (rest : List Value) (nn : Nat) : RefuC w 84 [.ref row] (fun news => (row, listOf (.int 0 t :: rest).toArray nn) ∈ news) (.bool true) := by
  unfold RefuC
  k_fill
  intro loose mean mg mb dp un gd cn cs a ccd cl A₀ base h₀ L m news s Q E B F X XB N TT TB hk hdp hun hrow hret
  refine wpAny_call ?_
  k_dflt (refine' code_S0X ?k1 ?k2 ?k3 ?k4 ?k5 ?kA ?kF ?kK ?k6 ?k7 ?k8 ?k9 ?kB ?_ ?c2 ?c3 ?c4 ?c5; (case kA => exact rfl); (case kF => exact rfl); (case kK => assumption); (case k1 => k_asm); (case k2 => k_asm); (case k3 => k_asm); (case k4 => k_asm); (case k5 => k_asm); (case k6 => k_is); (case k7 => k_is); (case k8 => ktr_room); (case k9 => exact BindsTo.of_eq rfl); (case kB => exact locs rfl); (case c2 => exact rfl); (case c3 => exact rfl); (case c4 => exact rfl); (case c5 => decide +kernel); k_whole)
  intro g L' h₁ FG F' N' B' X' T' D'
  (try k_lift B')
  (try k_fold)
  (repeat' ((fail_if_success (with_reducible show wpAny _ _ (exec (Stmt.For _ _ _ _ _) _) _ _ _)); (fail_if_success (with_reducible show wpAny _ _ (pyIter _) (fun it s₂ => LoopAtV _ _ _ _ _ _ _ _ _ it s₂) _ _)); (fail_if_success (with_reducible show At _ _ _ _ _ _ _ _ _)); (fail_if_success (with_reducible show WPost _ _ _ _ _)); (fail_if_success (with_reducible show wpAny _ _ (leaving _ _) _ _ _)); (fail_if_success (with_reducible show AtI _ _ _ _ _ _ _ _ _ _ _)); first | (k_unfold; (try dsimp only)) | ((with_reducible refine wpAny_execs_cons ?_); (try dsimp only)) | walk1 | (dsimp only; walk1)))
  refine For_raises ?_
  (repeat' ((fail_if_success (with_reducible show wpAny _ _ (exec (Stmt.For _ _ _ _ _) _) _ _ _)); (fail_if_success (with_reducible show wpAny _ _ (pyIter _) (fun it s₂ => LoopAtV _ _ _ _ _ _ _ _ _ it s₂) _ _)); (fail_if_success (with_reducible show At _ _ _ _ _ _ _ _ _)); (fail_if_success (with_reducible show WPost _ _ _ _ _)); (fail_if_success (with_reducible show wpAny _ _ (leaving _ _) _ _ _)); (fail_if_success (with_reducible show AtI _ _ _ _ _ _ _ _ _ _ _)); first | (k_unfold; (try dsimp only)) | ((with_reducible refine wpAny_execs_cons ?_); (try dsimp only)) | walk1 | (dsimp only; walk1)))
  clear X
  have keep8 : True ∧ (hd.heap_39 w.params).In base := ⟨True.intro, XB⟩
  clear XB
  k_dflt (refine' gen_raises (X := "ValueError") ?kh ?k1 ?k2 ?k3 ?k4 ?k5 ?kA ?kF ?kK ?k6 ?k7 ?k8 ?k9 ?kB ?_ ?c2 ?c3 ?c4 ?c5 ?c6; (case kh => exact rfl); (case kA => exact rfl); (case kF => exact rfl); (case kK => exact rfl); (case k1 => k_asm); (case k2 => k_asm); (case k3 => k_asm); (case k4 => k_asm); (case k5 => k_asm); (case k6 => k_is); (case k7 => k_is); (case k8 => ktr_room); (case k9 => exact BindsTo.of_eq rfl); (case kB => exact locs rfl); (case c2 => exact rfl); (case c3 => exact rfl); (case c4 => exact rfl); (case c5 => decide +kernel); (case c6 => (rw [isSubtype_type]; kernel_rfl)); k_whole)
  intro g₂ L₂ h₂ tk₂ G go FG₂ F₂ N₂ B₂ X₂ T₂
  have keep9 : Fr g L' g₂ _ ∧ Below _ base _ g := ⟨FG₂, B'⟩
  clear FG F' N' B' X' FG₂
  replace B₂ : Below ((ktrTop dp un gd cn cs L a ccd cl []).deeper _).in1 base _ g₂ := ⟨B₂.stack, B₂.stays, B₂.frames⟩
  (try dsimp only)
  (try k_lift B₂)
  (try k_fold)
  (repeat' ((fail_if_success (with_reducible show wpAny _ _ (exec (Stmt.For _ _ _ _ _) _) _ _ _)); (fail_if_success (with_reducible show wpAny _ _ (pyIter _) (fun it s₂ => LoopAtV _ _ _ _ _ _ _ _ _ it s₂) _ _)); (fail_if_success (with_reducible show At _ _ _ _ _ _ _ _ _)); (fail_if_success (with_reducible show WPost _ _ _ _ _)); (fail_if_success (with_reducible show wpAny _ _ (leaving _ _) _ _ _)); (fail_if_success (with_reducible show AtI _ _ _ _ _ _ _ _ _ _ _)); first | (k_unfold; (try dsimp only)) | ((with_reducible refine wpAny_execs_cons ?_); (try dsimp only)) | walk1 | (dsimp only; walk1)))
  refine For_invV g₂ (by rfl) (by rfl) ?_
  (repeat' ((fail_if_success (with_reducible show wpAny _ _ (exec (Stmt.For _ _ _ _ _) _) _ _ _)); (fail_if_success (with_reducible show wpAny _ _ (pyIter _) (fun it s₂ => LoopAtV _ _ _ _ _ _ _ _ _ it s₂) _ _)); (fail_if_success (with_reducible show At _ _ _ _ _ _ _ _ _)); (fail_if_success (with_reducible show WPost _ _ _ _ _)); (fail_if_success (with_reducible show wpAny _ _ (leaving _ _) _ _ _)); (fail_if_success (with_reducible show AtI _ _ _ _ _ _ _ _ _ _ _)); first | (k_unfold; (try dsimp only)) | ((with_reducible refine wpAny_execs_cons ?_); (try dsimp only)) | walk1 | (dsimp only; walk1)))
  rename Fr g₂ _ _ _ => F1
  rename News g₂ _ _ _ => N1
  refine list_at (σ := Unit) (vs := .int 0 t :: rest) (nn := nn) (fun _ => (G, go) :: news) (fun _ => [(Str.ofString "last_interval", .none)]) [Str.ofString "interval", Str.ofString "last_interval"] rfl (fun i _ => i = 0) (fun _ => False) () rfl (fun _ => .tail _ hrow) F1 N1 ?hk1 rfl ?hD1 ?turn1 ?done1
  case hk1 => kst_all
  case hD1 => intro _ h; cases h
  case done1 => intro _ _ _ _ h; exact h.elim
  case turn1 =>
    clear F1 N1
    rintro i c v u h tk I oI hi hv rfl hlt1 hne1 F1 N1
    obtain rfl : v = .int 0 t := by simpa using hv.symm
    dsimp only at F1 N1
    (repeat' ((fail_if_success (with_reducible show wpAny _ _ (exec (Stmt.For _ _ _ _ _) _) _ _ _)); (fail_if_success (with_reducible show wpAny _ _ (pyIter _) (fun it s₂ => LoopAtV _ _ _ _ _ _ _ _ _ it s₂) _ _)); (fail_if_success (with_reducible show At _ _ _ _ _ _ _ _ _)); (fail_if_success (with_reducible show WPost _ _ _ _ _)); (fail_if_success (with_reducible show wpAny _ _ (leaving _ _) _ _ _)); (fail_if_success (with_reducible show AtI _ _ _ _ _ _ _ _ _ _ _)); first | (k_unfold; (try dsimp only)) | ((with_reducible refine wpAny_execs_cons ?_); (try dsimp only)) | walk1 | (dsimp only; walk1)))
    rename Heap.NewExc _ _ _ _ => hx
    rename_i h9 e9
    refine leave_newS B₂ hx F1 N1 (fun h₃ RS RN U => ⟨?_, ?_, ?_⟩)
    · obtain ⟨_, _, _, _, fl⟩ := RN
      obtain ⟨ob, hob, hcl⟩ := fl.there
      exact ⟨_, ob, rfl, hob, hcl⟩
    · obtain ⟨_, _, _, _, hl, fl⟩ := RS
      exact fl.1 _ _ (hl (G, go) (List.mem_append_left _ (.head _))).1
    · refine caught_SN0 (T' := "ValueError") (g₀ := g) RS keep9.1 keep9.2 U keep8.2 TB D' KtsTurn.refl ?ex PyProof.Rows.Boot.«ValueError» ?hn PySem.F.isExc_ValueError PySem.F.notTuple_ValueError ?hs ?_
      case hs => kts_sub
      case ex => k_is
      case hn => decide
      intro h₄ g₄ T₄ F₄ N₄ B₄ X₄ P₄ D₄
      refine wpAny_execs_cons (wpAny_Return_some (wpAny_Constant_bool ?_))
      refine leaveS0_ F₄ N₄ T₄ fun FH NH => ?_
      refine hret _ _ _ FH (fun p hp => NH p (List.mem_append_left _ (.tail _ hp))) ?_
      intro hb
      show AllBare ((s.gens.push .running).setIfInBounds s.gens.size .finished)
      rw [set_pushed]
      exact hb.push rfl
end Mine
end
noncomputable section
open PySem PySem.W PySem.W.X PySem.Calls PyProof.Rows PyProof
set_option Elab.async false
set_option maxRecDepth 100000
set_option maxHeartbeats 0
namespace Mine
theorem offTold2 : True := by
  w_top off
  trivial
theorem eS : @String.splitOn = @String.splitOn := rfl
end Mine
name_x xw15058866555488072919 for String.splitOn by Mine.eS
namespace Mine
noncomputable def obAt (a : Addr) (P : Params) : Obj := ((hd.heap_39 P).lookup a).getD { cls := .none, data := .seq #[] 0 }
theorem ob0_at {w : World} {h : Heap} (X : (hd.heap_39 w.params).In h) : h.get? (nat_lit 0) = some (Obj.mk (obAt (nat_lit 0) w.params).cls (obAt (nat_lit 0) w.params).dict (obAt (nat_lit 0) w.params).data (obAt (nat_lit 0) w.params).slots) := X (nat_lit 0) _ (by kernel_rfl)
theorem ob3_at {w : World} {h : Heap} (X : (hd.heap_39 w.params).In h) : h.get? (nat_lit 3) = some (Obj.mk (obAt (nat_lit 3) w.params).cls (obAt (nat_lit 3) w.params).dict (obAt (nat_lit 3) w.params).data (obAt (nat_lit 3) w.params).slots) := X (nat_lit 3) _ (by kernel_rfl)
noncomputable def recOf {q : Program} {loose : List Str} {XP : (Str → Option Value) → Heap → Prop} {α : World → Heap → Prop} {r : RowW} {d : DefRec} {kwd : List (Str × Expr)} {run : Value → List Value → Sem Value} {P : Prop} (_ : (WalkO q loose XP α r d kwd run) → P) : DefRec := d
noncomputable def lawD : DefRec := recOf hd
noncomputable abbrev lawEnv (L a : Addr) (cd : Value) : Env := envOfC lawD.name lawD.scope L a cd
theorem mem_keep {h h' : Heap} {news : List (Addr × Obj)} (D : Mem h h' [] news) : ∀ b o, h.get? b = some o → h'.get? b = some o := fun b o e => D.keep b o e (by simp [away])
noncomputable def ToldQ (h : Heap) (d : Drawn) (os : OsState) (vs : List Value) (Q : Value → Shared → Prop) : Prop :=
  ∀ l h' gs tk nn, (∀ b o, h.get? b = some o → h'.get? b = some o) → h.get? l = none → h'.get? l = some { cls := .type "list", data := .seq vs.toArray nn, slots := #[] } → gs.bare = true → Q (.ref l) ⟨h', #[gs], d, tk, os⟩
theorem told_use {h h' : Heap} {d : Drawn} {os : OsState} {vs : List Value} {Q : Value → Shared → Prop} {l : Addr} {gs : GenState} {tk nn : Nat} {news : List (Addr × Obj)} (hQ : ToldQ h d os vs Q) (D : Mem h h' [] news)
    (hm : (l, ({ cls := .type "list", data := .seq vs.toArray nn, slots := #[] } : Obj)) ∈ news) (hb : gs.bare = true) : Q (.ref l) ⟨h', #[gs], d, tk, os⟩ :=
  hQ _ _ _ _ _ (mem_keep D) (D.nw _ hm).2 (D.nw _ hm).1 hb
local macro_rules | `(tactic| x_close) => `(tactic| exact told_use (by assumption) (by assumption) (by repeat (first | exact List.Mem.head _ | apply List.Mem.tail)) rfl)
section
variable (w : World) (L a : Addr) (cd : Value) (h : Heap) (d : Drawn) (tk : Nat) (os : OsState) (KX : (hd.heap_39 w.params).In h) (row : Addr) (n : Nat) (x y z : Int) (t tx ty tz t5 : Tok)
  (hx : 1 ≤ x) (hx2 : x ≤ 2) (hy : 1 ≤ y) (hy2 : y ≤ 2) (hz : 1 ≤ z) (hz2 : z ≤ 2) (Q E : Value → Shared → Prop) (gens : Array GenState) (hg : gens = #[])
include KX hx hx2 hy hy2 hz hz2 hg
theorem told_0 (hrow : h.get? row = some { cls := .type "list", data := .seq #[.int x tx, .int y ty, .int z tz, .int 0 t, .int 5 t5] n, slots := #[] })
    (hQ : ToldQ h d os [.int x tx, .int y ty, .int z tz, .int z tz] Q) : wpAny (model PySem.Challenge.rw_wn0102_01.row.toRowW.prog w) (callerA.deeper (lawEnv L a cd)) (call (.ref 91) [.ref row]) Q E ⟨h, gens, d, tk, os⟩ := by
  have hb0 := ob0_at KX
  have hb3 := ob3_at KX
  unfold lawEnv lawD recOf
  x_run
theorem told_1 (hrow : h.get? row = some { cls := .type "list", data := .seq #[.int x tx, .int y ty, .int z tz, .int 127 t, .int 5 t5] n, slots := #[] })
    (hQ : ToldQ h d os [.int x tx, .int y ty, .int z tz] Q) : wpAny (model PySem.Challenge.rw_wn0102_01.row.toRowW.prog w) (callerA.deeper (lawEnv L a cd)) (call (.ref 91) [.ref row]) Q E ⟨h, gens, d, tk, os⟩ := by
  have hb0 := ob0_at KX
  have hb3 := ob3_at KX
  unfold lawEnv lawD recOf
  x_run
theorem told_2 (hrow : h.get? row = some { cls := .type "list", data := .seq #[.int x tx, .int y ty, .int z tz] n, slots := #[] })
    (hQ : ToldQ h d os [.int x tx, .int y ty, .int z tz] Q) : wpAny (model PySem.Challenge.rw_wn0102_01.row.toRowW.prog w) (callerA.deeper (lawEnv L a cd)) (call (.ref 91) [.ref row]) Q E ⟨h, gens, d, tk, os⟩ := by
  have hb0 := ob0_at KX
  have hb3 := ob3_at KX
  unfold lawEnv lawD recOf
  x_run
end
end Mine
end
noncomputable section
open PySem PySem.W PySem.Calls PyProof.Rows
set_option maxRecDepth 100000
set_option Elab.async false
namespace Mine
theorem offBase2 : True := by
  w_top off
  trivial
section
variable {σ : Type} {prog : Program} {w : World} {A : Around} {E : Value → Shared → Prop} {Q : Flow → Shared → Prop} {s : Shared} {env : Env} {h₀ : Heap} {target : Expr} {body : List Stmt} {m₀ : Str → Option Value}
/-- a for whose target is no plain name of the frame: the assignment is the turn's own -/
theorem forC_at {I : Addr} {n : Nat} {Pv : Nat → Value → Prop} {St : Nat → Heap → Prop} (Led : σ → List (Addr × Obj)) (ps : σ → List (Str × Value)) (stored : List Str) (P : Nat → σ → Prop) (D : σ → Prop) (c₀ : σ)
    (W : Walks prog w A I [I] [I] n Pv St) (hLI : env.locals ≠ I) (hI : h₀.get? I = none) (hStI : ∀ i h, St i h → ∃ oI, h.get? I = some oI)
    (hst : St 0 s.heap) (F : Fr h₀ env.locals s.heap m₀) (N : News h₀ env.locals s.heap (Led c₀)) (ha : ∀ p ∈ Led c₀, p.1 ≠ I) (hk : ∀ p ∈ ps c₀, m₀ p.1 = some p.2) (hp : P 0 c₀) (hD : ∀ c, P n c → D c)
    (turn : ∀ i c v (u : Str → Option Value) h tk oI, i < n → Pv i v → P i c → (∀ p ∈ Led c, p.1 ≠ I) → Fr h₀ env.locals h (kstB (fun z => if stored.contains z then u z else m₀ z) (ps c)) → News h₀ env.locals h (Led c ++ [(I, oI)]) →
      wpAny (model prog w) A (assign target env v) (fun _ s₂ => wpAny (model prog w) A (execs body env) (WPost Q (AtI h₀ env.locals s I oI Led ps stored m₀ (P (i + 1))) (At h₀ env.locals s Led ps stored m₀ D)) E s₂) E { s with heap := h, toks := tk })
    (done : ∀ (c : σ) (u : Str → Option Value) h tk, D c → Fr h₀ env.locals h (kstB (fun z => if stored.contains z then u z else m₀ z) (ps c)) → News h₀ env.locals h (Led c) → Q .next { s with heap := h, toks := tk })
    (hE : PassesOwn (model prog w) A env E) (ht : ∀ v, letOwnedTupleGo target (.ref I) v = pure () := by intro _; rfl) :
    codeAny (model prog w) A (.forLoop target (.ref I) body [] env) (fun r s' => match r with | .ok f => Q f s' | .error e => cameBackBy (model prog w) A env E e s') s := by
  have hback : ∀ s₂, At h₀ env.locals s Led ps stored m₀ D s₂ → Q .next s₂ := fun s₂ p => at_out p fun c u h tk hD F N e => e ▸ done c u h tk hD F N
  refine codeAny_forLoop
    (fun k s' => ∃ (c : σ) (h' : Heap) (tk : Nat) (m' : Str → Option Value) (i : Nat), s' = { s with heap := h', toks := tk } ∧ St i h' ∧ Fr h₀ env.locals h' m' ∧ News h₀ env.locals h' (Led c) ∧ (∀ p ∈ Led c, p.1 ≠ I) ∧ (∀ p ∈ ps c, m' p.1 = some p.2) ∧ (∀ z, stored.contains z = false → m' z = m₀ z) ∧ P i c ∧ i ≤ n ∧ k = n + 1 - i) ?_ (n + 1)
    ⟨c₀, s.heap, s.toks, m₀, 0, rfl, hst, F, N, ha, hk, fun _ _ => rfl, hp, Nat.zero_le _, rfl⟩ ht
  rintro k s' ⟨c, h', tk, m', i, rfl, hst', F', N', ha', hk', hr', hp', hi, rfl⟩
  have next : ∀ h₁ : Heap, (∀ b o, b ∉ [I] → h'.get? b = some o → h₁.get? b = some o) → Fr h₀ env.locals h₁ m' ∧ News h₀ env.locals h₁ (Led c) := fun h₁ hk₁ =>
    ⟨⟨F'.ns.at' fun o e => hk₁ _ o (fun q => hLI (List.mem_singleton.mp q)) e, fun b o e => hk₁ b o (fun q => by rw [List.mem_singleton.mp q, hI] at e; cases e) (F'.keep b o e), F'.above⟩, fun p hp => ⟨hk₁ _ _ (fun q => ha' p hp (List.mem_singleton.mp q)) (N' p hp).1, (N' p hp).2⟩⟩
  by_cases hlt : i < n
  · refine W.item i _ _ _ hlt hst' fun v h₁ tk₁ hP hst₁ hk₁ => ?_
    obtain ⟨F₁, N₁⟩ := next h₁ hk₁
    obtain ⟨oI, hoI⟩ := hStI _ _ hst₁
    have N₂ : News h₀ env.locals h₁ (Led c ++ [(I, oI)]) := fun p hp => (List.mem_append.mp hp).elim (fun h => N₁ p h) fun h => by
      rw [List.mem_singleton.mp h]
      exact ⟨hoI, fun q => hLI q.symm, hI⟩
    refine wpAny_passesOwn hE (wpAny_mono (turn i c v m' h₁ tk₁ oI hlt hP hp' ha' (at_fr hk' hr' F₁) N₂) (fun _ s₂ h₂ => ?_) fun _ _ e => e)
    refine wpAny_passesOwn hE (wpAny_mono h₂ (fun f s₃ h₃ => ?_) fun _ _ e => e)
    have fin : AtI h₀ env.locals s I oI Led ps stored m₀ (P (i + 1)) s₃ → ∃ m, m < n + 1 - i ∧ ∃ (c : σ) (h' : Heap) (tk : Nat) (m' : Str → Option Value) (i : Nat), s₃ = { s with heap := h', toks := tk } ∧ St i h' ∧ Fr h₀ env.locals h' m' ∧ News h₀ env.locals h' (Led c) ∧ (∀ p ∈ Led c, p.1 ≠ I) ∧ (∀ p ∈ ps c, m' p.1 = some p.2) ∧ (∀ z, stored.contains z = false → m' z = m₀ z) ∧ P i c ∧ i ≤ n ∧ m = n + 1 - i := by
      rintro ⟨c', h₃', tk₃, m₃, news₃, rfl, F₃, N₃, hn₃, hi₃, ha₃, hk₃, hr₃, hp₃⟩
      refine ⟨n + 1 - (i + 1), by omega, c', h₃', tk₃, m₃, i + 1, rfl, ?_, F₃, fun p hp => N₃ p (hn₃ p hp), ha₃, hk₃, hr₃, hp₃, hlt, rfl⟩
      refine W.frame _ _ _ hst₁ fun b hb o e => ?_
      rw [List.mem_singleton.mp hb] at e ⊢
      rw [hoI] at e
      rw [← Option.some.inj e]
      exact (N₃ _ hi₃).1
    cases f with
    | ret v => exact h₃
    | brk => exact hback _ h₃
    | next => exact fin h₃
    | cont => exact fin h₃
  · obtain rfl : i = n := Nat.le_antisymm hi (Nat.not_lt.mp hlt)
    exact W.done _ _ _ hst' fun h₁ tk₁ hk₁ => wpAny_execs_nil (done c m' h₁ tk₁ (hD c hp') (at_fr hk' hr' (next h₁ hk₁).1) (next h₁ hk₁).2)
/-- over the signs of a text, the target a cell -/
theorem strC_at {xs : Str} {t : Tok} {iter : Expr} {pos : Pos} (Led : σ → List (Addr × Obj)) (ps : σ → List (Str × Value)) (stored : List Str) (P : Nat → σ → Prop) (D : σ → Prop) (c₀ : σ)
    (hev : ∀ Q', Q' (.str xs t) s → wpAny (model prog w) A (eval iter env) Q' E s)
    (hh : A.handled = none) (F : Fr h₀ env.locals s.heap m₀) (N : News h₀ env.locals s.heap (Led c₀)) (hk : ∀ p ∈ ps c₀, m₀ p.1 = some p.2) (hp : P 0 c₀) (hD : ∀ c, P xs.cps.size c → D c)
    (turn : ∀ i c k tc (u : Str → Option Value) h tk I oI, i < xs.cps.size → xs.cps[i]? = some k → P i c → (∀ p ∈ Led c₀, p.1 < I) → (∀ p ∈ Led c, p.1 ≠ I) → Fr h₀ env.locals h (kstB (fun z => if stored.contains z then u z else m₀ z) (ps c)) → News h₀ env.locals h (Led c ++ [(I, oI)]) →
      wpAny (model prog w) A (assign target env (.str ⟨#[k]⟩ tc)) (fun _ s₂ => wpAny (model prog w) A (execs body env) (WPost Q (AtI h₀ env.locals s I oI Led ps stored m₀ (P (i + 1))) (At h₀ env.locals s Led ps stored m₀ D)) E s₂) E { s with heap := h, toks := tk })
    (done : ∀ (c : σ) (u : Str → Option Value) h tk, D c → Fr h₀ env.locals h (kstB (fun z => if stored.contains z then u z else m₀ z) (ps c)) → News h₀ env.locals h (Led c) → Q .next { s with heap := h, toks := tk })
    (hE : PassesOwn (model prog w) A env E) (ht : ∀ I v, letOwnedTupleGo target (.ref I) v = pure () := by intro _ _; rfl) (hs : ∀ x, foldedSetIterable iter env x = pure x := by intro _; rfl) :
    wpAny (model prog w) A (exec (.For target iter body [] pos) env) Q E s := by
  refine wpAny_For (hev _ ?_) hs
  have lt0 : ∀ p ∈ Led c₀, p.1 < s.heap.objs.size := fun p hp => Heap.lt_size (N p hp).1
  have go : ∀ (nm : String) (o : Obj), o.isFreed = false → (∀ (A' : Around), A'.handled = none → Walks prog w A' s.heap.objs.size [s.heap.objs.size] [s.heap.objs.size] xs.cps.size (SignAt xs) (fun i h => h.IsStrIter s.heap.objs.size nm xs t i)) → (s.heap.push o).IsStrIter s.heap.objs.size nm xs t 0 →
      codeAny (model prog w) A (.forLoop target (.ref s.heap.objs.size) body [] env) (fun r s' => match r with | .ok f => Q f s' | .error e => cameBackBy (model prog w) A env E e s') { s with heap := s.heap.push o } := by
    intro nm o hf W st0
    refine forC_at Led ps stored P D c₀ (W A hh) (Nat.ne_of_lt F.ns.lt) (next_is_new F) (fun i h st => let ⟨o, ho, _⟩ := st; ⟨o, ho⟩) st0 (F.push _) (fun p hp => ⟨Heap.get?_push_of_some _ (N p hp).1, (N p hp).2⟩) (fun p hp => Nat.ne_of_lt (lt0 p hp)) hk hp hD ?_ done hE (ht _)
    rintro i c v u h tk oI hi ⟨k, tc, hc, rfl⟩ hp1 haI F₂ N₂
    exact turn i c k tc u h tk _ oI hi hc hp1 lt0 haI F₂ N₂
  cases ha : xs.cps.all (· < 128)
  · exact wpAny_pyIter_wide ha (go _ _ rfl (fun A' hA => Walks.strWide hA _ xs t) ⟨_, Heap.get?_push_size _ rfl, rfl, rfl⟩)
  · exact wpAny_pyIter_ascii ha (go _ _ rfl (fun A' hA => Walks.strAscii hA _ xs t) ⟨_, Heap.get?_push_size _ rfl, rfl, rfl⟩)
end
end Mine
end
noncomputable section
open PySem PySem.W PySem.Calls PyProof.Rows PyProof PyProof.Rows.LCg PyProof.Rows.LCt
set_option Elab.async false
set_option maxRecDepth 100000
namespace Mine
theorem offComps2 : True := by
  w_top off
  trivial
theorem strs_get {ps : List (List Nat)} : ∀ {vs : List Value} {i : Nat} {v : Value}, StrsAre vs (ps.map T) → vs[i]? = some v → ∃ p t, ps[i]? = some p ∧ v = .str (T p) t := by
  induction ps with
  | nil => intro vs i v h hv; cases h; simp at hv
  | cons q ps ih =>
    intro vs i v h hv
    rw [List.map_cons] at h
    cases h with
    | cons _ _ h =>
      cases i with
      | zero => simp at hv; exact ⟨q, _, rfl, hv.symm⟩
      | succ i => simp at hv; exact ih h hv
section
variable {prog : Program} {w : World} {A : Around} {h₀ : Heap} {L : Addr} {m : Str → Option Value} {env : Env} {ct elt : Expr} {x : Str} {scope : Scope} {cl : List (Str × Addr)} {s : Shared} {S : List (Addr × Obj) → Prop} {Fin : List Value → List (Addr × Obj) → Prop} {news : List (Addr × Obj)}
/-- a turn's end told in other words -/
theorem end_to {I C D : Addr} {oI oC oD : Obj} {R R' : Value → List (Addr × Obj) → Prop} {y y' : Value} {s₁ s₂ : Shared} (k : ∀ nw, R y nw → R' y' nw) : CompEnd h₀ L m s₁ I oI C oC D oD S R y s₂ → CompEnd h₀ L m s₁ I oI C oC D oD S R' y' s₂ :=
  fun ⟨h', tk, nw, e, F, N, o, hS, r⟩ => ⟨h', tk, nw, e, F, N, o, hS, k nw r⟩
/-- the turns of a comprehension over an array, by what holds of the values made so far -/
theorem rest_by {its : Array Value} (J : Nat → List Value → Prop)
    (turn : ∀ i ys v I oI C oC D u h tk (E' : Value → Shared → Prop), its[i]? = some v → J i ys → NsObj oC u → u x = some v → Fr h₀ L h m → News h₀ L h ((I, oI) :: (C, oC) :: (D, lst ys) :: news) → Off3 I C D news → ((@Ne Nat I C) ∧ (@Ne Nat I D) ∧ (@Ne Nat C D)) →
      wpAny (model prog w) A (eval elt (compEnvC scope cl C env)) (CompEnd h₀ L m { s with heap := h, toks := tk } I oI C oC D (lst ys) S (fun y nw => nw = news ∧ J (i + 1) (ys ++ [y]))) E' { s with heap := h, toks := tk })
    (j0 : J 0 []) (fin : ∀ ys, J its.size ys → Fin ys news) : CompRest prog w A h₀ L m env elt x scope cl s S (fun i v => its[i]? = some v) Fin its.size 0 [] news := by
  suffices go : ∀ k i ys, i + k = its.size → J i ys → CompRest prog w A h₀ L m env elt x scope cl s S (fun i v => its[i]? = some v) Fin k i ys news from go _ 0 [] (Nat.zero_add _) j0
  intro k
  induction k with
  | zero => exact fun i ys e j => fin ys (e ▸ j)
  | succ k ih => exact fun i ys e j v I oI C oC D u h tk E' hv hC hx F N o ne => wpAny_mono (turn i ys v I oI C oC D u h tk E' hv j hC hx F N o ne) (fun _ _ => end_to fun _ ⟨q, j'⟩ => q ▸ ih (i + 1) _ (by omega) j') fun _ _ q => q
/-- the same with a test -/
theorem restT_by {its : Array Value} (J : Nat → List Value → Prop)
    (turn : ∀ i ys v I oI C oC D u h tk (E' : Value → Shared → Prop), its[i]? = some v → J i ys → NsObj oC u → u x = some v → Fr h₀ L h m → News h₀ L h ((I, oI) :: (C, oC) :: (D, lst ys) :: news) → Off3 I C D news → ((@Ne Nat I C) ∧ (@Ne Nat I D) ∧ (@Ne Nat C D)) →
      wpAny (model prog w) A (isTrue ct (compEnvC scope cl C env) (eval ct (compEnvC scope cl C env))) (fun b s' => if b = true then wpAny (model prog w) A (eval elt (compEnvC scope cl C env)) (CompEnd h₀ L m { s with heap := h, toks := tk } I oI C oC D (lst ys) S (fun y nw => nw = news ∧ J (i + 1) (ys ++ [y]))) E' s'
        else CompEnd h₀ L m { s with heap := h, toks := tk } I oI C oC D (lst ys) S (fun _ nw => nw = news ∧ J (i + 1) ys) Value.none s') E' { s with heap := h, toks := tk })
    (j0 : J 0 []) (fin : ∀ ys, J its.size ys → Fin ys news) : CompRestT prog w A h₀ L m env ct elt x scope cl s S (fun i v => its[i]? = some v) Fin its.size 0 [] news := by
  suffices go : ∀ k i ys, i + k = its.size → J i ys → CompRestT prog w A h₀ L m env ct elt x scope cl s S (fun i v => its[i]? = some v) Fin k i ys news from go _ 0 [] (Nat.zero_add _) j0
  intro k
  induction k with
  | zero => exact fun i ys e j => fin ys (e ▸ j)
  | succ k ih =>
    refine fun i ys e j => CompRestT.succ fun v I oI C oC D u h tk E' hv hC hx F N o ne => wpAny_mono (turn i ys v I oI C oC D u h tk E' hv j hC hx F N o ne) (fun b s' q => ?_) fun _ _ q => q
    rcases b with _ | _
    · rw [if_neg Bool.false_ne_true] at q ⊢
      exact end_to (fun _ ⟨q, j'⟩ => q ▸ ih (i + 1) _ (by omega) j') q
    · rw [if_pos rfl] at q ⊢
      exact wpAny_mono q (fun _ _ => end_to fun _ ⟨q, j'⟩ => q ▸ ih (i + 1) _ (by omega) j') fun _ _ q => q
/-- a comprehension with a test over a list of texts that makes texts -/
theorem cst_rest {vs : List Value} {ws : List (List Nat)} (G : List (List Nat) → List Nat → List (List Nat)) (hvs : StrsAre vs (ws.map T))
    (turn : ∀ z t I oI C oC D m₂ ys l h tk (E' : Value → Shared → Prop), z ∈ ws → StrsAre ys (l.map T) → NsObj oC m₂ → m₂ x = some (.str (T z) t) → Fr h₀ L h m → News h₀ L h ((I, oI) :: (C, oC) :: (D, lst ys) :: news) → Off3 I C D news → ((@Ne Nat I C) ∧ (@Ne Nat I D) ∧ (@Ne Nat C D)) →
      wpAny (model prog w) A (isTrue ct (compEnvC scope cl C env) (eval ct (compEnvC scope cl C env))) (fun b s' => if b = true then wpAny (model prog w) A (eval elt (compEnvC scope cl C env)) (CompEnd h₀ L m { s with heap := h, toks := tk } I oI C oC D (lst ys) S (fun y news' => news' = news ∧ ∃ a t, y = .str (T a) t ∧ G l z = l ++ [a])) E' s'
        else CompEnd h₀ L m { s with heap := h, toks := tk } I oI C oC D (lst ys) S (fun _ news' => news' = news ∧ G l z = l) Value.none s') E' { s with heap := h, toks := tk })
    (fin : ∀ ys, StrsAre ys ((ws.foldl G []).map T) → Fin ys news) : CompRestT prog w A h₀ L m env ct elt x scope cl s S (fun i v => vs.toArray[i]? = some v) Fin vs.toArray.size 0 [] news := by
  refine restT_by (fun i ys => StrsAre ys (((ws.take i).foldl G []).map T)) ?_ .nil fun ys hy => fin ys ?_
  · intro i ys v I oI C oC D u h tk E' hv hy hC hx F N o ne
    obtain ⟨z, t, hz, rfl⟩ := strs_get hvs (by simpa using hv)
    have hs : (ws.take (i + 1)).foldl G [] = G ((ws.take i).foldl G []) z := by simp [List.take_add_one, hz]
    refine wpAny_mono (turn z t I oI C oC D u ys _ h tk E' (List.mem_of_getElem? hz) hy hC hx F N o ne) (fun b s' q => ?_) fun _ _ q => q
    rcases b with _ | _
    · rw [if_neg Bool.false_ne_true] at q ⊢
      exact end_to (fun _ ⟨e, r⟩ => ⟨e, by rw [hs, r]; exact hy⟩) q
    · rw [if_pos rfl] at q ⊢
      exact wpAny_mono q (fun _ _ => end_to fun _ ⟨e, a, t', hy', r⟩ => ⟨e, by rw [hs, r, hy', List.map_append]; exact kct_snoc hy⟩) fun _ _ q => q
  · have e : vs.toArray.size = ws.length := by simpa using hvs.length
    rwa [e, List.take_length] at hy
/-- a comprehension over a list of texts that makes ints -/
theorem csi_rest {vs : List Value} {ws : List (List Nat)} (g : List Nat → Int) (hvs : StrsAre vs (ws.map T))
    (turn : ∀ z t I oI C oC D m₂ ys h tk (E' : Value → Shared → Prop), z ∈ ws → NsObj oC m₂ → m₂ x = some (.str (T z) t) → Fr h₀ L h m → News h₀ L h ((I, oI) :: (C, oC) :: (D, lst ys) :: news) → Off3 I C D news → ((@Ne Nat I C) ∧ (@Ne Nat I D) ∧ (@Ne Nat C D)) →
      wpAny (model prog w) A (eval elt (compEnvC scope cl C env)) (CompEnd h₀ L m { s with heap := h, toks := tk } I oI C oC D (lst ys) S (fun y news' => news' = news ∧ ∃ t, y = .int (g z) t)) E' { s with heap := h, toks := tk })
    (fin : ∀ ys, IntsAre ys (ws.map g) → Fin ys news) : CompRest prog w A h₀ L m env elt x scope cl s S (fun i v => vs.toArray[i]? = some v) Fin vs.toArray.size 0 [] news := by
  refine rest_by (fun i ys => IntsAre ys ((ws.take i).map g)) ?_ .nil fun ys hy => fin ys ?_
  · intro i ys v I oI C oC D u h tk E' hv hy hC hx F N o ne
    obtain ⟨z, t, hz, rfl⟩ := strs_get hvs (by simpa using hv)
    exact wpAny_mono (turn z t I oI C oC D u ys h tk E' (List.mem_of_getElem? hz) hC hx F N o ne) (fun _ _ => end_to fun _ ⟨e, t', hy'⟩ => ⟨e, by rw [hy', List.take_add_one, hz, List.map_append]; exact IntsAre.append hy (.cons _ t' .nil)⟩) fun _ _ q => q
  · have e : vs.toArray.size = ws.length := by simpa using hvs.length
    rwa [e, List.take_length] at hy
end
end Mine
end
noncomputable section
open PySem PySem.W PySem.Calls PyProof.Rows PyProof
set_option Elab.async false
set_option maxRecDepth 100000
namespace Mine
theorem offPlainD : True := by
  w_top off
  trivial
/-- the texts left of a word, one sign more -/
noncomputable def growS (ws : List (List Nat)) (c : Nat) (l : List (List Nat)) (z : List Nat) : List (List Nat) := if ws.contains (z ++ [c]) then l else l ++ [z ++ [c]]
noncomputable def grow (ws : List (List Nat)) (c : Nat) : List (List Nat) := ws ++ ws.foldl (growS ws c) []
noncomputable def withinM (x : List Nat) : List (List Nat) := x.foldl grow [[]]
noncomputable def moreM (lo hi : List Nat) : Int := 2 * ((hi.length : Int) - (lo.length : Int))
noncomputable def hitM (lo hi : List Nat) : Bool := decide (lo = hi) || (decide (0 < moreM lo hi) && decide (levM lo hi (moreM lo hi) = moreM lo hi))
noncomputable def totalM (tb : Tab) (lo : List Nat) (j : Nat) : Int := (tb.take j).foldl (fun t e => if hitM lo e.1 then t + wget tb e.1 else t) 0
structure OkD (x : List Nat) (ps : List (List Nat)) : Prop where
  len : ps.length ≤ 4
  p3 : ∀ p ∈ ps, 1 ≤ p.length ∧ p.length ≤ 3
  x4 : x.length ≤ 4
  xs : ∀ c ∈ x, Low c
  keys : ∀ e ∈ worthM ps, e.1.length ≤ 4 ∧ ∀ c ∈ e.1, Low c
  tot : ∀ lo ∈ withinM x, (totalM (worthM ps) lo (worthM ps).length = 0 ↔ lo ≠ x)
theorem growS_len {ws : List (List Nat)} {c : Nat} : ∀ {zs l : List (List Nat)}, (zs.foldl (growS ws c) l).length ≤ l.length + zs.length
  | [], l => by simp
  | z :: zs, l => by
    rw [List.foldl_cons]
    have h := growS_len (ws := ws) (c := c) (zs := zs) (l := growS ws c l z)
    have : (growS ws c l z).length ≤ l.length + 1 := by unfold growS; split <;> simp
    simp only [List.length_cons]
    omega
theorem grow_len {ws : List (List Nat)} {c : Nat} : (grow ws c).length ≤ 2 * ws.length := by
  unfold grow
  rw [List.length_append]
  have := growS_len (ws := ws) (c := c) (zs := ws) (l := [])
  simp only [List.length_nil] at this
  omega
theorem growS_mem {ws : List (List Nat)} {c : Nat} : ∀ {zs l : List (List Nat)}, ∀ y ∈ zs.foldl (growS ws c) l, y ∈ l ∨ ∃ z ∈ zs, y = z ++ [c]
  | [], l => fun y h => .inl h
  | z :: zs, l => fun y h => by
    rw [List.foldl_cons] at h
    rcases growS_mem y h with h | ⟨z', hz, e⟩
    · unfold growS at h
      split at h
      · exact .inl h
      · rcases List.mem_append.mp h with h | h
        · exact .inl h
        · exact .inr ⟨z, .head _, List.mem_singleton.mp h⟩
    · exact .inr ⟨z', .tail _ hz, e⟩
theorem grow_mem {ws : List (List Nat)} {c : Nat} : ∀ y ∈ grow ws c, y ∈ ws ∨ ∃ z ∈ ws, y = z ++ [c] := fun y h => by
  unfold grow at h
  rcases List.mem_append.mp h with h | h
  · exact .inl h
  · rcases growS_mem y h with h | h
    · cases h
    · exact .inr h
noncomputable def withinP (x : List Nat) (i : Nat) : List (List Nat) := (x.take i).foldl grow [[]]
theorem withinP_succ {x : List Nat} {i c : Nat} (h : x[i]? = some c) : withinP x (i + 1) = grow (withinP x i) c := by
  unfold withinP
  rw [List.take_add_one, h, List.foldl_append]; rfl
theorem withinP_full (x : List Nat) : withinP x x.length = withinM x := by unfold withinP withinM; rw [List.take_length]
theorem withinP_len (x : List Nat) : ∀ i, i ≤ 4 → (withinP x i).length ≤ 16
  | i, h => by
    have key : ∀ i, (withinP x i).length ≤ 2 ^ i := by
      intro i
      induction i with
      | zero => simp [withinP]
      | succ i ih =>
        cases hc : x[i]? with
        | none =>
          have : x.length ≤ i := by simpa using hc
          have e : withinP x (i + 1) = withinP x i := by unfold withinP; rw [List.take_of_length_le (by omega), List.take_of_length_le this]
          rw [e, Nat.pow_succ]; omega
        | some c =>
          rw [withinP_succ hc, Nat.pow_succ]
          have := grow_len (ws := withinP x i) (c := c)
          omega
    have h1 := key i
    have : i = 0 ∨ i = 1 ∨ i = 2 ∨ i = 3 ∨ i = 4 := by omega
    rcases this with rfl | rfl | rfl | rfl | rfl <;> omega
theorem withinP_mem (x : List Nat) : ∀ i, ∀ y ∈ withinP x i, y.length ≤ i ∧ ∀ k ∈ y, k ∈ x
  | 0 => by simp [withinP]
  | i + 1 => by
    cases hc : x[i]? with
    | none =>
      have : x.length ≤ i := by simpa using hc
      have e : withinP x (i + 1) = withinP x i := by unfold withinP; rw [List.take_of_length_le (by omega), List.take_of_length_le this]
      rw [e]
      intro y hy
      exact ⟨Nat.le_succ_of_le (withinP_mem x i y hy).1, (withinP_mem x i y hy).2⟩
    | some c =>
      rw [withinP_succ hc]
      intro y hy
      rcases grow_mem y hy with h | ⟨z, h, rfl⟩
      · exact ⟨Nat.le_succ_of_le (withinP_mem x i y h).1, (withinP_mem x i y h).2⟩
      · obtain ⟨h1, h2⟩ := withinP_mem x i z h
        refine ⟨by simp; omega, fun k hk => ?_⟩
        rcases List.mem_append.mp hk with hk | hk
        · exact h2 k hk
        · rw [List.mem_singleton.mp hk]; exact List.mem_of_getElem? hc
theorem within_mem {x y : List Nat} (h : y ∈ withinM x) (hx : x.length ≤ 4) : y.length ≤ 4 ∧ ∀ k ∈ y, k ∈ x := by
  rw [← withinP_full] at h
  have := withinP_mem x _ y h
  exact ⟨by omega, this.2⟩
theorem total_succ {tb : Tab} {lo : List Nat} {j : Nat} {e : List Nat × Int} (h : tb[j]? = some e) : totalM tb lo (j + 1) = if hitM lo e.1 then totalM tb lo j + wget tb e.1 else totalM tb lo j := by
  unfold totalM
  rw [List.take_add_one, h, List.foldl_append]; rfl
end Mine
end
noncomputable section
open PySem PySem.W PySem.Calls PyProof.Rows PyProof.V PySem.Spec PySem.SeqAt
set_option Elab.async false
set_option maxRecDepth 100000
namespace Mine
theorem offStrEq : True := by
  w_top off
  trivial
theorem lay_strs : ∀ ys : List Str, (∀ y ∈ ys, PyData.strOk y = true) → PyData.canLayAll0 (ys.map PyData.str) = true ∧ PyData.depthAll (ys.map PyData.str) ≤ 1 := by
  intro ys
  induction ys with
  | nil => exact fun _ => ⟨rfl, Nat.zero_le _⟩
  | cons y r ih =>
    intro h
    obtain ⟨a, b⟩ := ih fun z hz => h z (.tail _ hz)
    have e := h y (.head _)
    constructor
    · simp [PyData.canLayAll0, PyData.canLay0, a, e]
    · simp only [List.map_cons, PyData.depthAll, PyData.depth]
      omega
theorem alike_strs : ∀ xs ys : List Str, noMixAll (xs.map PyData.str) (ys.map PyData.str) = true ∧ PySem.Spec.sameAll (xs.map PyData.str) (ys.map PyData.str) = decide (xs = ys) := by
  intro xs
  induction xs with
  | nil => intro ys; cases ys <;> simp [noMixAll, PySem.Spec.sameAll]
  | cons x r ih =>
    intro ys
    cases ys with
    | nil => simp [noMixAll, PySem.Spec.sameAll]
    | cons y q =>
      obtain ⟨a, b⟩ := ih q
      refine ⟨by simp [noMixAll, noMix, a], ?_⟩
      rw [List.map_cons, List.map_cons, PySem.Spec.sameAll, b]
      by_cases e : x = y <;> simp [PySem.Spec.same, e]
theorem shaped_strs {ys : List Str} (h : ∀ y ∈ ys, PyData.strOk y = true) : shaped (.list (ys.map PyData.str)) = true := by
  obtain ⟨a, b⟩ := lay_strs ys h
  refine Bool.and_eq_true_iff.mpr ⟨by simpa only [PyData.canLay0] using a, decide_eq_true ?_⟩
  simp only [PyData.depth]
  omega
section
variable {prog : Program} {w : World} {A : Around} {E : Value → Shared → Prop} {s : Shared}
theorem ne_strsK {a b : Addr} {vs us : List Value} {ns ms : List Str} {Q : Value → Shared → Prop} (hl : s.heap.IsList a vs.toArray) (hi : StrsAre vs ns) (hl' : s.heap.IsList b us.toArray) (hi' : StrsAre us ms) (ho : ∀ y ∈ ns, PyData.strOk y = true) (ho' : ∀ y ∈ ms, PyData.strOk y = true) (hu : A.units + 64 < cLine)
    (h : Q (.bool (!decide (ns = ms))) s) : wpAny (model prog w) A (compareOp .NotEq (.ref a) (.ref b)) Q E s :=
  let ⟨_, ho1, hc1, _, hd1⟩ := hl
  let ⟨_, ho2, hc2, _, hd2⟩ := hl'
  ne_dataH_same (.list ho1 hc1 hd1 (by simpa using strs_readAll s.heap hi)) (.list ho2 hc2 hd2 (by simpa using strs_readAll s.heap hi')) (shaped_strs ho) (shaped_strs ho') hu
    (by simpa only [noMix] using (alike_strs ns ms).1) (by simpa only [PySem.Spec.same, (alike_strs ns ms).2] using h)
end
end Mine
end
noncomputable section
open PySem PySem.W PySem.Calls PyProof.Rows PyProof
set_option Elab.async false
set_option maxRecDepth 100000
namespace Mine
theorem offLawK : True := by
  w_top off
  trivial
/-- the law's body from its k-th statement on comes to True -/
noncomputable def LawBlk (w : World) (k : Nat) (Pre : Addr → (Str → Option Value) → List (Addr × Obj) → Prop) : Prop :=
  ∀ (loose : List Str) (mean : ExcName → Option Value) (mg mb : Str → Option Value) (a : Addr) (cd : Value) (h₀ : Heap) (L : Addr) (m : Str → Option Value) (news : List (Addr × Obj)) (s : Shared) (Q : Flow → Shared → Prop),
    Below callerA h₀ [] h₀ → Fr h₀ L s.heap m → (hd.heap_39 w.params).In h₀ → News h₀ L s.heap news → Top hd.view_39 loose mean mg mb h₀ → Pre L m news →
    (∀ h tk m', Fr h₀ L h m' → Q (.ret (.bool true)) { s with heap := h, toks := tk }) →
    wpAny (model PySem.Challenge.rw_wn0102_01.row.toRowW.prog w) (callerA.deeper (lawEnv L a cd)) (execs (lawD.body.drop k) (lawEnv L a cd)) Q (fun _ _ => False) s
end Mine
end
noncomputable section
open PySem PySem.W PySem.Calls PyProof.Rows PyProof PyProof.Rows.LCg PyProof.Rows.LCt
set_option Elab.async false
set_option maxRecDepth 100000
set_option maxHeartbeats 8000000
namespace Mine
theorem offLawD : True := by
  w_top off
  trivial
theorem far_lt {L a : Addr} (h : L + 1 + 1 + 1 < a) : a ≠ L + 1 + 1 ∧ a ≠ L + 1 + 1 + 1 := ⟨Nat.ne_of_gt (Nat.lt_trans (Nat.lt_succ_self (L + 1 + 1)) h), Nat.ne_of_gt h⟩
structure CellsL (L : Addr) (news : List (Addr × Obj)) (rest : List (Addr × Obj)) (oLet oWit oScr : Obj) : Prop where
  eq : news = (L + 1 + 1 + 1, oLet) :: (L + 1 + 1, oWit) :: (L + 1, oScr) :: rest
  l : ∃ v, oLet.data = .cell v
  w : ∃ v, oWit.data = .cell v
  far : ∀ p ∈ rest, p.1 ≠ L + 1 + 1 ∧ p.1 ≠ L + 1 + 1 + 1
structure WDs where
  lt : Obj
  wi : Obj
  W : Addr
  vs : List Value
  nn : Nat
theorem any_T (ws : List (List Nat)) (z : List Nat) (k : Nat) : ((ws.map T).any fun x => x == T z ++ T [k]) = ws.contains (z ++ [k]) := by
  rw [T_app, List.any_map]
  induction ws with
  | nil => rfl
  | cons y ws ih =>
    rw [List.any_cons, List.contains_cons, ih]
    congr 1
    by_cases h : y = z ++ [k]
    · subst h; simp
    · have h1 : T y ≠ T (z ++ [k]) := fun q => h (T_inj q)
      have h2 : z ++ [k] ≠ y := fun q => h q.symm
      show (T y == T (z ++ [k])) = (z ++ [k] == y)
      rw [beq_eq_false_iff_ne.mpr h1, beq_eq_false_iff_ne.mpr h2]
theorem strs_append : ∀ {vs us : List Value} {a b : List Str}, StrsAre vs a → StrsAre us b → StrsAre (vs ++ us) (a ++ b)
  | _, _, _, _, .nil, h => h
  | _, _, _, _, .cons x t h1, h => .cons x t (strs_append h1 h)
theorem wd_in {a b c d e t : Addr × Obj} {l : List (Addr × Obj)} : ∀ p ∈ a :: b :: c :: d :: e :: l, p ∈ a :: b :: c :: d :: e :: (l ++ [t]) := fun p hp => by
  simp only [List.mem_cons, List.mem_append, List.not_mem_nil, or_false] at hp ⊢
  rcases hp with h | h | h | h | h | h <;> simp [h]
theorem wd_it {a b c d e t : Addr × Obj} {l : List (Addr × Obj)} : t ∈ a :: b :: c :: d :: e :: (l ++ [t]) := .tail _ (.tail _ (.tail _ (.tail _ (.tail _ (List.mem_append_right _ (.head _))))))
theorem wd_off {W W2 I d L1 L2 L3 : Addr} {a a' b c e f c' e' : Obj} {l : List (Addr × Obj)} (h : ∀ p ∈ (W, a) :: (d, b) :: (L3, c) :: (L2, e) :: (L1, f) :: l, p.1 ≠ I) (h2 : @LT.lt Nat _ I W2) : ∀ p ∈ (W2, a') :: (d, b) :: (L3, c') :: (L2, e') :: (L1, f) :: l, p.1 ≠ I := fun p hp => by
  simp only [List.mem_cons] at hp
  rcases hp with rfl | rfl | rfl | rfl | rfl | hp
  · exact Nat.ne_of_gt h2
  · exact h (d, b) (.tail _ (.head _))
  · exact h (L3, c) (.tail _ (.tail _ (.head _)))
  · exact h (L2, e) (.tail _ (.tail _ (.tail _ (.head _))))
  · exact h (L1, f) (.tail _ (.tail _ (.tail _ (.tail _ (.head _)))))
  · exact h p (.tail _ (.tail _ (.tail _ (.tail _ (.tail _ hp)))))
theorem end_eq {tot : Int} {lo x : List Nat} (h : tot = 0 ↔ lo ≠ x) : ((tot == 0) != (T lo != T x)) = false := by
  by_cases hx : lo = x
  · have h1 : tot ≠ 0 := fun q => (h.mp q) hx
    subst hx
    simp [h1]
  · have h1 : tot = 0 := h.mpr hx
    have h2 : T lo ≠ T x := fun q => hx (T_inj q)
    subst h1
    simp [h2]
theorem more_is (lo hi : List Nat) : 2 * (((T hi).length : Int) - ((T lo).length : Int)) = moreM lo hi := by rw [T_len, T_len]; rfl
theorem hit_eq {lo hi : List Nat} (h : (T lo == T hi) = true) : hitM lo hi = true := by
  have := T_true h
  unfold hitM; simp [this]
theorem hit_less {lo hi : List Nat} (h : (T lo == T hi) = false) (h2 : ¬ 0 < 2 * (((T hi).length : Int) - ((T lo).length : Int))) : hitM lo hi = false := by
  have h1 := T_false h
  rw [more_is] at h2
  unfold hitM; simp [h1, h2]
theorem hit_lev {lo hi : List Nat} (h : (T lo == T hi) = false) (h2 : 0 < 2 * (((T hi).length : Int) - ((T lo).length : Int))) (h3 : levM lo hi (2 * (((T hi).length : Int) - ((T lo).length : Int))) = 2 * (((T hi).length : Int) - ((T lo).length : Int))) : hitM lo hi = true := by
  rw [more_is] at h2 h3
  unfold hitM; simp [h2, h3]
theorem hit_far {lo hi : List Nat} (h : (T lo == T hi) = false) (h3 : levM lo hi (2 * (((T hi).length : Int) - ((T lo).length : Int))) ≠ 2 * (((T hi).length : Int) - ((T lo).length : Int))) : hitM lo hi = false := by
  have h1 := T_false h
  rw [more_is] at h3
  unfold hitM; simp [h1, h3]
theorem we_in {a b c d e t : Addr × Obj} {l : List (Addr × Obj)} : ∀ p ∈ a :: b :: c :: d :: e :: l, p ∈ a :: b :: c :: d :: e :: l ++ [t] := fun p hp => List.mem_append_left _ hp
theorem we_it {a b c d e t : Addr × Obj} {l : List (Addr × Obj)} : t ∈ a :: b :: c :: d :: e :: l ++ [t] := List.mem_append_right _ (.head _)
noncomputable def PreD (x : List Nat) (ps : List (List Nat)) (L : Addr) (m : Str → Option Value) (news : List (Addr × Obj)) : Prop :=
  OkD x ps ∧ (∃ rest oLet oWit oScr D vs nn, CellsL L news rest oLet oWit oScr ∧ m (Str.ofString "pieces") = some (.ref D) ∧ (D, listOf vs.toArray nn) ∈ rest ∧ StrsAre vs (ps.map T)) ∧ ∃ t, m (Str.ofString "word") = some (.str (T x) t)
theorem cl_w {L : Addr} {o : Obj} {rest : List (Addr × Obj)} (far : ∀ p ∈ rest, p.1 ≠ L + 1 + 1 ∧ p.1 ≠ L + 1 + 1 + 1) : ∀ p ∈ (L + 1, o) :: rest, p.1 ≠ L + 1 + 1 := fun p hp => (List.mem_cons.mp hp).elim (fun e => by rw [e]; exact Nat.ne_of_lt (Nat.lt_succ_self (L + 1))) fun h => (far p h).1
theorem cl_l {L : Addr} {o o' : Obj} {rest : List (Addr × Obj)} (far : ∀ p ∈ rest, p.1 ≠ L + 1 + 1 ∧ p.1 ≠ L + 1 + 1 + 1) : ∀ p ∈ (L + 1 + 1, o) :: (L + 1, o') :: rest, p.1 ≠ L + 1 + 1 + 1 := fun p hp => (List.mem_cons.mp hp).elim (fun e => by rw [e]; exact Nat.ne_of_lt (Nat.lt_succ_self (L + 1 + 1))) fun hp => (List.mem_cons.mp hp).elim (fun e => by rw [e]; exact Nat.ne_of_lt (Nat.lt_trans (Nat.lt_succ_self (L + 1)) (Nat.lt_succ_self (L + 1 + 1)))) fun h => (far p h).2
theorem no_sys {L d : Addr} (h : L + 1 + 1 + 1 < d) : (d == sysModules) = false := by
  simp only [sysModules, beq_eq_false_iff_ne]
  intro e
  rw [e] at h
  exact Nat.not_lt_of_le (Nat.le_add_left 1 (L + 1 + 1)) h
local macro_rules | `(tactic| k_all) => `(tactic| first | assumption | exact cl_w (by assumption) | exact cl_l (by assumption))
theorem lawD_blk (w : World) (x : List Nat) (ps : List (List Nat)) : LawBlk w 12 (PreD x ps) := by
  unfold LawBlk
  k_fill
  rintro loose mean mg mb a cd h₀ L m news s Q B F X N TT ⟨ok, ⟨rest, oLet, oWit, oScr, D, vs, nn, ⟨rfl, ⟨vl, hl⟩, ⟨vw, hw⟩, far⟩, hmp, hD, hvs⟩, tw, hmw⟩ hret
  have hlen := ok.len
  have hp3 := ok.p3
  unfold lawEnv lawD recOf
  dsimp only [List.drop]
  obtain ⟨um, F0⟩ := fr_known [(Str.ofString "pieces", .ref D), (Str.ofString "word", .str (T x) tw)] (by intro p hp; simp only [List.mem_cons, List.not_mem_nil, or_false] at hp; rcases hp with rfl | rfl; exact hmp; exact hmw) F
  clear F
  (repeat' ((fail_if_success (with_reducible show wpAny _ _ (exec (Stmt.For _ _ _ _ _) _) _ _ _)); (fail_if_success (with_reducible show wpAny _ _ (exec (Stmt.While _ _ _ _) _) _ _ _)); (fail_if_success (with_reducible show wpAny _ _ (pyIter _) (fun it s₂ => LoopAtV _ _ _ _ _ _ _ _ _ it s₂) _ _)); (fail_if_success (with_reducible show wpAny _ _ (call (Value.ref 103) _) _ _ _)); (fail_if_success (with_reducible show wpAny _ _ (call (Value.ref 28) _) _ _ _)); (fail_if_success (with_reducible show At _ _ _ _ _ _ _ _ _)); (fail_if_success (with_reducible show WPost _ _ _ _ _)); (fail_if_success (with_reducible show wpAny _ _ (eval (Expr.ListComp _ _ _ _) _) _ _ _)); (fail_if_success (with_reducible show AtI _ _ _ _ _ _ _ _ _ _ _)); first | (k_unfold; (try dsimp only)) | ((with_reducible refine wpAny_execs_cons ?_); (try dsimp only)) | walk1 | (dsimp only; walk1)))
  k_dflt (refine' ConN.use (worth_con w D vs nn ps hvs hlen hp3) ?B ?F ?X ?N ?T ?hk ?dp ?un ?pre ?_; (case B => k_asm); (case F => k_asm); (case X => k_asm); (case N => k_asm); (case T => k_asm); (case hk => rfl); (case dp => ktr_room); (case un => ktr_units); (case pre => exact .tail _ (.tail _ (.tail _ hD))))
  rintro r tl h1 tk1 F1 N1 o1 ⟨d, od, kvs, rfl, rfl, hd1, hf1⟩
  (try dsimp only)
  clear F0 N
  simp only [List.cons_append, List.nil_append] at N1
  have hdL : @LT.lt Nat _ (L + 1 + 1 + 1) d := o1 (L + 1 + 1 + 1, oLet) (.head _) (d, od) (.head _)
  have hdy := no_sys hdL
  (repeat' ((fail_if_success (with_reducible show wpAny _ _ (exec (Stmt.For _ _ _ _ _) _) _ _ _)); (fail_if_success (with_reducible show wpAny _ _ (exec (Stmt.While _ _ _ _) _) _ _ _)); (fail_if_success (with_reducible show wpAny _ _ (pyIter _) (fun it s₂ => LoopAtV _ _ _ _ _ _ _ _ _ it s₂) _ _)); (fail_if_success (with_reducible show wpAny _ _ (call (Value.ref 103) _) _ _ _)); (fail_if_success (with_reducible show wpAny _ _ (call (Value.ref 28) _) _ _ _)); (fail_if_success (with_reducible show At _ _ _ _ _ _ _ _ _)); (fail_if_success (with_reducible show WPost _ _ _ _ _)); (fail_if_success (with_reducible show wpAny _ _ (eval (Expr.ListComp _ _ _ _) _) _ _ _)); (fail_if_success (with_reducible show AtI _ _ _ _ _ _ _ _ _ _ _)); first | (k_unfold; (try dsimp only)) | ((with_reducible refine wpAny_execs_cons ?_); (try dsimp only)) | walk1 | (dsimp only; walk1)))
  rename Fr h₀ _ _ _ => F2
  rename News h₀ _ _ _ => N2
  rename _ ∧ _ ∧ _ ∧ _ ∧ AllLt _ _ => hall
  rename_i W0 _ oW0 hW0
  have hsz : (T x).cps.size = x.length := by simp [T]
  refine strC_at (σ := WDs) (xs := T x) (t := tw) (fun c => (c.W, listOf c.vs.toArray c.nn) :: (d, od) :: (L + 1 + 1 + 1, c.lt) :: (L + 1 + 1, c.wi) :: (L + 1, oScr) :: rest) (fun _ => []) []
    (fun i c => (∃ v, c.lt.data = .cell v) ∧ c.wi.data = .cell (some (.ref c.W)) ∧ StrsAre c.vs ((withinP x i).map T) ∧ @LT.lt Nat _ d c.W)
    (fun c => (∃ v, c.lt.data = .cell v) ∧ c.wi.data = .cell (some (.ref c.W)) ∧ StrsAre c.vs ((withinM x).map T) ∧ @LT.lt Nat _ d c.W)
    ⟨oLet, oW0, _, [_], 0⟩ ?hev rfl F2 N2 ?hk1 ?hp1 ?hD1 ?turn1 ?done1 ?hE1
  case hev =>
    intro Q' hq
    (repeat' ((fail_if_success (with_reducible show wpAny _ _ (exec (Stmt.For _ _ _ _ _) _) _ _ _)); (fail_if_success (with_reducible show wpAny _ _ (exec (Stmt.While _ _ _ _) _) _ _ _)); (fail_if_success (with_reducible show wpAny _ _ (pyIter _) (fun it s₂ => LoopAtV _ _ _ _ _ _ _ _ _ it s₂) _ _)); (fail_if_success (with_reducible show wpAny _ _ (call (Value.ref 103) _) _ _ _)); (fail_if_success (with_reducible show wpAny _ _ (call (Value.ref 28) _) _ _ _)); (fail_if_success (with_reducible show At _ _ _ _ _ _ _ _ _)); (fail_if_success (with_reducible show WPost _ _ _ _ _)); (fail_if_success (with_reducible show wpAny _ _ (eval (Expr.ListComp _ _ _ _) _) _ _ _)); (fail_if_success (with_reducible show AtI _ _ _ _ _ _ _ _ _ _ _)); first | (k_unfold; (try dsimp only)) | ((with_reducible refine wpAny_execs_cons ?_); (try dsimp only)) | walk1 | (dsimp only; walk1)))
    exact hq
  case hk1 => intro _ h; cases h
  case hp1 =>
    refine ⟨⟨_, hl⟩, hW0, ?_, hall.1⟩
    exact StrsAre.cons (T []) _ .nil
  case hD1 =>
    rintro c ⟨h1, h2, h3, h4⟩
    rw [hsz, withinP_full] at h3
    exact ⟨h1, h2, h3, h4⟩
  case hE1 => passes_own
  case done1 =>
    clear F2 N2 hW0 hall
    rintro ⟨lt, wi, W, vs2, nn2⟩ u2 h2 tk2 ⟨⟨vl2, hl2⟩, hw2, hvs2, hdW⟩ F2 N2
    dsimp only at hl2 hw2 hvs2 hdW F2 N2
    (repeat' ((fail_if_success (with_reducible show wpAny _ _ (exec (Stmt.For _ _ _ _ _) _) _ _ _)); (fail_if_success (with_reducible show wpAny _ _ (exec (Stmt.While _ _ _ _) _) _ _ _)); (fail_if_success (with_reducible show wpAny _ _ (pyIter _) (fun it s₂ => LoopAtV _ _ _ _ _ _ _ _ _ it s₂) _ _)); (fail_if_success (with_reducible show wpAny _ _ (call (Value.ref 103) _) _ _ _)); (fail_if_success (with_reducible show wpAny _ _ (call (Value.ref 28) _) _ _ _)); (fail_if_success (with_reducible show At _ _ _ _ _ _ _ _ _)); (fail_if_success (with_reducible show WPost _ _ _ _ _)); (fail_if_success (with_reducible show wpAny _ _ (eval (Expr.ListComp _ _ _ _) _) _ _ _)); (fail_if_success (with_reducible show AtI _ _ _ _ _ _ _ _ _ _ _)); first | (k_unfold; (try dsimp only)) | ((with_reducible refine wpAny_execs_cons ?_); (try dsimp only)) | walk1 | (dsimp only; walk1)))
    refine For_invV h₀ (by rfl) (by rfl) ?_
    (repeat' ((fail_if_success (with_reducible show wpAny _ _ (exec (Stmt.For _ _ _ _ _) _) _ _ _)); (fail_if_success (with_reducible show wpAny _ _ (exec (Stmt.While _ _ _ _) _) _ _ _)); (fail_if_success (with_reducible show wpAny _ _ (pyIter _) (fun it s₂ => LoopAtV _ _ _ _ _ _ _ _ _ it s₂) _ _)); (fail_if_success (with_reducible show wpAny _ _ (call (Value.ref 103) _) _ _ _)); (fail_if_success (with_reducible show wpAny _ _ (call (Value.ref 28) _) _ _ _)); (fail_if_success (with_reducible show At _ _ _ _ _ _ _ _ _)); (fail_if_success (with_reducible show WPost _ _ _ _ _)); (fail_if_success (with_reducible show wpAny _ _ (eval (Expr.ListComp _ _ _ _) _) _ _ _)); (fail_if_success (with_reducible show AtI _ _ _ _ _ _ _ _ _ _ _)); first | (k_unfold; (try dsimp only)) | ((with_reducible refine wpAny_execs_cons ?_); (try dsimp only)) | walk1 | (dsimp only; walk1)))
    refine list_at (σ := Unit) (vs := vs2) (nn := nn2) (fun _ => (W, listOf vs2.toArray nn2) :: (d, od) :: (L + 1 + 1 + 1, lt) :: (L + 1 + 1, wi) :: (L + 1, oScr) :: rest) (fun _ => []) [Str.ofString "low", Str.ofString "total", Str.ofString "high", Str.ofString "more"] rfl (fun _ _ => True) (fun _ => True) () rfl (fun _ => .head _) F2 N2 ?hk2 trivial (fun _ _ => trivial) ?turn2 ?done2
    case hk2 => intro _ h; cases h
    case done2 =>
      clear F2 N2
      rintro - u3 h3 tk3 - F3 N3
      (repeat' ((fail_if_success (with_reducible show wpAny _ _ (exec (Stmt.For _ _ _ _ _) _) _ _ _)); (fail_if_success (with_reducible show wpAny _ _ (exec (Stmt.While _ _ _ _) _) _ _ _)); (fail_if_success (with_reducible show wpAny _ _ (pyIter _) (fun it s₂ => LoopAtV _ _ _ _ _ _ _ _ _ it s₂) _ _)); (fail_if_success (with_reducible show wpAny _ _ (call (Value.ref 103) _) _ _ _)); (fail_if_success (with_reducible show wpAny _ _ (call (Value.ref 28) _) _ _ _)); (fail_if_success (with_reducible show At _ _ _ _ _ _ _ _ _)); (fail_if_success (with_reducible show WPost _ _ _ _ _)); (fail_if_success (with_reducible show wpAny _ _ (eval (Expr.ListComp _ _ _ _) _) _ _ _)); (fail_if_success (with_reducible show AtI _ _ _ _ _ _ _ _ _ _ _)); first | (k_unfold; (try dsimp only)) | ((with_reducible refine wpAny_execs_cons ?_); (try dsimp only)) | walk1 | (dsimp only; walk1)))
      exact hret _ _ _ F3
    case turn2 =>
      clear F2 N2
      rintro i - v u3 h3 tk3 I oI hi hv - hI1 hI2 F3 N3
      obtain ⟨lo, tlo, hlo, rfl⟩ := strs_get hvs2 hv
      (repeat' ((fail_if_success (with_reducible show wpAny _ _ (exec (Stmt.For _ _ _ _ _) _) _ _ _)); (fail_if_success (with_reducible show wpAny _ _ (exec (Stmt.While _ _ _ _) _) _ _ _)); (fail_if_success (with_reducible show wpAny _ _ (pyIter _) (fun it s₂ => LoopAtV _ _ _ _ _ _ _ _ _ it s₂) _ _)); (fail_if_success (with_reducible show wpAny _ _ (call (Value.ref 103) _) _ _ _)); (fail_if_success (with_reducible show wpAny _ _ (call (Value.ref 28) _) _ _ _)); (fail_if_success (with_reducible show At _ _ _ _ _ _ _ _ _)); (fail_if_success (with_reducible show WPost _ _ _ _ _)); (fail_if_success (with_reducible show wpAny _ _ (eval (Expr.ListComp _ _ _ _) _) _ _ _)); (fail_if_success (with_reducible show AtI _ _ _ _ _ _ _ _ _ _ _)); first | (k_unfold; (try dsimp only)) | ((with_reducible refine wpAny_execs_cons ?_); (try dsimp only)) | walk1 | (dsimp only; walk1)))
      clear F3 N3
      rename Fr h₀ _ _ _ => F3
      rename News h₀ _ _ _ => N3
      have hlom : lo ∈ withinM x := List.mem_of_getElem? hlo
      have hlo4 := within_mem hlom ok.x4
      have hlol : ∀ k ∈ lo, Low k := fun k hk => ok.xs k (hlo4.2 k hk)
      have hlot := T_len lo
      have hkeys := ok.keys
      refine For_invV h₀ (by rfl) (by rfl) ?_
      (repeat' ((fail_if_success (with_reducible show wpAny _ _ (exec (Stmt.For _ _ _ _ _) _) _ _ _)); (fail_if_success (with_reducible show wpAny _ _ (exec (Stmt.While _ _ _ _) _) _ _ _)); (fail_if_success (with_reducible show wpAny _ _ (pyIter _) (fun it s₂ => LoopAtV _ _ _ _ _ _ _ _ _ it s₂) _ _)); (fail_if_success (with_reducible show wpAny _ _ (call (Value.ref 103) _) _ _ _)); (fail_if_success (with_reducible show wpAny _ _ (call (Value.ref 28) _) _ _ _)); (fail_if_success (with_reducible show At _ _ _ _ _ _ _ _ _)); (fail_if_success (with_reducible show WPost _ _ _ _ _)); (fail_if_success (with_reducible show wpAny _ _ (eval (Expr.ListComp _ _ _ _) _) _ _ _)); (fail_if_success (with_reducible show AtI _ _ _ _ _ _ _ _ _ _ _)); first | (k_unfold; (try dsimp only)) | ((with_reducible refine wpAny_execs_cons ?_); (try dsimp only)) | walk1 | (dsimp only; walk1)))
      refine' dict_at (σ := Int × Tok) (knd := PySem.strKind wprog w) (d := d) (o := od) (kvs := kvs) (fun _ => ((W, listOf vs2.toArray nn2) :: (d, od) :: (L + 1 + 1 + 1, lt) :: (L + 1 + 1, wi) :: (L + 1, oScr) :: (rest ++ [(I, oI)]))) (fun c => [(Str.ofString "total", .int c.1 c.2)]) [Str.ofString "total", Str.ofString "high", Str.ofString "more"] rfl
        (fun j c => c.1 = totalM (worthM ps) lo j) (fun c => c.1 = totalM (worthM ps) lo (worthM ps).length) (0, _) rfl hdy (fun _ => .tail _ (.head _)) hd1 F3 N3 ?hk3 rfl ?hD3 ?turn3 ?done3
      case hk3 => kst_all
      case hD3 =>
        intro c h
        rw [flat_len hf1] at h
        exact h
      case done3 =>
        clear F3 N3
        rintro ⟨tot, ttk⟩ u4 h4 tk4 ht F4 N4
        dsimp only at ht F4 N4
        (repeat' ((fail_if_success (with_reducible show wpAny _ _ (exec (Stmt.For _ _ _ _ _) _) _ _ _)); (fail_if_success (with_reducible show wpAny _ _ (exec (Stmt.While _ _ _ _) _) _ _ _)); (fail_if_success (with_reducible show wpAny _ _ (pyIter _) (fun it s₂ => LoopAtV _ _ _ _ _ _ _ _ _ it s₂) _ _)); (fail_if_success (with_reducible show wpAny _ _ (call (Value.ref 103) _) _ _ _)); (fail_if_success (with_reducible show wpAny _ _ (call (Value.ref 28) _) _ _ _)); (fail_if_success (with_reducible show At _ _ _ _ _ _ _ _ _)); (fail_if_success (with_reducible show WPost _ _ _ _ _)); (fail_if_success (with_reducible show wpAny _ _ (eval (Expr.ListComp _ _ _ _) _) _ _ _)); (fail_if_success (with_reducible show AtI _ _ _ _ _ _ _ _ _ _ _)); first | (k_unfold; (try dsimp only)) | ((with_reducible refine wpAny_execs_cons ?_); (try dsimp only)) | walk1 | (dsimp only; walk1)))
        · rename ((_ == _) != _) = true => hq
          rw [ht, end_eq (ok.tot lo hlom)] at hq
          cases hq
        · dsimp only [WPost]
          rename Fr h₀ _ _ _ => F5
          rename News h₀ _ _ _ => N5
          refine AtI.intro () F5 N5 wd_in wd_it hI2 ?hkY (by ((intro z hz; (simp only [List.contains_cons, List.contains_nil, Bool.or_false, Bool.or_eq_false_iff, beq_eq_false_iff_ne, ne_eq] at hz); (simp [hz, kstB]; done)))) trivial
          case hkY => intro _ h; cases h
      case turn3 =>
        clear F3 N3
        rintro j ⟨tot, ttk⟩ v k y u4 h4 tk4 J oJ hj hkv hkis ht hJ1 hJ2 F4 N4
        dsimp only at ht F4 N4
        obtain ⟨tv, rfl⟩ := Value.isStrOf_shape hkis
        obtain ⟨e, he, rfl⟩ := flat_at hf1 hkv
        have hhas := has_at he
        have hke := hkeys e (List.mem_of_getElem? he)
        have het := T_len e.1
        (repeat' ((fail_if_success (with_reducible show wpAny _ _ (exec (Stmt.For _ _ _ _ _) _) _ _ _)); (fail_if_success (with_reducible show wpAny _ _ (exec (Stmt.While _ _ _ _) _) _ _ _)); (fail_if_success (with_reducible show wpAny _ _ (pyIter _) (fun it s₂ => LoopAtV _ _ _ _ _ _ _ _ _ it s₂) _ _)); (fail_if_success (with_reducible show wpAny _ _ (call (Value.ref 103) _) _ _ _)); (fail_if_success (with_reducible show wpAny _ _ (call (Value.ref 28) _) _ _ _)); (fail_if_success (with_reducible show At _ _ _ _ _ _ _ _ _)); (fail_if_success (with_reducible show WPost _ _ _ _ _)); (fail_if_success (with_reducible show wpAny _ _ (eval (Expr.ListComp _ _ _ _) _) _ _ _)); (fail_if_success (with_reducible show AtI _ _ _ _ _ _ _ _ _ _ _)); first | (k_unfold; (try dsimp only)) | ((with_reducible refine wpAny_execs_cons ?_); (try dsimp only)) | walk1 | (dsimp only; walk1)))
        · rename (T lo == T e.1) = true => hq
          dsimp only [WPost]
          rename Fr h₀ _ _ _ => F5
          rename News h₀ _ _ _ => N5
          refine AtI.intro (?iA, ?tA) F5 N5 we_in we_it hJ2 ?hkA (by ((intro z hz; (simp only [List.contains_cons, List.contains_nil, Bool.or_false, Bool.or_eq_false_iff, beq_eq_false_iff_ne, ne_eq] at hz); (simp [hz, kstB]; done)))) ?hpA
          case hkA => kst_all
          case hpA => dsimp only; rw [total_succ he, if_pos (hit_eq hq), ht, kd_look]
        · rename (T lo == T e.1) = false => hq
          rename 0 < _ => hq2
          rename Fr h₀ _ _ _ => F5
          rename News h₀ _ _ _ => N5
          k_dflt (refine' Con.use (lev_con w lo e.1 _ _ _ _ hlo4.1 hke.1 hlol hke.2) ?B ?F ?X ?N ?T ?hk ?dp ?un ?_; (case B => k_asm); (case F => k_asm); (case X => k_asm); (case N => k_asm); (case T => k_asm); (case hk => rfl); (case dp => ktr_room); (case un => ktr_units))
          rintro r tl h5 tk5 F6 N6 o6 ⟨rfl, t6, rfl⟩
          clear F5 N5
          simp only [List.nil_append] at N6
          (try dsimp only)
          (repeat' ((fail_if_success (with_reducible show wpAny _ _ (exec (Stmt.For _ _ _ _ _) _) _ _ _)); (fail_if_success (with_reducible show wpAny _ _ (exec (Stmt.While _ _ _ _) _) _ _ _)); (fail_if_success (with_reducible show wpAny _ _ (pyIter _) (fun it s₂ => LoopAtV _ _ _ _ _ _ _ _ _ it s₂) _ _)); (fail_if_success (with_reducible show wpAny _ _ (call (Value.ref 103) _) _ _ _)); (fail_if_success (with_reducible show wpAny _ _ (call (Value.ref 28) _) _ _ _)); (fail_if_success (with_reducible show At _ _ _ _ _ _ _ _ _)); (fail_if_success (with_reducible show WPost _ _ _ _ _)); (fail_if_success (with_reducible show wpAny _ _ (eval (Expr.ListComp _ _ _ _) _) _ _ _)); (fail_if_success (with_reducible show AtI _ _ _ _ _ _ _ _ _ _ _)); first | (k_unfold; (try dsimp only)) | ((with_reducible refine wpAny_execs_cons ?_); (try dsimp only)) | walk1 | (dsimp only; walk1)))
          · rename levM _ _ _ = _ => hq3
            dsimp only [WPost]
            rename Fr h₀ _ _ _ => F7
            rename News h₀ _ _ _ => N7
            refine AtI.intro (?iC, ?tC) F7 N7 we_in we_it hJ2 ?hkC (by ((intro z hz; (simp only [List.contains_cons, List.contains_nil, Bool.or_false, Bool.or_eq_false_iff, beq_eq_false_iff_ne, ne_eq] at hz); (simp [hz, kstB]; done)))) ?hpC
            case hkC => kst_all
            case hpC => dsimp only; rw [total_succ he, if_pos (hit_lev hq hq2 hq3), ht, kd_look]
          · rename levM _ _ _ ≠ _ => hq3
            dsimp only [WPost]
            rename Fr h₀ _ _ _ => F7
            rename News h₀ _ _ _ => N7
            refine AtI.intro (?iD, ?tD) F7 N7 we_in we_it hJ2 ?hkD (by ((intro z hz; (simp only [List.contains_cons, List.contains_nil, Bool.or_false, Bool.or_eq_false_iff, beq_eq_false_iff_ne, ne_eq] at hz); (simp [hz, kstB]; done)))) ?hpD
            case hkD => kst_all
            case hpD => dsimp only; rw [total_succ he, if_neg (by rw [hit_far hq hq3]; decide), ht]
        · rename (T lo == T e.1) = false => hq
          rename ¬ 0 < _ => hq2
          dsimp only [WPost]
          rename Fr h₀ _ _ _ => F5
          rename News h₀ _ _ _ => N5
          refine AtI.intro (?iB, ?tB) F5 N5 we_in we_it hJ2 ?hkB (by ((intro z hz; (simp only [List.contains_cons, List.contains_nil, Bool.or_false, Bool.or_eq_false_iff, beq_eq_false_iff_ne, ne_eq] at hz); (simp [hz, kstB]; done)))) ?hpB
          case hkB => kst_all
          case hpB => dsimp only; rw [total_succ he, if_neg (by rw [hit_less hq hq2]; decide), ht]
  case turn1 =>
    clear F2 N2 hW0 hall
    rintro i ⟨lt, wi, W, vs2, nn2⟩ k tc u2 h2 tk2 I oI hi hk ⟨⟨vl2, hl2⟩, hw2, hvs2, hdW⟩ hI1 hI2 F2 N2
    dsimp only at hl2 hw2 hvs2 hdW hI2 F2 N2
    rw [hsz] at hi
    have hk' : x[i]? = some k := by simpa [T] using hk
    have hdI : @LT.lt Nat _ d I := hI1 (d, od) (.tail _ (.head _))
    have hlI : @LT.lt Nat _ (L + 1 + 1 + 1) I := hI1 (L + 1 + 1 + 1, oLet) (.tail _ (.tail _ (.head _)))
    have hWI : @Ne Nat W I := hI2 (W, _) (.head _)
    have far2 : ∀ p ∈ rest ++ [(I, oI)], p.1 ≠ L + 1 + 1 ∧ p.1 ≠ L + 1 + 1 + 1 := fun p hp => (List.mem_append.mp hp).elim (far p) fun h => by rw [List.mem_singleton.mp h]; exact far_lt hlI
    simp only [List.cons_append] at N2
    rw [show (⟨#[k]⟩ : Str) = T [k] from rfl]
    have hlk : (T [k]).length = 1 := T_len _
    have hx4 := ok.x4
    (repeat' ((fail_if_success (with_reducible show wpAny _ _ (exec (Stmt.For _ _ _ _ _) _) _ _ _)); (fail_if_success (with_reducible show wpAny _ _ (exec (Stmt.While _ _ _ _) _) _ _ _)); (fail_if_success (with_reducible show wpAny _ _ (pyIter _) (fun it s₂ => LoopAtV _ _ _ _ _ _ _ _ _ it s₂) _ _)); (fail_if_success (with_reducible show wpAny _ _ (call (Value.ref 103) _) _ _ _)); (fail_if_success (with_reducible show wpAny _ _ (call (Value.ref 28) _) _ _ _)); (fail_if_success (with_reducible show At _ _ _ _ _ _ _ _ _)); (fail_if_success (with_reducible show WPost _ _ _ _ _)); (fail_if_success (with_reducible show wpAny _ _ (eval (Expr.ListComp _ _ _ _) _) _ _ _)); (fail_if_success (with_reducible show AtI _ _ _ _ _ _ _ _ _ _ _)); first | (k_unfold; (try dsimp only)) | ((with_reducible refine wpAny_execs_cons ?_); (try dsimp only)) | walk1 | (dsimp only; walk1)))
    rename Fr h₀ _ _ _ => F3
    rename News h₀ _ _ _ => N3
    rename Obj.data _ = Data.cell (some (Value.str _ _)) => hL3
    have hbw := withinP_len x i (by have := ok.x4; omega)
    have hln := hvs2.length
    rw [List.length_map] at hln
    refine ListComp_T F3 (by with_unfolding_all rfl) (by decide) (by rfl) (by decide) (by rfl) ?_
    refine nameX_C N3 (c := L + 1 + 1) (o := wi) (by rfl) (by k_mem) hw2 ?_
    refine CompSrcT.ledger (by rfl) F3 N3 (.head _) (by rw [List.size_toArray]; exact Nat.le_trans (by omega : vs2.length ≤ 16) (Nat.le_of_ble_eq_true rfl)) ?_
    intro g9
    refine cst_rest (growS (withinP x i) k) hvs2 ?turnC ?finC
    case turnC =>
      rintro z tz J oJ C oC E9 m9 ys l h9 tk9 E' hz hys hC hx9 F4 N4 off ne
      have hzl := (withinP_mem x i z hz).1
      have hzt := T_len z
      clear F2 N2 F3 N3 hI1 hI2
      (repeat' ((fail_if_success (with_reducible show wpAny _ _ (exec (Stmt.For _ _ _ _ _) _) _ _ _)); (fail_if_success (with_reducible show wpAny _ _ (exec (Stmt.While _ _ _ _) _) _ _ _)); (fail_if_success (with_reducible show wpAny _ _ (pyIter _) (fun it s₂ => LoopAtV _ _ _ _ _ _ _ _ _ it s₂) _ _)); (fail_if_success (with_reducible show wpAny _ _ (call (Value.ref 103) _) _ _ _)); (fail_if_success (with_reducible show wpAny _ _ (call (Value.ref 28) _) _ _ _)); (fail_if_success (with_reducible show At _ _ _ _ _ _ _ _ _)); (fail_if_success (with_reducible show WPost _ _ _ _ _)); (fail_if_success (with_reducible show wpAny _ _ (eval (Expr.ListComp _ _ _ _) _) _ _ _)); (fail_if_success (with_reducible show AtI _ _ _ _ _ _ _ _ _ _ _)); first | (k_unfold; (try dsimp only)) | ((with_reducible refine wpAny_execs_cons ?_); (try dsimp only)) | walk1 | (dsimp only; walk1)))
      · rename List.any _ _ = true => hq
        rw [any_T] at hq
        refine CompEnd.intro (by assumption) (by assumption) _ (fun _ h => h) off (.inr ⟨_, .head _, rfl, _, rfl⟩) ⟨rfl, ?_⟩
        unfold growS; rw [if_pos hq]
      · rename List.any _ _ = false => hq
        rw [any_T] at hq
        refine CompEnd.intro (by assumption) (by assumption) _ (fun _ h => h) off (.inr ⟨_, .head _, rfl, _, rfl⟩) ⟨rfl, z ++ [k], _, by rw [T_app], ?_⟩
        unfold growS; rw [if_neg (by rw [hq]; decide)]
    case finC =>
      intro ys hys D9 h9 tk9 F4 N4 off9
      clear F2 N2 F3 N3 hI1
      dsimp only
      have hgl := growS_len (ws := withinP x i) (c := k) (zs := withinP x i) (l := [])
      simp only [List.length_nil] at hgl
      have hyl := hys.length
      rw [List.length_map] at hyl
      refine add_lists F4 N4 ⟨_, (N4 _ (.tail _ (.head _))).1, rfl, _, rfl⟩ ⟨_, (N4 _ (.head _)).1, rfl, _, rfl⟩ (fun h5 F5 N5 => ?_) (Nat.le_trans (by omega : vs2.length + ys.length ≤ 64) (Nat.le_of_ble_eq_true rfl))
      have lt5 : ∀ p ∈ (D9, lst ys) :: (W, PySem.W.listOf vs2.toArray nn2) :: (d, od) :: (L + 1 + 1 + 1, _) :: (L + 1 + 1, wi) :: (L + 1, oScr) :: (rest ++ [(I, oI)]), p.1 < h9.objs.size := fun p hp => Heap.lt_size (N4 p hp).1
      replace N5 : News h₀ L h5 ((h9.objs.size, listOf (vs2 ++ ys).toArray 0) :: (d, od) :: (L + 1 + 1 + 1, _) :: (L + 1 + 1, wi) :: (L + 1, oScr) :: (rest ++ [(I, oI)])) := fun p hp => N5 p ((List.mem_cons.mp hp).elim (fun e => e ▸ .head _) fun h => .tail _ (.tail _ (.tail _ h)))
      have hd5 : @LT.lt Nat _ d h9.objs.size := lt5 (d, od) (.tail _ (.tail _ (.head _)))
      have hI5 : @LT.lt Nat _ I h9.objs.size := lt5 (I, oI) (.tail _ (.tail _ (.tail _ (.tail _ (.tail _ (.tail _ (List.mem_append_right _ (.head _))))))))
      clear F4 N4 lt5 off9
      dsimp only
      generalize h9.objs.size = W2 at *
      (repeat' ((fail_if_success (with_reducible show wpAny _ _ (exec (Stmt.For _ _ _ _ _) _) _ _ _)); (fail_if_success (with_reducible show wpAny _ _ (exec (Stmt.While _ _ _ _) _) _ _ _)); (fail_if_success (with_reducible show wpAny _ _ (pyIter _) (fun it s₂ => LoopAtV _ _ _ _ _ _ _ _ _ it s₂) _ _)); (fail_if_success (with_reducible show wpAny _ _ (call (Value.ref 103) _) _ _ _)); (fail_if_success (with_reducible show wpAny _ _ (call (Value.ref 28) _) _ _ _)); (fail_if_success (with_reducible show At _ _ _ _ _ _ _ _ _)); (fail_if_success (with_reducible show WPost _ _ _ _ _)); (fail_if_success (with_reducible show wpAny _ _ (eval (Expr.ListComp _ _ _ _) _) _ _ _)); (fail_if_success (with_reducible show AtI _ _ _ _ _ _ _ _ _ _ _)); first | (k_unfold; (try dsimp only)) | ((with_reducible refine wpAny_execs_cons ?_); (try dsimp only)) | walk1 | (dsimp only; walk1)))
      rename Obj.data _ = Data.cell (some (Value.ref W2)) => hW5
      rename_i F6 N6
      dsimp only [WPost]
      refine AtI.intro ⟨_, _, W2, vs2 ++ ys, 0⟩ F6 N6 wd_in wd_it (wd_off hI2 hI5) ?hkZ (by ((intro z hz; (simp only [List.contains_cons, List.contains_nil, Bool.or_false, Bool.or_eq_false_iff, beq_eq_false_iff_ne, ne_eq] at hz); (simp [hz, kstB]; done)))) ⟨⟨_, hL3⟩, hW5, ?hpZ, hd5⟩
      case hkZ => intro _ h; cases h
      case hpZ =>
        rw [withinP_succ hk', grow, List.map_append]
        exact strs_append hvs2 hys
end Mine
end
noncomputable section
open PySem PySem.W PySem.Calls PyProof.Rows PyProof PyProof.Rows.LCg PyProof.Rows.LCt
set_option Elab.async false
set_option maxRecDepth 100000
set_option maxHeartbeats 8000000
namespace Mine
theorem offLawC : True := by
  w_top off
  trivial
noncomputable def tens : List (List Nat) := [[42], [47], [60], [62], [34], [42, 42], [47, 47], [60, 60], [62, 62], [34, 34]]
noncomputable def tokM (z : List Nat) : Int := if z = [42] then 16 else if z = [47] then 17 else if z = [60] then 20 else if z = [62] then 21 else if z = [42, 42] then 35 else if z = [47, 47] then 47 else if z = [60, 60] then 33 else if z = [62, 62] then 34 else 0
theorem strOk_ten : ∀ p ∈ tens, PyData.strOk (T p) = true := by decide +kernel
theorem flat_cast {v : Value} {d d' : PyData} (h : V.Flat v d) (e : d = d') : V.Flat v d' := e ▸ h
structure OkC (x : List Nat) (rs : List (List Nat)) (ys : List Int) : Prop where
  cut : pieces (x.length + 1) x = rs
  tok : rs.map tokM = ys
  ten : ∀ p ∈ rs, p ∈ tens
  sig : ∀ c ∈ x, c ∈ [42, 47, 60, 62, 34]
  d : OkD x rs
noncomputable def PreC (x : List Nat) (rs : List (List Nat)) (ys : List Int) (L : Addr) (m : Str → Option Value) (news : List (Addr × Obj)) : Prop :=
  OkC x rs ys ∧ (∃ rest oLet oWit oScr R vr nr S vy ny, CellsL L news rest oLet oWit oScr ∧ m (Str.ofString "runs") = some (.ref R) ∧ (R, listOf vr.toArray nr) ∈ rest ∧ StrsAre vr (rs.map T) ∧ m (Str.ofString "symbols") = some (.ref S) ∧ (S, listOf vy.toArray ny) ∈ rest ∧ IntsAre vy ys) ∧ ∃ t, m (Str.ofString "word") = some (.str (T x) t)
theorem lawC_blk (w : World) (x : List Nat) (rs : List (List Nat)) (ys : List Int) : LawBlk w 10 (PreC x rs ys) := by
  unfold LawBlk
  k_fill
  rintro loose mean mg mb a cd h₀ L m news s Q B F X N TT ⟨ok, ⟨rest, oLet, oWit, oScr, R, vr, nr, S, vy, ny, ⟨rfl, hl, hw, far⟩, hmr, hR, hvr, hms, hS, hvy⟩, tw, hmw⟩ hret
  unfold lawEnv lawD recOf
  dsimp only [List.drop]
  obtain ⟨um, F0⟩ := fr_known [(Str.ofString "runs", .ref R), (Str.ofString "symbols", .ref S), (Str.ofString "word", .str (T x) tw)] (by intro p hp; simp only [List.mem_cons, List.not_mem_nil, or_false] at hp; rcases hp with rfl | rfl | rfl; exact hmr; exact hms; exact hmw) F
  clear F
  (repeat' ((fail_if_success (with_reducible show wpAny _ _ (exec (Stmt.For _ _ _ _ _) _) _ _ _)); (fail_if_success (with_reducible show wpAny _ _ (exec (Stmt.While _ _ _ _) _) _ _ _)); (fail_if_success (with_reducible show wpAny _ _ (pyIter _) (fun it s₂ => LoopAtV _ _ _ _ _ _ _ _ _ it s₂) _ _)); (fail_if_success (with_reducible show wpAny _ _ (call (Value.ref 96) _) _ _ _)); (fail_if_success (with_reducible show wpAny _ _ (execs (Stmt.Assign _ _ _ :: Stmt.Assign _ _ _ :: Stmt.For _ _ _ _ _ :: _) _) _ _ _)); (fail_if_success (with_reducible show wpAny _ _ (compareOp CmpOp.NotEq (Value.ref _) (Value.ref _)) _ _ _)); (fail_if_success (with_reducible show At _ _ _ _ _ _ _ _ _)); (fail_if_success (with_reducible show WPost _ _ _ _ _)); (fail_if_success (with_reducible show wpAny _ _ (eval (Expr.ListComp _ _ _ _) _) _ _ _)); (fail_if_success (with_reducible show AtI _ _ _ _ _ _ _ _ _ _ _)); first | (k_unfold; (try dsimp only)) | ((with_reducible refine wpAny_execs_cons ?_); (try dsimp only)) | walk1 | (dsimp only; walk1)))
  k_dflt (refine' Con.use (pieces_con w x tw ok.d.x4 ok.sig) ?B ?F ?X ?N ?T ?hk ?dp ?un ?_; (case B => k_asm); (case F => k_asm); (case X => k_asm); (case N => k_asm); (case T => k_asm); (case hk => rfl); (case dp => ktr_room); (case un => ktr_units))
  rintro r tl h1 tk1 F1 N1 o1 ⟨D, vd, nd, rfl, rfl, hvd⟩
  (try dsimp only)
  clear F0 N
  simp only [List.cons_append, List.nil_append] at N1
  rw [ok.cut] at hvd
  have hDL : @LT.lt Nat _ (L + 1 + 1 + 1) D := o1 (L + 1 + 1 + 1, oLet) (.head _) (D, _) (.head _)
  (repeat' ((fail_if_success (with_reducible show wpAny _ _ (exec (Stmt.For _ _ _ _ _) _) _ _ _)); (fail_if_success (with_reducible show wpAny _ _ (exec (Stmt.While _ _ _ _) _) _ _ _)); (fail_if_success (with_reducible show wpAny _ _ (pyIter _) (fun it s₂ => LoopAtV _ _ _ _ _ _ _ _ _ it s₂) _ _)); (fail_if_success (with_reducible show wpAny _ _ (call (Value.ref 96) _) _ _ _)); (fail_if_success (with_reducible show wpAny _ _ (execs (Stmt.Assign _ _ _ :: Stmt.Assign _ _ _ :: Stmt.For _ _ _ _ _ :: _) _) _ _ _)); (fail_if_success (with_reducible show wpAny _ _ (compareOp CmpOp.NotEq (Value.ref _) (Value.ref _)) _ _ _)); (fail_if_success (with_reducible show At _ _ _ _ _ _ _ _ _)); (fail_if_success (with_reducible show WPost _ _ _ _ _)); (fail_if_success (with_reducible show wpAny _ _ (eval (Expr.ListComp _ _ _ _) _) _ _ _)); (fail_if_success (with_reducible show AtI _ _ _ _ _ _ _ _ _ _ _)); first | (k_unfold; (try dsimp only)) | ((with_reducible refine wpAny_execs_cons ?_); (try dsimp only)) | walk1 | (dsimp only; walk1)))
  rename Fr h₀ _ _ _ => F2
  rename News h₀ _ _ _ => N2
  have hok : ∀ y ∈ rs.map T, PyData.strOk y = true := by
    intro y hy
    obtain ⟨p, hp, rfl⟩ := List.mem_map.mp hy
    exact strOk_ten p (ok.ten p hp)
  refine ne_strsK ⟨_, (N2 _ (.head _)).1, rfl, _, rfl⟩ hvd ⟨_, (N2 _ (.tail _ (.tail _ (.tail _ (.tail _ hR))))).1, rfl, _, rfl⟩ hvr hok hok (by units_room) ?_
  rw [decide_eq_true rfl]
  (repeat' ((fail_if_success (with_reducible show wpAny _ _ (exec (Stmt.For _ _ _ _ _) _) _ _ _)); (fail_if_success (with_reducible show wpAny _ _ (exec (Stmt.While _ _ _ _) _) _ _ _)); (fail_if_success (with_reducible show wpAny _ _ (pyIter _) (fun it s₂ => LoopAtV _ _ _ _ _ _ _ _ _ it s₂) _ _)); (fail_if_success (with_reducible show wpAny _ _ (call (Value.ref 96) _) _ _ _)); (fail_if_success (with_reducible show wpAny _ _ (execs (Stmt.Assign _ _ _ :: Stmt.Assign _ _ _ :: Stmt.For _ _ _ _ _ :: _) _) _ _ _)); (fail_if_success (with_reducible show wpAny _ _ (compareOp CmpOp.NotEq (Value.ref _) (Value.ref _)) _ _ _)); (fail_if_success (with_reducible show At _ _ _ _ _ _ _ _ _)); (fail_if_success (with_reducible show WPost _ _ _ _ _)); (fail_if_success (with_reducible show wpAny _ _ (eval (Expr.ListComp _ _ _ _) _) _ _ _)); (fail_if_success (with_reducible show AtI _ _ _ _ _ _ _ _ _ _ _)); first | (k_unfold; (try dsimp only)) | ((with_reducible refine wpAny_execs_cons ?_); (try dsimp only)) | walk1 | (dsimp only; walk1)))
  rename Fr h₀ _ _ _ => F3
  rename News h₀ _ _ _ => N3
  refine ListComp_U (F₀ := F3) (by with_unfolding_all rfl) (by decide) (by rfl) (by decide) (by rfl) ?_
  refine nameX_L F3 (by rfl) ?_
  have hlv := hvd.length
  rw [List.length_map] at hlv
  refine CompSrc.ledger (by rfl) F3 N3 (.head _) (by rw [List.size_toArray]; exact Nat.le_trans (by have := ok.d.len; omega : vd.length ≤ 16) (Nat.le_of_ble_eq_true rfl)) ?_
  intro g9
  refine csi_rest tokM hvd ?turnC ?finC
  case turnC =>
    rintro z tz J oJ C oC E9 m9 us h9 tk9 E' hz hC hx9 F4 N4 off ne
    (repeat' ((fail_if_success (with_reducible show wpAny _ _ (exec (Stmt.For _ _ _ _ _) _) _ _ _)); (fail_if_success (with_reducible show wpAny _ _ (exec (Stmt.While _ _ _ _) _) _ _ _)); (fail_if_success (with_reducible show wpAny _ _ (pyIter _) (fun it s₂ => LoopAtV _ _ _ _ _ _ _ _ _ it s₂) _ _)); (fail_if_success (with_reducible show wpAny _ _ (call (Value.ref 96) _) _ _ _)); (fail_if_success (with_reducible show wpAny _ _ (execs (Stmt.Assign _ _ _ :: Stmt.Assign _ _ _ :: Stmt.For _ _ _ _ _ :: _) _) _ _ _)); (fail_if_success (with_reducible show wpAny _ _ (compareOp CmpOp.NotEq (Value.ref _) (Value.ref _)) _ _ _)); (fail_if_success (with_reducible show At _ _ _ _ _ _ _ _ _)); (fail_if_success (with_reducible show WPost _ _ _ _ _)); (fail_if_success (with_reducible show wpAny _ _ (eval (Expr.ListComp _ _ _ _) _) _ _ _)); (fail_if_success (with_reducible show AtI _ _ _ _ _ _ _ _ _ _ _)); first | (k_unfold; (try dsimp only)) | ((with_reducible refine wpAny_execs_cons ?_); (try dsimp only)) | walk1 | (dsimp only; walk1)))
    rename V.Flat _ _ => hv
    have hzt := ok.ten z hz
    simp only [tens, List.mem_cons, List.not_mem_nil, or_false] at hzt
    rcases hzt with rfl | rfl | rfl | rfl | rfl | rfl | rfl | rfl | rfl | rfl
    all_goals exact CompEnd.intro F4 N4 _ (fun _ h => h) off (.inr ⟨_, .head _, rfl, _, rfl⟩) ⟨rfl, V.Flat.int_inv (flat_cast hv (by kernel_rfl))⟩
  case finC =>
    intro us hus D9 h9 tk9 F4 N4 off9
    rw [ok.tok] at hus
    dsimp only
    (repeat' ((fail_if_success (with_reducible show wpAny _ _ (exec (Stmt.For _ _ _ _ _) _) _ _ _)); (fail_if_success (with_reducible show wpAny _ _ (exec (Stmt.While _ _ _ _) _) _ _ _)); (fail_if_success (with_reducible show wpAny _ _ (pyIter _) (fun it s₂ => LoopAtV _ _ _ _ _ _ _ _ _ it s₂) _ _)); (fail_if_success (with_reducible show wpAny _ _ (call (Value.ref 96) _) _ _ _)); (fail_if_success (with_reducible show wpAny _ _ (execs (Stmt.Assign _ _ _ :: Stmt.Assign _ _ _ :: Stmt.For _ _ _ _ _ :: _) _) _ _ _)); (fail_if_success (with_reducible show wpAny _ _ (compareOp CmpOp.NotEq (Value.ref _) (Value.ref _)) _ _ _)); (fail_if_success (with_reducible show At _ _ _ _ _ _ _ _ _)); (fail_if_success (with_reducible show WPost _ _ _ _ _)); (fail_if_success (with_reducible show wpAny _ _ (eval (Expr.ListComp _ _ _ _) _) _ _ _)); (fail_if_success (with_reducible show AtI _ _ _ _ _ _ _ _ _ _ _)); first | (k_unfold; (try dsimp only)) | ((with_reducible refine wpAny_execs_cons ?_); (try dsimp only)) | walk1 | (dsimp only; walk1)))
    refine ne_intsK ⟨_, (N4 _ (.head _)).1, rfl, _, rfl⟩ hus ⟨_, (N4 _ (.tail _ (.tail _ (.tail _ (.tail _ (.tail _ hS)))))).1, rfl, _, rfl⟩ hvy (by units_room) ?_
    rw [decide_eq_true rfl]
    (repeat' ((fail_if_success (with_reducible show wpAny _ _ (exec (Stmt.For _ _ _ _ _) _) _ _ _)); (fail_if_success (with_reducible show wpAny _ _ (exec (Stmt.While _ _ _ _) _) _ _ _)); (fail_if_success (with_reducible show wpAny _ _ (pyIter _) (fun it s₂ => LoopAtV _ _ _ _ _ _ _ _ _ it s₂) _ _)); (fail_if_success (with_reducible show wpAny _ _ (call (Value.ref 96) _) _ _ _)); (fail_if_success (with_reducible show wpAny _ _ (execs (Stmt.Assign _ _ _ :: Stmt.Assign _ _ _ :: Stmt.For _ _ _ _ _ :: _) _) _ _ _)); (fail_if_success (with_reducible show wpAny _ _ (compareOp CmpOp.NotEq (Value.ref _) (Value.ref _)) _ _ _)); (fail_if_success (with_reducible show At _ _ _ _ _ _ _ _ _)); (fail_if_success (with_reducible show WPost _ _ _ _ _)); (fail_if_success (with_reducible show wpAny _ _ (eval (Expr.ListComp _ _ _ _) _) _ _ _)); (fail_if_success (with_reducible show AtI _ _ _ _ _ _ _ _ _ _ _)); first | (k_unfold; (try dsimp only)) | ((with_reducible refine wpAny_execs_cons ?_); (try dsimp only)) | walk1 | (dsimp only; walk1)))
    refine lawD_blk w x rs loose mean mg mb a cd h₀ L _ ((L + 1 + 1 + 1, oLet) :: (L + 1 + 1, oWit) :: (L + 1, oScr) :: (D, listOf vd.toArray nd) :: rest) _ Q B F4 X (fun p hp => N4 p ?hin) TT ⟨ok.d, ⟨_, oLet, oWit, oScr, D, vd, nd, ⟨rfl, hl, hw, ?hfar⟩, rfl, .head _, hvd⟩, tw, rfl⟩ (fun h tk m' F => hret h tk m' F)
    case hin =>
      simp only [List.mem_cons] at hp ⊢
      rcases hp with h | h | h | h | h <;> simp [h]
    case hfar => exact fun p hp => (List.mem_cons.mp hp).elim (fun e => by rw [e]; exact far_lt hDL) (far p)
end Mine
end
noncomputable section
open PySem PySem.W PySem.Calls PyProof.Rows PyProof
set_option Elab.async false
set_option maxRecDepth 100000
namespace Mine
theorem offJoin : True := by
  w_top off
  trivial
theorem join_fold : ∀ (r : List (List Nat)) (acc : Array Nat), (r.map T).foldl (fun acc p => acc ++ (T []).cps ++ p.cps) acc = (acc.toList ++ r.flatten).toArray
  | [], acc => by simp
  | y :: r, acc => by
    rw [List.map_cons, List.foldl_cons, join_fold r]
    simp [T]
theorem join_T (ys : List (List Nat)) : Txt.join (T []) (ys.map T) = T ys.flatten := by
  cases ys with
  | nil => rfl
  | cons y r =>
    show (⟨((r.map T)).foldl (fun acc p => acc ++ (T []).cps ++ p.cps) (T y).cps⟩ : Str) = T (y :: r).flatten
    rw [join_fold]
    simp [T]
theorem sum_T (ys : List (List Nat)) : ((ys.map T).map (·.length)).sum = ys.flatten.length := by
  induction ys with
  | nil => rfl
  | cons y r ih => simp only [List.map_cons, List.sum_cons, T_len, ih, List.flatten_cons, List.length_append]
section
variable {prog : Program} {w : World} {A : Around} {E : Value → Shared → Prop} {s : Shared} {t : Tok} {Q : Value → Shared → Prop}
theorem join_empty {x : Str} {D : Addr} {vs : List Value} {ys : List (List Nat)} (hx : x = T []) (hl : s.heap.IsList D vs.toArray) (hi : StrsAre vs (ys.map T)) (hok : ys.flatten.length ≤ 1000)
    (h : ∀ t' k, Q (.str (T ys.flatten) t') { s with toks := k }) : wpAny (model prog w) A (call (.builtin "str.join") [.str x t, .ref D]) Q E s := by
  subst hx
  refine join_list hl (by simpa using hi) (by rw [sum_T, T_len]; simp only [List.length_nil, Nat.mul_zero, Nat.add_zero]; omega) fun t' k => ?_
  rw [join_T]
  exact h t' k
end
end Mine
end
noncomputable section
open PySem PySem.W PySem.Calls PyProof.Rows PyProof PyProof.Rows.LCg PyProof.Rows.LCt
set_option Elab.async false
set_option maxRecDepth 100000
set_option maxHeartbeats 8000000
namespace Mine
theorem offLawB : True := by
  w_top off
  trivial
structure RB where
  runs : List (List Nat)
  syms : List Int
  sign : Int
noncomputable def signC (s : Int) : Nat := if s = 0 then 42 else if s = 1 then 47 else if s = 2 then 60 else if s = 3 then 62 else 34
noncomputable def symC (z s : Int) : Int := if z = 1 then (if s = 0 then 16 else if s = 1 then 17 else if s = 2 then 20 else if s = 3 then 21 else 0) else (if s = 0 then 35 else if s = 1 then 47 else if s = 2 then 33 else if s = 3 then 34 else 0)
noncomputable def nextS (ns : List Int) (c : RB) : Int := Int.fmod (c.sign + 1 + Int.fmod (Int.fdiv (ns.getD c.runs.length 0) 2) 4) 5
noncomputable def stepB (ns : List Int) (c : RB) (z : Int) : RB := ⟨c.runs ++ [List.replicate z.toNat (signC (nextS ns c))], c.syms ++ [symC z (nextS ns c)], nextS ns c⟩
noncomputable def runB (ns : List Int) : List Int → RB → RB
  | [], c => c
  | z :: zs, c => if (c.runs.flatten.length : Int) + z > 4 then c else runB ns zs (stepB ns c z)
noncomputable def startB (ns : List Int) : RB := ⟨[], [], Int.fmod ns.sum 5⟩
structure CB where
  st : RB
  tsg : Tok
  vr : List Value
  nr : Nat
  vy : List Value
  ny : Nat
theorem runB_stop {ns zs : List Int} {c : RB} {i : Nat} {z : Int} (h : zs[i]? = some z) (h2 : (c.runs.flatten.length : Int) + z > 4) : runB ns (zs.drop i) c = c := by
  obtain ⟨l1, e1⟩ := List.getElem?_eq_some_iff.mp h
  rw [List.drop_eq_getElem_cons l1, e1, runB, if_pos h2]
theorem runB_go {ns zs : List Int} {c : RB} {i : Nat} {z : Int} (h : zs[i]? = some z) (h2 : ¬ (c.runs.flatten.length : Int) + z > 4) : runB ns (zs.drop i) c = runB ns (zs.drop (i + 1)) (stepB ns c z) := by
  obtain ⟨l1, e1⟩ := List.getElem?_eq_some_iff.mp h
  rw [List.drop_eq_getElem_cons l1, e1, runB, if_neg h2]
theorem lb_all {R S rA I L1 L2 L3 : Addr} {oR oS o1 o2 o3 oI : Obj} {rest : List (Addr × Obj)} (a1 : @LT.lt Nat _ R rA) (a2 : @LT.lt Nat _ S rA) (a3 : @LT.lt Nat _ L3 rA) (a4 : @LT.lt Nat _ L2 rA) (a5 : @LT.lt Nat _ L1 rA) (a6 : AllLt rA rest) (a7 : @LT.lt Nat _ rA I) :
    ∀ p ∈ (R, oR) :: (S, oS) :: (L3, o1) :: (L2, o2) :: (L1, o3) :: (rest ++ [(I, oI)]), p.1 ≠ rA := fun p hp => by
  simp only [List.mem_cons, List.mem_append, List.not_mem_nil, or_false] at hp
  rcases hp with rfl | rfl | rfl | rfl | rfl | hp | rfl
  · exact Nat.ne_of_lt a1
  · exact Nat.ne_of_lt a2
  · exact Nat.ne_of_lt a3
  · exact Nat.ne_of_lt a4
  · exact Nat.ne_of_lt a5
  · exact Nat.ne_of_lt (ktn_ltOf a6 p hp)
  · exact Nat.ne_of_gt a7
theorem lb_all2 {R S rA sA I L1 L2 L3 : Addr} {o oR oS o1 o2 o3 oI : Obj} {rest : List (Addr × Obj)} (a0 : @LT.lt Nat _ rA sA) (a1 : @LT.lt Nat _ R sA) (a2 : @LT.lt Nat _ S sA) (a3 : @LT.lt Nat _ L3 sA) (a4 : @LT.lt Nat _ L2 sA) (a5 : @LT.lt Nat _ L1 sA) (a6 : AllLt sA rest) (a7 : @LT.lt Nat _ sA I) :
    ∀ p ∈ (rA, o) :: (R, oR) :: (S, oS) :: (L3, o1) :: (L2, o2) :: (L1, o3) :: (rest ++ [(I, oI)]), p.1 ≠ sA := fun p hp => (List.mem_cons.mp hp).elim (fun e => by rw [e]; exact Nat.ne_of_lt a0) fun h => lb_all a1 a2 a3 a4 a5 a6 a7 p h
theorem mul_is : ∀ z ∈ [(1 : Int), 2], ∀ g ∈ [(0 : Int), 1, 2, 3, 4], Txt.mul (Txt.item (Str.ofString "*/<>\"") g) z = T (List.replicate z.toNat (signC g)) := by decide +kernel
theorem endB {ns zs : List Int} {X : RB} {rs : List (List Nat)} {ys : List Int} {sg z g : Int} {i : Nat} {vr vy : List Value} {y : Str} {q : Int} {t k : Tok} (hst : X = runB ns (zs.drop i) ⟨rs, ys, sg⟩)
    (hgo : runB ns (zs.drop i) ⟨rs, ys, sg⟩ = runB ns (zs.drop (i + 1)) ⟨rs ++ [List.replicate z.toNat (signC g)], ys ++ [symC z g], g⟩)
    (hrl : rs.length = i) (hbr : ¬ 4 < ((T rs.flatten).length : Int) + z) (hp2 : ∀ p ∈ rs, p.length ≤ 2) (hvr : StrsAre vr (rs.map T)) (hvy : IntsAre vy ys) (hyl : ys.length = i)
    (hz : z ∈ [(1 : Int), 2]) (hg : g ∈ [(0 : Int), 1, 2, 3, 4]) (hy : y = Txt.mul (Txt.item (Str.ofString "*/<>\"") g) z) (hq : q = symC z g) :
    X = runB ns (zs.drop (i + 1)) ⟨rs ++ [List.replicate z.toNat (signC g)], ys ++ [symC z g], g⟩ ∧ (rs ++ [List.replicate z.toNat (signC g)]).length = i + 1 ∧ (rs ++ [List.replicate z.toNat (signC g)]).flatten.length ≤ 4 ∧ (∀ p ∈ rs ++ [List.replicate z.toNat (signC g)], p.length ≤ 2) ∧ 0 ≤ g ∧ g < 5 ∧
      StrsAre (vr ++ [.str y t]) ((rs ++ [List.replicate z.toNat (signC g)]).map T) ∧ IntsAre (vy ++ [.int q k]) (ys ++ [symC z g]) ∧ (ys ++ [symC z g]).length = i + 1 := by
  have hz2 : z = 1 ∨ z = 2 := by simpa using hz
  have hg5 : g = 0 ∨ g = 1 ∨ g = 2 ∨ g = 3 ∨ g = 4 := by simpa using hg
  rw [T_len] at hbr
  refine ⟨hst.trans hgo, by simp [hrl], ?_, ?_, by omega, by omega, strs_T hvr (hy.trans (mul_is z hz g hg)), hq ▸ IntsAre.append hvy (.cons _ k .nil), by simp [hyl]⟩
  · rw [List.flatten_append, List.length_append]
    simp only [List.flatten_cons, List.flatten_nil, List.append_nil, List.length_replicate]
    omega
  · intro p hp
    rcases List.mem_append.mp hp with h | h
    · exact hp2 p h
    · rw [List.mem_singleton.mp h, List.length_replicate]; omega
theorem lb_in {a b c d e f g t : Addr × Obj} {l : List (Addr × Obj)} : ∀ p ∈ a :: b :: c :: d :: e :: f :: g :: l, p ∈ a :: b :: c :: d :: e :: f :: g :: (l ++ [t]) := fun p hp => by
  simp only [List.mem_cons, List.mem_append, List.not_mem_nil, or_false] at hp ⊢
  rcases hp with h | h | h | h | h | h | h | h <;> simp [h]
theorem lb_it {a b c d e f g t : Addr × Obj} {l : List (Addr × Obj)} : t ∈ a :: b :: c :: d :: e :: f :: g :: (l ++ [t]) := by simp
theorem lb_off {A B I : Addr} {oa ob oa' ob' : Obj} {l : List (Addr × Obj)} (h : ∀ p ∈ (A, oa) :: (B, ob) :: l, p.1 ≠ I) : ∀ p ∈ (A, oa') :: (B, ob') :: l, p.1 ≠ I := fun p hp => (List.mem_cons.mp hp).elim (fun e => by rw [e]; exact h (A, oa) (.head _)) fun hp => (List.mem_cons.mp hp).elim (fun e => by rw [e]; exact h (B, ob) (.tail _ (.head _))) fun hp => h p (.tail _ (.tail _ hp))
noncomputable def PreB (ns zs : List Int) (L : Addr) (m : Str → Option Value) (news : List (Addr × Obj)) : Prop :=
  OkC (runB ns zs (startB ns)).runs.flatten (runB ns zs (startB ns)).runs (runB ns zs (startB ns)).syms ∧ ns.length = 4 ∧ (∀ n ∈ ns, 0 ≤ n ∧ n ≤ 1000000000) ∧ zs.length ≤ 4 ∧ (∀ z ∈ zs, z = 1 ∨ z = 2) ∧
  (∃ rest oLet oWit oScr R vr nr S vy ny, CellsL L news rest oLet oWit oScr ∧ m (Str.ofString "numbers") = some (.ref R) ∧ (R, listOf vr.toArray nr) ∈ rest ∧ IntsAre vr ns ∧ m (Str.ofString "sizes") = some (.ref S) ∧ (S, listOf vy.toArray ny) ∈ rest ∧ IntsAre vy zs)
theorem lawB_blk (w : World) (ns zs : List Int) : LawBlk w 5 (PreB ns zs) := by
  unfold LawBlk
  k_fill
  rintro loose mean mg mb a cd h₀ L m news s Q B F X N TT ⟨ok, hn4, hnb, hz4, hz12, rest, oLet, oWit, oScr, R, vr, nr, S, vy, ny, ⟨rfl, hl, hw, far⟩, hmr, hR, hvr, hms, hS, hvy⟩ hret
  unfold lawEnv lawD recOf
  dsimp only [List.drop]
  obtain ⟨um, F0⟩ := fr_known [(Str.ofString "numbers", .ref R), (Str.ofString "sizes", .ref S)] (by intro p hp; simp only [List.mem_cons, List.not_mem_nil, or_false] at hp; rcases hp with rfl | rfl; exact hmr; exact hms) F
  clear F
  replace N : News h₀ L s.heap ((R, listOf vr.toArray nr) :: (S, listOf vy.toArray ny) :: (L + 1 + 1 + 1, oLet) :: (L + 1 + 1, oWit) :: (L + 1, oScr) :: rest) := fun p hp => (List.mem_cons.mp hp).elim (fun e => e ▸ N _ (.tail _ (.tail _ (.tail _ hR)))) fun hp => (List.mem_cons.mp hp).elim (fun e => e ▸ N _ (.tail _ (.tail _ (.tail _ hS)))) fun hp => N p hp
  (repeat' ((fail_if_success (with_reducible show wpAny _ _ (exec (Stmt.For _ _ _ _ _) _) _ _ _)); (fail_if_success (with_reducible show wpAny _ _ (pyIter _) (fun it s₂ => LoopAtV _ _ _ _ _ _ _ _ _ it s₂) _ _)); (fail_if_success (with_reducible show wpAny _ _ (execs (Stmt.Expr _ _ :: Stmt.Expr _ _ :: _) _) _ _ _)); (fail_if_success (with_reducible show wpAny _ _ (execs (Stmt.Assign _ (Expr.Call _ [Expr.Name _ _] _ _) _ :: Stmt.If _ _ _ _ :: _) _) _ _ _)); (fail_if_success (with_reducible show wpAny _ _ (call (Value.builtin "sum") _) _ _ _)); (fail_if_success (with_reducible show wpAny _ _ (call (Value.builtin "list.append") _) _ _ _)); (fail_if_success (with_reducible show wpAny _ _ (call (Value.builtin "str.join") _) _ _ _)); (fail_if_success (with_reducible show At _ _ _ _ _ _ _ _ _)); (fail_if_success (with_reducible show WPost _ _ _ _ _)); (fail_if_success (with_reducible show wpAny _ _ (eval (Expr.ListComp _ _ _ _) _) _ _ _)); (fail_if_success (with_reducible show AtI _ _ _ _ _ _ _ _ _ _ _)); first | (k_unfold; (try dsimp only)) | ((with_reducible refine wpAny_execs_cons ?_); (try dsimp only)) | walk1 | (dsimp only; walk1)))
  rename Fr h₀ _ _ _ => F1
  rename News h₀ _ _ _ => N1
  refine sumK rfl F1 N1 ⟨_, (N1 _ (.tail _ (.tail _ (.head _)))).1, rfl, _, rfl⟩ hvr ?_
  intro h2 tk2 t2 F2 N2
  clear F1 N1
  (try dsimp only)
  (repeat' ((fail_if_success (with_reducible show wpAny _ _ (exec (Stmt.For _ _ _ _ _) _) _ _ _)); (fail_if_success (with_reducible show wpAny _ _ (pyIter _) (fun it s₂ => LoopAtV _ _ _ _ _ _ _ _ _ it s₂) _ _)); (fail_if_success (with_reducible show wpAny _ _ (execs (Stmt.Expr _ _ :: Stmt.Expr _ _ :: _) _) _ _ _)); (fail_if_success (with_reducible show wpAny _ _ (execs (Stmt.Assign _ (Expr.Call _ [Expr.Name _ _] _ _) _ :: Stmt.If _ _ _ _ :: _) _) _ _ _)); (fail_if_success (with_reducible show wpAny _ _ (call (Value.builtin "sum") _) _ _ _)); (fail_if_success (with_reducible show wpAny _ _ (call (Value.builtin "list.append") _) _ _ _)); (fail_if_success (with_reducible show wpAny _ _ (call (Value.builtin "str.join") _) _ _ _)); (fail_if_success (with_reducible show At _ _ _ _ _ _ _ _ _)); (fail_if_success (with_reducible show WPost _ _ _ _ _)); (fail_if_success (with_reducible show wpAny _ _ (eval (Expr.ListComp _ _ _ _) _) _ _ _)); (fail_if_success (with_reducible show AtI _ _ _ _ _ _ _ _ _ _ _)); first | (k_unfold; (try dsimp only)) | ((with_reducible refine wpAny_execs_cons ?_); (try dsimp only)) | walk1 | (dsimp only; walk1)))
  rename Fr h₀ _ _ _ => F3
  rename News h₀ _ _ _ => N3
  rename _ < _ ∧ _ < _ ∧ _ < _ ∧ _ < _ ∧ _ < _ ∧ _ < _ ∧ AllLt _ _ => hl2
  rename _ < _ ∧ _ < _ ∧ _ < _ ∧ _ < _ ∧ _ < _ ∧ AllLt _ _ => hl1
  have hzl := hvy.length
  rename_i rA _ _ sA _ _ _
  refine For_invV h₀ (by rfl) (by rfl) ?_
  (repeat' ((fail_if_success (with_reducible show wpAny _ _ (exec (Stmt.For _ _ _ _ _) _) _ _ _)); (fail_if_success (with_reducible show wpAny _ _ (pyIter _) (fun it s₂ => LoopAtV _ _ _ _ _ _ _ _ _ it s₂) _ _)); (fail_if_success (with_reducible show wpAny _ _ (execs (Stmt.Expr _ _ :: Stmt.Expr _ _ :: _) _) _ _ _)); (fail_if_success (with_reducible show wpAny _ _ (execs (Stmt.Assign _ (Expr.Call _ [Expr.Name _ _] _ _) _ :: Stmt.If _ _ _ _ :: _) _) _ _ _)); (fail_if_success (with_reducible show wpAny _ _ (call (Value.builtin "sum") _) _ _ _)); (fail_if_success (with_reducible show wpAny _ _ (call (Value.builtin "list.append") _) _ _ _)); (fail_if_success (with_reducible show wpAny _ _ (call (Value.builtin "str.join") _) _ _ _)); (fail_if_success (with_reducible show At _ _ _ _ _ _ _ _ _)); (fail_if_success (with_reducible show WPost _ _ _ _ _)); (fail_if_success (with_reducible show wpAny _ _ (eval (Expr.ListComp _ _ _ _) _) _ _ _)); (fail_if_success (with_reducible show AtI _ _ _ _ _ _ _ _ _ _ _)); first | (k_unfold; (try dsimp only)) | ((with_reducible refine wpAny_execs_cons ?_); (try dsimp only)) | walk1 | (dsimp only; walk1)))
  refine' list_at (σ := CB) (vs := vy) (nn := ny) (fun c => (sA, listOf c.vy.toArray c.ny) :: (rA, listOf c.vr.toArray c.nr) :: (R, listOf vr.toArray nr) :: (S, listOf vy.toArray ny) :: (L + 1 + 1 + 1, oLet) :: (L + 1 + 1, oWit) :: (L + 1, oScr) :: rest) (fun c => [(Str.ofString "sign", .int c.st.sign c.tsg)]) [Str.ofString "size", Str.ofString "sign"] rfl
    (fun i c => runB ns zs (startB ns) = runB ns (zs.drop i) c.st ∧ c.st.runs.length = i ∧ c.st.runs.flatten.length ≤ 4 ∧ (∀ p ∈ c.st.runs, p.length ≤ 2) ∧ 0 ≤ c.st.sign ∧ c.st.sign < 5 ∧ StrsAre c.vr (c.st.runs.map T) ∧ IntsAre c.vy c.st.syms ∧ c.st.syms.length = i)
    (fun c => runB ns zs (startB ns) = c.st ∧ c.st.runs.length ≤ 4 ∧ StrsAre c.vr (c.st.runs.map T) ∧ IntsAre c.vy c.st.syms) ⟨startB ns, _, [], 0, [], 0⟩ rfl (fun _ => .tail _ (.tail _ (.tail _ (.head _)))) F3 N3 ?hk1 ?hp1 ?hD1 ?turn1 ?done1
  case hk1 => kst_all
  case hp1 => exact ⟨rfl, rfl, Nat.zero_le _, (fun _ h => nomatch h), Int.fmod_nonneg_of_pos _ (by decide), Int.fmod_lt_of_pos _ (by decide), .nil, .nil, rfl⟩
  case hD1 =>
    rintro c ⟨h1, h2, -, -, -, -, h7, h8, -⟩
    rw [hzl, List.drop_length] at h1
    exact ⟨h1, by omega, h7, h8⟩
  case done1 =>
    clear F3 N3
    rintro ⟨⟨rs, ys, sg⟩, tsg, vr2, nr2, vy2, ny2⟩ u3 h3 tk3 ⟨hst, hr4, hvr2, hvy2⟩ F4 N4
    dsimp only at hst hr4 hvr2 hvy2 F4 N4
    rw [hst] at ok
    dsimp only at ok
    have hx4 := ok.d.x4
    (repeat' ((fail_if_success (with_reducible show wpAny _ _ (exec (Stmt.For _ _ _ _ _) _) _ _ _)); (fail_if_success (with_reducible show wpAny _ _ (pyIter _) (fun it s₂ => LoopAtV _ _ _ _ _ _ _ _ _ it s₂) _ _)); (fail_if_success (with_reducible show wpAny _ _ (execs (Stmt.Expr _ _ :: Stmt.Expr _ _ :: _) _) _ _ _)); (fail_if_success (with_reducible show wpAny _ _ (execs (Stmt.Assign _ (Expr.Call _ [Expr.Name _ _] _ _) _ :: Stmt.If _ _ _ _ :: _) _) _ _ _)); (fail_if_success (with_reducible show wpAny _ _ (call (Value.builtin "sum") _) _ _ _)); (fail_if_success (with_reducible show wpAny _ _ (call (Value.builtin "list.append") _) _ _ _)); (fail_if_success (with_reducible show wpAny _ _ (call (Value.builtin "str.join") _) _ _ _)); (fail_if_success (with_reducible show At _ _ _ _ _ _ _ _ _)); (fail_if_success (with_reducible show WPost _ _ _ _ _)); (fail_if_success (with_reducible show wpAny _ _ (eval (Expr.ListComp _ _ _ _) _) _ _ _)); (fail_if_success (with_reducible show AtI _ _ _ _ _ _ _ _ _ _ _)); first | (k_unfold; (try dsimp only)) | ((with_reducible refine wpAny_execs_cons ?_); (try dsimp only)) | walk1 | (dsimp only; walk1)))
    refine join_empty (by decide +kernel) ⟨_, (N4 _ (.tail _ (.head _))).1, rfl, _, rfl⟩ hvr2 (by omega) ?_
    intro tj kj
    (try dsimp only)
    (repeat' ((fail_if_success (with_reducible show wpAny _ _ (exec (Stmt.For _ _ _ _ _) _) _ _ _)); (fail_if_success (with_reducible show wpAny _ _ (pyIter _) (fun it s₂ => LoopAtV _ _ _ _ _ _ _ _ _ it s₂) _ _)); (fail_if_success (with_reducible show wpAny _ _ (execs (Stmt.Expr _ _ :: Stmt.Expr _ _ :: _) _) _ _ _)); (fail_if_success (with_reducible show wpAny _ _ (execs (Stmt.Assign _ (Expr.Call _ [Expr.Name _ _] _ _) _ :: Stmt.If _ _ _ _ :: _) _) _ _ _)); (fail_if_success (with_reducible show wpAny _ _ (call (Value.builtin "sum") _) _ _ _)); (fail_if_success (with_reducible show wpAny _ _ (call (Value.builtin "list.append") _) _ _ _)); (fail_if_success (with_reducible show wpAny _ _ (call (Value.builtin "str.join") _) _ _ _)); (fail_if_success (with_reducible show At _ _ _ _ _ _ _ _ _)); (fail_if_success (with_reducible show WPost _ _ _ _ _)); (fail_if_success (with_reducible show wpAny _ _ (eval (Expr.ListComp _ _ _ _) _) _ _ _)); (fail_if_success (with_reducible show AtI _ _ _ _ _ _ _ _ _ _ _)); first | (k_unfold; (try dsimp only)) | ((with_reducible refine wpAny_execs_cons ?_); (try dsimp only)) | walk1 | (dsimp only; walk1)))
    rename Fr h₀ _ _ _ => F5
    rename News h₀ _ _ _ => N5
    refine lawC_blk w rs.flatten rs ys loose mean mg mb a cd h₀ L _ ((L + 1 + 1 + 1, oLet) :: (L + 1 + 1, oWit) :: (L + 1, oScr) :: (rA, listOf vr2.toArray nr2) :: (sA, listOf vy2.toArray ny2) :: rest) _ Q B F5 X (fun p hp => N5 p ?hin) TT ⟨ok, ⟨_, oLet, oWit, oScr, rA, vr2, nr2, sA, vy2, ny2, ⟨rfl, hl, hw, ?hfar⟩, rfl, .head _, hvr2, rfl, .tail _ (.head _), hvy2⟩, _, rfl⟩ (fun h tk m' F => hret h tk m' F)
    case hin =>
      simp only [List.mem_cons] at hp ⊢
      rcases hp with h | h | h | h | h | h <;> simp [h]
    case hfar => exact fun p hp => (List.mem_cons.mp hp).elim (fun e => by rw [e]; exact far_lt hl1.2.2.1) fun hp => (List.mem_cons.mp hp).elim (fun e => by rw [e]; exact far_lt hl2.2.2.2.1) (far p)
  case turn1 =>
    clear F3 N3
    rintro i ⟨⟨rs, ys, sg⟩, tsg, vr2, nr2, vy2, ny2⟩ v u3 h3 tk3 I oI hi hv ⟨hst, hrl, hfl, hp2, hs0, hs5, hvr2, hvy2, hyl⟩ hI1 hI2 F4 N4
    dsimp only at hst hrl hfl hp2 hs0 hs5 hvr2 hvy2 hyl F4 N4 hI2
    obtain ⟨z, tz, rfl, hz⟩ := IntsAre.at hvy i v hv
    have hz2 := hz12 z (List.mem_of_getElem? hz)
    (repeat' ((fail_if_success (with_reducible show wpAny _ _ (exec (Stmt.For _ _ _ _ _) _) _ _ _)); (fail_if_success (with_reducible show wpAny _ _ (pyIter _) (fun it s₂ => LoopAtV _ _ _ _ _ _ _ _ _ it s₂) _ _)); (fail_if_success (with_reducible show wpAny _ _ (execs (Stmt.Expr _ _ :: Stmt.Expr _ _ :: _) _) _ _ _)); (fail_if_success (with_reducible show wpAny _ _ (execs (Stmt.Assign _ (Expr.Call _ [Expr.Name _ _] _ _) _ :: Stmt.If _ _ _ _ :: _) _) _ _ _)); (fail_if_success (with_reducible show wpAny _ _ (call (Value.builtin "sum") _) _ _ _)); (fail_if_success (with_reducible show wpAny _ _ (call (Value.builtin "list.append") _) _ _ _)); (fail_if_success (with_reducible show wpAny _ _ (call (Value.builtin "str.join") _) _ _ _)); (fail_if_success (with_reducible show At _ _ _ _ _ _ _ _ _)); (fail_if_success (with_reducible show WPost _ _ _ _ _)); (fail_if_success (with_reducible show wpAny _ _ (eval (Expr.ListComp _ _ _ _) _) _ _ _)); (fail_if_success (with_reducible show AtI _ _ _ _ _ _ _ _ _ _ _)); first | (k_unfold; (try dsimp only)) | ((with_reducible refine wpAny_execs_cons ?_); (try dsimp only)) | walk1 | (dsimp only; walk1)))
    refine join_empty (by decide +kernel) ⟨_, (N4 _ (.tail _ (.head _))).1, rfl, _, rfl⟩ hvr2 (by omega) ?_
    intro tj kj
    (try dsimp only)
    have hfT := T_len rs.flatten
    (repeat' ((fail_if_success (with_reducible show wpAny _ _ (exec (Stmt.For _ _ _ _ _) _) _ _ _)); (fail_if_success (with_reducible show wpAny _ _ (pyIter _) (fun it s₂ => LoopAtV _ _ _ _ _ _ _ _ _ it s₂) _ _)); (fail_if_success (with_reducible show wpAny _ _ (execs (Stmt.Expr _ _ :: Stmt.Expr _ _ :: _) _) _ _ _)); (fail_if_success (with_reducible show wpAny _ _ (execs (Stmt.Assign _ (Expr.Call _ [Expr.Name _ _] _ _) _ :: Stmt.If _ _ _ _ :: _) _) _ _ _)); (fail_if_success (with_reducible show wpAny _ _ (call (Value.builtin "sum") _) _ _ _)); (fail_if_success (with_reducible show wpAny _ _ (call (Value.builtin "list.append") _) _ _ _)); (fail_if_success (with_reducible show wpAny _ _ (call (Value.builtin "str.join") _) _ _ _)); (fail_if_success (with_reducible show At _ _ _ _ _ _ _ _ _)); (fail_if_success (with_reducible show WPost _ _ _ _ _)); (fail_if_success (with_reducible show wpAny _ _ (eval (Expr.ListComp _ _ _ _) _) _ _ _)); (fail_if_success (with_reducible show AtI _ _ _ _ _ _ _ _ _ _ _)); first | (k_unfold; (try dsimp only)) | ((with_reducible refine wpAny_execs_cons ?_); (try dsimp only)) | walk1 | (dsimp only; walk1)))
    · rename 4 < _ => hbr
      (try dsimp only)
      dsimp only [WPost]
      rename Fr h₀ _ _ _ => F5
      rename News h₀ _ _ _ => N5
      refine At.intro ⟨⟨rs, ys, sg⟩, tsg, vr2, nr2, vy2, ny2⟩ F5 N5 (fun p hp => List.mem_append_left _ hp) ?hkB (by ((intro z hz; (simp only [List.contains_cons, List.contains_nil, Bool.or_false, Bool.or_eq_false_iff, beq_eq_false_iff_ne, ne_eq] at hz); (simp [hz, kstB]; done)))) ⟨?hpB, (by dsimp only; omega), hvr2, hvy2⟩
      case hkB => kst_all
      case hpB => rw [hst, runB_stop hz (by dsimp only; omega)]
    · rename ¬ 4 < _ => hbr
      have hv2 := hvr2.length
      rw [List.length_map] at hv2
      have hsz : vr2.toArray.size = i := by rw [List.size_toArray]; omega
      rename Fr h₀ _ _ _ => F5
      rename News h₀ _ _ _ => N5
      simp only [List.cons_append] at N5
      refine len_list ⟨_, (N5 _ (.tail _ (.head _))).1, rfl, _, rfl⟩ (by rw [hsz]; omega) ?_
      rw [hsz]
      have hi4 : i < 4 := by omega
      have hIr : @LT.lt Nat _ rA I := hI1 (rA, _) (.tail _ (.head _))
      have hIs : @LT.lt Nat _ sA I := hI1 (sA, _) (.head _)
      have hyv := hvy2.length
      have hsr : sA ≠ rA := Nat.ne_of_gt hl2.1
      (repeat' ((fail_if_success (with_reducible show wpAny _ _ (exec (Stmt.For _ _ _ _ _) _) _ _ _)); (fail_if_success (with_reducible show wpAny _ _ (pyIter _) (fun it s₂ => LoopAtV _ _ _ _ _ _ _ _ _ it s₂) _ _)); (fail_if_success (with_reducible show wpAny _ _ (execs (Stmt.Expr _ _ :: Stmt.Expr _ _ :: _) _) _ _ _)); (fail_if_success (with_reducible show wpAny _ _ (execs (Stmt.Assign _ (Expr.Call _ [Expr.Name _ _] _ _) _ :: Stmt.If _ _ _ _ :: _) _) _ _ _)); (fail_if_success (with_reducible show wpAny _ _ (call (Value.builtin "sum") _) _ _ _)); (fail_if_success (with_reducible show wpAny _ _ (call (Value.builtin "list.append") _) _ _ _)); (fail_if_success (with_reducible show wpAny _ _ (call (Value.builtin "str.join") _) _ _ _)); (fail_if_success (with_reducible show At _ _ _ _ _ _ _ _ _)); (fail_if_success (with_reducible show WPost _ _ _ _ _)); (fail_if_success (with_reducible show wpAny _ _ (eval (Expr.ListComp _ _ _ _) _) _ _ _)); (fail_if_success (with_reducible show AtI _ _ _ _ _ _ _ _ _ _ _)); first | (k_unfold; (try dsimp only)) | ((with_reducible refine wpAny_execs_cons ?_); (try dsimp only)) | walk1 | (dsimp only; walk1)))
      rename Fr h₀ _ _ _ => F6
      rename News h₀ _ _ _ => N6
      have hsg : (sg + 1 + ((ns.getD ((i : Int)).toNat 0).fdiv 2).fmod 4).fmod 5 = nextS ns ⟨rs, ys, sg⟩ := by
        unfold nextS
        dsimp only
        rw [hrl, Int.toNat_natCast]
      rw [hsg] at F6
      dsimp only at F6 N6 ⊢
      have hn0 : 0 ≤ nextS ns ⟨rs, ys, sg⟩ := Int.fmod_nonneg_of_pos _ (by decide)
      have hn5 : nextS ns ⟨rs, ys, sg⟩ < 5 := Int.fmod_lt_of_pos _ (by decide)
      have hgo := runB_go (ns := ns) (c := ⟨rs, ys, sg⟩) hz (by dsimp only; omega)
      unfold stepB at hgo
      clear hsg
      generalize nextS ns ⟨rs, ys, sg⟩ = sg2 at *
      have hc5 : sg2 = 0 ∨ sg2 = 1 ∨ sg2 = 2 ∨ sg2 = 3 ∨ sg2 = 4 := by omega
      rcases hc5 with rfl | rfl | rfl | rfl | rfl
      all_goals rcases hz2 with rfl | rfl
      all_goals refine wpAny_execs_cons ?_
      all_goals (
        (repeat' ((fail_if_success (with_reducible show wpAny _ _ (exec (Stmt.For _ _ _ _ _) _) _ _ _)); (fail_if_success (with_reducible show wpAny _ _ (pyIter _) (fun it s₂ => LoopAtV _ _ _ _ _ _ _ _ _ it s₂) _ _)); (fail_if_success (with_reducible show wpAny _ _ (execs (Stmt.Expr _ _ :: Stmt.Expr _ _ :: _) _) _ _ _)); (fail_if_success (with_reducible show wpAny _ _ (execs (Stmt.Assign _ (Expr.Call _ [Expr.Name _ _] _ _) _ :: Stmt.If _ _ _ _ :: _) _) _ _ _)); (fail_if_success (with_reducible show wpAny _ _ (call (Value.builtin "sum") _) _ _ _)); (fail_if_success (with_reducible show wpAny _ _ (call (Value.builtin "list.append") _) _ _ _)); (fail_if_success (with_reducible show wpAny _ _ (call (Value.builtin "str.join") _) _ _ _)); (fail_if_success (with_reducible show At _ _ _ _ _ _ _ _ _)); (fail_if_success (with_reducible show WPost _ _ _ _ _)); (fail_if_success (with_reducible show wpAny _ _ (eval (Expr.ListComp _ _ _ _) _) _ _ _)); (fail_if_success (with_reducible show AtI _ _ _ _ _ _ _ _ _ _ _)); first | (k_unfold; (try dsimp only)) | ((with_reducible refine wpAny_execs_cons ?_); (try dsimp only)) | walk1 | (dsimp only; walk1)))
        have hAr := lb_all (oR := listOf vr.toArray nr) (oS := listOf vy.toArray ny) (o1 := oLet) (o2 := oWit) (o3 := oScr) (oI := oI) hl1.1 hl1.2.1 hl1.2.2.1 hl1.2.2.2.1 hl1.2.2.2.2.1 hl1.2.2.2.2.2 hIr
        refine append_K (by assumption) N6 (.tail hsr (.head hAr)) ?_ (by rw [hsz]; exact Nat.le_trans (by omega : i ≤ 4) (Nat.le_of_ble_eq_true rfl))
        intro h7 F7 N7
        clear N6 F6 F5 N5 hAr
        (first | (k_unfold; (try dsimp only)) | ((with_reducible refine wpAny_execs_cons ?_); (try dsimp only)) | walk1 | (dsimp only; walk1))
        (first | (k_unfold; (try dsimp only)) | ((with_reducible refine wpAny_execs_cons ?_); (try dsimp only)) | walk1 | (dsimp only; walk1))
        (first | (k_unfold; (try dsimp only)) | ((with_reducible refine wpAny_execs_cons ?_); (try dsimp only)) | walk1 | (dsimp only; walk1))
        (first | (k_unfold; (try dsimp only)) | ((with_reducible refine wpAny_execs_cons ?_); (try dsimp only)) | walk1 | (dsimp only; walk1))
        (first | (k_unfold; (try dsimp only)) | ((with_reducible refine wpAny_execs_cons ?_); (try dsimp only)) | walk1 | (dsimp only; walk1))
        dsimp only
        refine callWith_method1 ?_
        (repeat' ((fail_if_success (with_reducible show wpAny _ _ (exec (Stmt.For _ _ _ _ _) _) _ _ _)); (fail_if_success (with_reducible show wpAny _ _ (pyIter _) (fun it s₂ => LoopAtV _ _ _ _ _ _ _ _ _ it s₂) _ _)); (fail_if_success (with_reducible show wpAny _ _ (execs (Stmt.Expr _ _ :: Stmt.Expr _ _ :: _) _) _ _ _)); (fail_if_success (with_reducible show wpAny _ _ (execs (Stmt.Assign _ (Expr.Call _ [Expr.Name _ _] _ _) _ :: Stmt.If _ _ _ _ :: _) _) _ _ _)); (fail_if_success (with_reducible show wpAny _ _ (call (Value.builtin "sum") _) _ _ _)); (fail_if_success (with_reducible show wpAny _ _ (call (Value.builtin "list.append") _) _ _ _)); (fail_if_success (with_reducible show wpAny _ _ (call (Value.builtin "str.join") _) _ _ _)); (fail_if_success (with_reducible show At _ _ _ _ _ _ _ _ _)); (fail_if_success (with_reducible show WPost _ _ _ _ _)); (fail_if_success (with_reducible show wpAny _ _ (eval (Expr.ListComp _ _ _ _) _) _ _ _)); (fail_if_success (with_reducible show AtI _ _ _ _ _ _ _ _ _ _ _)); first | (k_unfold; (try dsimp only)) | ((with_reducible refine wpAny_execs_cons ?_); (try dsimp only)) | walk1 | (dsimp only; walk1)))
        rename Fr h₀ _ _ _ => F8
        rename News h₀ _ _ _ => N8
        replace N8 : News h₀ L _ ((sA, listOf vy2.toArray ny2) :: (rA, _) :: (R, listOf vr.toArray nr) :: (S, listOf vy.toArray ny) :: (L + 1 + 1 + 1, oLet) :: (L + 1 + 1, oWit) :: (L + 1, oScr) :: (rest ++ [(I, oI)])) := fun p hp => N8 p (.tail _ (.tail _ (.tail _ hp)))
        refine append_K F8 N8 (.head (lb_all2 (oR := listOf vr.toArray nr) (oS := listOf vy.toArray ny) (o1 := oLet) (o2 := oWit) (o3 := oScr) (oI := oI) hl2.1 hl2.2.1 hl2.2.2.1 hl2.2.2.2.1 hl2.2.2.2.2.1 hl2.2.2.2.2.2.1 hl2.2.2.2.2.2.2 hIs)) ?_ (by rw [List.size_toArray]; exact Nat.le_trans (by omega : vy2.length ≤ 4) (Nat.le_of_ble_eq_true rfl))
        intro h9 F9 N9
        rw [led_push, led_push] at N9
        (repeat' ((fail_if_success (with_reducible show wpAny _ _ (exec (Stmt.For _ _ _ _ _) _) _ _ _)); (fail_if_success (with_reducible show wpAny _ _ (pyIter _) (fun it s₂ => LoopAtV _ _ _ _ _ _ _ _ _ it s₂) _ _)); (fail_if_success (with_reducible show wpAny _ _ (execs (Stmt.Expr _ _ :: Stmt.Expr _ _ :: _) _) _ _ _)); (fail_if_success (with_reducible show wpAny _ _ (execs (Stmt.Assign _ (Expr.Call _ [Expr.Name _ _] _ _) _ :: Stmt.If _ _ _ _ :: _) _) _ _ _)); (fail_if_success (with_reducible show wpAny _ _ (call (Value.builtin "sum") _) _ _ _)); (fail_if_success (with_reducible show wpAny _ _ (call (Value.builtin "list.append") _) _ _ _)); (fail_if_success (with_reducible show wpAny _ _ (call (Value.builtin "str.join") _) _ _ _)); (fail_if_success (with_reducible show At _ _ _ _ _ _ _ _ _)); (fail_if_success (with_reducible show WPost _ _ _ _ _)); (fail_if_success (with_reducible show wpAny _ _ (eval (Expr.ListComp _ _ _ _) _) _ _ _)); (fail_if_success (with_reducible show AtI _ _ _ _ _ _ _ _ _ _ _)); first | (k_unfold; (try dsimp only)) | ((with_reducible refine wpAny_execs_cons ?_); (try dsimp only)) | walk1 | (dsimp only; walk1)))
        dsimp only [WPost]
        refine AtI.intro ⟨⟨_, _, _⟩, ?tsZ, _, _, _, _⟩ F9 N9 lb_in lb_it (lb_off hI2) ?hkZ (by ((intro z hz; (simp only [List.contains_cons, List.contains_nil, Bool.or_false, Bool.or_eq_false_iff, beq_eq_false_iff_ne, ne_eq] at hz); (simp [hz, kstB]; done)))) (endB hst hgo hrl hbr hp2 hvr2 hvy2 hyl (by decide) (by decide) rfl (by rfl))
        case hkZ => kst_all)
end Mine
end
noncomputable section
open PySem PySem.W PySem.Calls PyProof.Rows PyProof PyProof.Rows.LCg PyProof.Rows.LCt
set_option Elab.async false
set_option maxRecDepth 100000
set_option maxHeartbeats 1000000
namespace Mine
theorem offLawS : True := by
  w_top off
  trivial
/-- the plain law: what the loop of runs makes is as the law's rest needs it -/
noncomputable def PlainL : Prop := ∀ ns zs : List Int, ns.length = 4 → zs.length = 3 ∨ zs.length = 4 → (∀ z ∈ zs, z = 1 ∨ z = 2) → OkC (runB ns zs (startB ns)).runs.flatten (runB ns zs (startB ns)).runs (runB ns zs (startB ns)).syms
/-- the law from its fourth statement on, the fourth number's remainder by 3 known -/
noncomputable def LawS (w : World) (k : Int) (tl : List Value) : Prop :=
  ∀ (loose : List Str) (mean : ExcName → Option Value) (mg mb : Str → Option Value) (a : Addr) (cd : Value) (h₀ : Heap) (L : Addr) (m : Str → Option Value) (s : Shared) (Q : Flow → Shared → Prop) (oLet oWit oScr : Obj) (W S D : Addr) (ys : List Value) (n0 n1 n2 n3 x y z : Int) (t0 t1 t2 : Tok) (nW nS nD : Nat),
    Below callerA h₀ [] h₀ → Fr h₀ L s.heap (kstB m [(Str.ofString "row", .ref W), (Str.ofString "sizes", .ref S), (Str.ofString "numbers", .ref D)]) → (hd.heap_39 w.params).In h₀ → News h₀ L s.heap [(W, listOf (.int x t0 :: .int y t1 :: .int z t2 :: tl).toArray nW), (S, listOf #[.int x t0, .int y t1, .int z t2] nS), (D, listOf ys.toArray nD), (L + 1 + 1 + 1, oLet), (L + 1 + 1, oWit), (L + 1, oScr)] → Top hd.view_39 loose mean mg mb h₀ →
    (∃ v, oLet.data = .cell v) → (∃ v, oWit.data = .cell v) → IntsAre ys [n0, n1, n2, n3] → (∀ n ∈ [n0, n1, n2, n3], 0 ≤ n ∧ n ≤ 1000000000) → (x = 1 ∨ x = 2) → (y = 1 ∨ y = 2) → (z = 1 ∨ z = 2) → n3.fmod 3 = k → s.gens = #[] → (D ≠ L + 1 + 1 ∧ D ≠ L + 1 + 1 + 1) → (S ≠ L + 1 + 1 ∧ S ≠ L + 1 + 1 + 1) →
    (∀ h tk m' gs, Fr h₀ L h m' → AllBare gs → Q (.ret (.bool true)) { s with heap := h, toks := tk, gens := gs }) →
    wpAny (model PySem.Challenge.rw_wn0102_01.row.toRowW.prog w) (callerA.deeper (lawEnv L a cd)) (execs (lawD.body.drop 3) (lawEnv L a cd)) Q (fun _ _ => False) s
theorem news_told {h₀ h h4 : Heap} {L l : Addr} {m : Str → Option Value} {news : List (Addr × Obj)} {o : Obj} (F : Fr h₀ L h m) (N : News h₀ L h news) (hk : ∀ b o, h.get? b = some o → h4.get? b = some o) (hl0 : h.get? l = none) (hl : h4.get? l = some o) :
    News h₀ L h4 ((l, o) :: news) := fun p hp => by
  rcases List.mem_cons.mp hp with rfl | hp
  · refine ⟨hl, fun q => ?_, ?_⟩
    · obtain ⟨oC, e, _⟩ := ns_obj F.ns
      rw [← q, hl0] at e
      cases e
    · cases e : h₀.get? l with
      | none => rfl
      | some o' => have q := F.keep l o' e; rw [hl0] at q; cases q
  · exact ⟨hk _ _ (N p hp).1, (N p hp).2⟩
theorem lawS0 (PL : PlainL) (w : World) (ta tb : Tok) : LawS w 0 [.int 0 ta, .int 5 tb] := by
  unfold LawS
  k_fill
  rintro loose mean mg mb a cd h₀ L m s Q oLet oWit oScr W S D ys n0 n1 n2 n3 x y z t0 t1 t2 nW nS nD B F X N TT hl hw hI hbd hx hy hz h3 hg hDL hSL hret
  have e3 : ([n0, n1, n2, n3].getD (Int.toNat 3) 0).fmod 3 = 0 := h3
  unfold lawEnv lawD recOf
  dsimp only [List.drop]
  repeat ((fail_if_success (with_reducible show wpAny _ _ (call (Value.ref 91) _) _ _ _)); first | walk1 | (dsimp only; walk1))
  rotate_left
  · exact absurd e3 (by assumption)
  rename Fr h₀ _ _ _ => F2
  rename News h₀ _ _ _ => N2
  rename_i S2 _ hl1 _
  have hS2 : S2 ≠ L + 1 + 1 ∧ S2 ≠ L + 1 + 1 + 1 := far_lt hl1.2.2.2.2.1
  refine told_0 w L a cd _ _ _ _ (Frag.In.keeps X F2.keep) W nW x y z ta t0 t1 t2 tb (by omega) (by omega) (by omega) (by omega) (by omega) (by omega) _ _ _ hg (N2 _ (.tail _ (.tail _ (.head _)))).1 ?_
  intro l h4 gs tk4 nn hk4 hl0 hl4 hb
  have F4 := F2.keeps hk4
  have N4 := news_told F2 N2 hk4 hl0 hl4
  clear F2 N2 hl0
  (try dsimp only)
  repeat ((fail_if_success (with_reducible show wpAny _ _ (compareOp _ _ _) _ _ _)); first | walk1 | (dsimp only; walk1))
  clear hk4 hl4
  refine ne_intsK ⟨_, (N4 _ (.head _)).1, rfl, _, rfl⟩ (.cons _ _ (.cons _ _ (.cons _ _ (.cons _ _ .nil)))) ⟨_, (N4 _ (.tail _ (.head _))).1, rfl, _, rfl⟩ (.cons _ _ (.cons _ _ (.cons _ _ (.cons _ _ .nil)))) (by units_room) ?_
  rw [decide_eq_true rfl]
  repeat ((fail_if_success (with_reducible show wpAny _ _ (call (Value.ref 84) _) _ _ _)); first | walk1 | (dsimp only; walk1))
  k_dflt (refine' refu w _ _ _ _ loose mean mg mb _ _ _ _ _ _ _ _ callerA h₀ h₀ L _ _ _ _ _ ?B ?F ?X ?XB ?N ?T ?TB ?hk ?dp ?un ?pre ?_; (case B => exact B); (case F => k_asm); (case X => exact X); (case XB => exact X); (case N => k_asm); (case T => exact TT); (case TB => exact TT); (case hk => rfl); (case dp => ktr_room); (case un => ktr_units); (case pre => exact .head _))
  intro h5 tk5 gs5 F5 N5 hgs
  repeat ((fail_if_success (with_reducible show wpAny _ _ (execs (Stmt.Assign _ _ _ :: Stmt.Assign _ _ _ :: Stmt.Assign _ _ _ :: Stmt.For _ _ _ _ _ :: _) _) _ _ _)); first | walk1 | (dsimp only; walk1))
  dsimp only
  refine lawB_blk w [n0, n1, n2, n3] [x, y, z, z] loose mean mg mb a cd h₀ L _ [(L + 1 + 1 + 1, oLet), (L + 1 + 1, oWit), (L + 1, oScr), (S2, listOf #[.int x t0, .int y t1, .int z t2, .int z t2] 0), (D, listOf ys.toArray nD)] _ Q B F5 X (fun p hp => N5 p ?hin) TT ⟨PL _ _ rfl (.inr rfl) ?hz, rfl, hbd, Nat.le_refl 4, ?hz2, [(S2, listOf #[.int x t0, .int y t1, .int z t2, .int z t2] 0), (D, listOf ys.toArray nD)], oLet, oWit, oScr, D, ys, nD, S2, [.int x t0, .int y t1, .int z t2, .int z t2], 0, ⟨rfl, hl, hw, ?far⟩, rfl, .tail _ (.head _), hI, rfl, .head _, .cons _ _ (.cons _ _ (.cons _ _ (.cons _ _ .nil)))⟩ (fun h tk m' F => hret h tk m' _ F (hgs (fun y hy => by rw [List.mem_singleton.mp (Array.mem_toList_iff.mpr hy)]; exact hb)))
  case hin =>
    simp only [List.mem_cons, List.not_mem_nil, or_false] at hp ⊢
    rcases hp with h | h | h | h | h <;> simp [h]
  case hz => intro v hv; simp only [List.mem_cons, List.not_mem_nil, or_false] at hv; rcases hv with rfl | rfl | rfl | rfl <;> assumption
  case hz2 => intro v hv; simp only [List.mem_cons, List.not_mem_nil, or_false] at hv; rcases hv with rfl | rfl | rfl | rfl <;> assumption
  case far => intro p hp; simp only [List.mem_cons, List.not_mem_nil, or_false] at hp; rcases hp with rfl | rfl <;> assumption
theorem lawS1 (PL : PlainL) (w : World) (ta tb : Tok) : LawS w 1 [.int 127 ta, .int 5 tb] := by
  unfold LawS
  k_fill
  rintro loose mean mg mb a cd h₀ L m s Q oLet oWit oScr W S D ys n0 n1 n2 n3 x y z t0 t1 t2 nW nS nD B F X N TT hl hw hI hbd hx hy hz h3 hg hDL hSL hret
  have e3 : ([n0, n1, n2, n3].getD (Int.toNat 3) 0).fmod 3 = 1 := h3
  unfold lawEnv lawD recOf
  dsimp only [List.drop]
  repeat ((fail_if_success (with_reducible show wpAny _ _ (call (Value.ref 91) _) _ _ _)); first | walk1 | (dsimp only; walk1))
  · exact absurd (e3.symm.trans (by assumption)) (by decide)
  refine wpAny_execs_nil ?_
  dsimp only
  repeat ((fail_if_success (with_reducible show wpAny _ _ (call (Value.ref 91) _) _ _ _)); first | walk1 | (dsimp only; walk1))
  rename Fr h₀ _ _ _ => F2
  rename News h₀ _ _ _ => N2
  refine told_1 w L a cd _ _ _ _ (Frag.In.keeps X F2.keep) W nW x y z ta t0 t1 t2 tb (by omega) (by omega) (by omega) (by omega) (by omega) (by omega) _ _ _ hg (N2 _ (.head _)).1 ?_
  intro l h4 gs tk4 nn hk4 hl0 hl4 hb
  have F4 := F2.keeps hk4
  have N4 := news_told F2 N2 hk4 hl0 hl4
  clear F2 N2 hl0
  (try dsimp only)
  repeat ((fail_if_success (with_reducible show wpAny _ _ (compareOp _ _ _) _ _ _)); first | walk1 | (dsimp only; walk1))
  clear hk4 hl4
  refine ne_intsK ⟨_, (N4 _ (.head _)).1, rfl, _, rfl⟩ (.cons _ _ (.cons _ _ (.cons _ _ .nil))) ⟨_, (N4 _ (.tail _ (.tail _ (.head _)))).1, rfl, _, rfl⟩ (.cons _ _ (.cons _ _ (.cons _ _ .nil))) (by units_room) ?_
  rw [decide_eq_true rfl]
  repeat ((fail_if_success (with_reducible show wpAny _ _ (call (Value.ref 84) _) _ _ _)); first | walk1 | (dsimp only; walk1))
  k_dflt (refine' refu w _ _ _ _ loose mean mg mb _ _ _ _ _ _ _ _ callerA h₀ h₀ L _ _ _ _ _ ?B ?F ?X ?XB ?N ?T ?TB ?hk ?dp ?un ?pre ?_; (case B => exact B); (case F => k_asm); (case X => exact X); (case XB => exact X); (case N => k_asm); (case T => exact TT); (case TB => exact TT); (case hk => rfl); (case dp => ktr_room); (case un => ktr_units); (case pre => exact .head _))
  intro h5 tk5 gs5 F5 N5 hgs
  repeat ((fail_if_success (with_reducible show wpAny _ _ (execs (Stmt.Assign _ _ _ :: Stmt.Assign _ _ _ :: Stmt.Assign _ _ _ :: Stmt.For _ _ _ _ _ :: _) _) _ _ _)); first | walk1 | (dsimp only; walk1))
  dsimp only
  refine lawB_blk w [n0, n1, n2, n3] [x, y, z] loose mean mg mb a cd h₀ L _ [(L + 1 + 1 + 1, oLet), (L + 1 + 1, oWit), (L + 1, oScr), (S, listOf #[.int x t0, .int y t1, .int z t2] nS), (D, listOf ys.toArray nD)] _ Q B F5 X (fun p hp => N5 p ?hin) TT ⟨PL _ _ rfl (.inl rfl) ?hz, rfl, hbd, Nat.le_succ 3, ?hz2, [(S, listOf #[.int x t0, .int y t1, .int z t2] nS), (D, listOf ys.toArray nD)], oLet, oWit, oScr, D, ys, nD, S, [.int x t0, .int y t1, .int z t2], nS, ⟨rfl, hl, hw, ?far⟩, rfl, .tail _ (.head _), hI, rfl, .head _, .cons _ _ (.cons _ _ (.cons _ _ .nil))⟩ (fun h tk m' F => hret h tk m' _ F (hgs (fun y hy => by rw [List.mem_singleton.mp (Array.mem_toList_iff.mpr hy)]; exact hb)))
  case hin =>
    simp only [List.mem_cons, List.not_mem_nil, or_false] at hp ⊢
    rcases hp with h | h | h | h | h <;> simp [h]
  case hz => intro v hv; simp only [List.mem_cons, List.not_mem_nil, or_false] at hv; rcases hv with rfl | rfl | rfl <;> assumption
  case hz2 => intro v hv; simp only [List.mem_cons, List.not_mem_nil, or_false] at hv; rcases hv with rfl | rfl | rfl <;> assumption
  case far => intro p hp; simp only [List.mem_cons, List.not_mem_nil, or_false] at hp; rcases hp with rfl | rfl <;> assumption
theorem lawS2 (PL : PlainL) (w : World) (ta tb : Tok) : LawS w 2 [] := by
  unfold LawS
  k_fill
  rintro loose mean mg mb a cd h₀ L m s Q oLet oWit oScr W S D ys n0 n1 n2 n3 x y z t0 t1 t2 nW nS nD B F X N TT hl hw hI hbd hx hy hz h3 hg hDL hSL hret
  have e3 : ([n0, n1, n2, n3].getD (Int.toNat 3) 0).fmod 3 = 2 := h3
  unfold lawEnv lawD recOf
  dsimp only [List.drop]
  repeat ((fail_if_success (with_reducible show wpAny _ _ (call (Value.ref 91) _) _ _ _)); first | walk1 | (dsimp only; walk1))
  · exact absurd (e3.symm.trans (by assumption)) (by decide)
  refine wpAny_execs_nil ?_
  dsimp only
  repeat ((fail_if_success (with_reducible show wpAny _ _ (call (Value.ref 91) _) _ _ _)); first | walk1 | (dsimp only; walk1))
  rename Fr h₀ _ _ _ => F2
  rename News h₀ _ _ _ => N2
  refine told_2 w L a cd _ _ _ _ (Frag.In.keeps X F2.keep) W nW x y z t0 t1 t2 (by omega) (by omega) (by omega) (by omega) (by omega) (by omega) _ _ _ hg (N2 _ (.head _)).1 ?_
  intro l h4 gs tk4 nn hk4 hl0 hl4 hb
  have F4 := F2.keeps hk4
  have N4 := news_told F2 N2 hk4 hl0 hl4
  clear F2 N2 hl0
  (try dsimp only)
  repeat ((fail_if_success (with_reducible show wpAny _ _ (compareOp _ _ _) _ _ _)); first | walk1 | (dsimp only; walk1))
  clear hk4 hl4
  refine ne_intsK ⟨_, (N4 _ (.head _)).1, rfl, _, rfl⟩ (.cons _ _ (.cons _ _ (.cons _ _ .nil))) ⟨_, (N4 _ (.tail _ (.tail _ (.head _)))).1, rfl, _, rfl⟩ (.cons _ _ (.cons _ _ (.cons _ _ .nil))) (by units_room) ?_
  rw [decide_eq_true rfl]
  repeat ((fail_if_success (with_reducible show wpAny _ _ (call (Value.ref 84) _) _ _ _)); first | walk1 | (dsimp only; walk1))
  k_dflt (refine' refu w _ _ _ _ loose mean mg mb _ _ _ _ _ _ _ _ callerA h₀ h₀ L _ _ _ _ _ ?B ?F ?X ?XB ?N ?T ?TB ?hk ?dp ?un ?pre ?_; (case B => exact B); (case F => k_asm); (case X => exact X); (case XB => exact X); (case N => k_asm); (case T => exact TT); (case TB => exact TT); (case hk => rfl); (case dp => ktr_room); (case un => ktr_units); (case pre => exact .head _))
  intro h5 tk5 gs5 F5 N5 hgs
  repeat ((fail_if_success (with_reducible show wpAny _ _ (execs (Stmt.Assign _ _ _ :: Stmt.Assign _ _ _ :: Stmt.Assign _ _ _ :: Stmt.For _ _ _ _ _ :: _) _) _ _ _)); first | walk1 | (dsimp only; walk1))
  dsimp only
  refine lawB_blk w [n0, n1, n2, n3] [x, y, z] loose mean mg mb a cd h₀ L _ [(L + 1 + 1 + 1, oLet), (L + 1 + 1, oWit), (L + 1, oScr), (S, listOf #[.int x t0, .int y t1, .int z t2] nS), (D, listOf ys.toArray nD)] _ Q B F5 X (fun p hp => N5 p ?hin) TT ⟨PL _ _ rfl (.inl rfl) ?hz, rfl, hbd, Nat.le_succ 3, ?hz2, [(S, listOf #[.int x t0, .int y t1, .int z t2] nS), (D, listOf ys.toArray nD)], oLet, oWit, oScr, D, ys, nD, S, [.int x t0, .int y t1, .int z t2], nS, ⟨rfl, hl, hw, ?far⟩, rfl, .tail _ (.head _), hI, rfl, .head _, .cons _ _ (.cons _ _ (.cons _ _ .nil))⟩ (fun h tk m' F => hret h tk m' _ F (hgs (fun y hy => by rw [List.mem_singleton.mp (Array.mem_toList_iff.mpr hy)]; exact hb)))
  case hin =>
    simp only [List.mem_cons, List.not_mem_nil, or_false] at hp ⊢
    rcases hp with h | h | h | h | h <;> simp [h]
  case hz => intro v hv; simp only [List.mem_cons, List.not_mem_nil, or_false] at hv; rcases hv with rfl | rfl | rfl <;> assumption
  case hz2 => intro v hv; simp only [List.mem_cons, List.not_mem_nil, or_false] at hv; rcases hv with rfl | rfl | rfl <;> assumption
  case far => intro p hp; simp only [List.mem_cons, List.not_mem_nil, or_false] at hp; rcases hp with rfl | rfl <;> assumption
end Mine
end
noncomputable section
open PySem PySem.W PySem.Calls PyProof.Rows PyProof PyProof.Rows.LCg PyProof.Rows.LCt PyProof.Rows.LCp
set_option Elab.async false
set_option maxRecDepth 100000
namespace Mine
theorem offEnumT : True := by
  w_top off
  trivial
section
variable {prog : Program} {w : World} {A : Around} {E : Value → Shared → Prop} {s : Shared}
/-- one draw from a tuple's iterator: the item at its place, or the end -/
theorem tup_draw {it l : Addr} {i : Nat} {items : Array Value} {Q : Value → Shared → Prop} (hh : A.handled = none) (T : s.heap.IsTupleIter it l i) (U : s.heap.IsTuple l items)
    (hQ : ∀ x h', items[i]? = some x → h'.IsTupleIter it l (i + 1) → Heap.SameBut it s.heap h' → Q x { s with heap := h' })
    (hE : items[i]? = none → ∀ h' e, Heap.ExtBut it s.heap h' → (∃ o, h'.get? e = some o ∧ o.cls = .type "StopIteration") → E (.ref e) { s with heap := h' }) :
    wpAny (model prog w) A (Builtin.SmallTypes.nextOf (.ref it)) Q E s := by
  have ty := T.typeIs
  obtain ⟨o, ho, hc, hd⟩ := T
  obtain ⟨ol, hol, -, nl, hdl⟩ := U
  have hh1 : A.in1.handled = none := hh
  refine wpAny_bind (wpAny_callSpecial?_slot ty F.slot_tuple_iterator_next (wpAny_call_entry F.slot_tuple_iterator_next ty F.entry_tuple_iterator_next ?_ (F.args_tuple_iterator_next_1 _)))
  wp_walk using wpAny_field ho hd rfl
  rw [hdl]
  wp_walk
  dsimp only
  rw [Int.toNat_natCast]
  cases hx : items[i]? with
  | some x =>
    wp_walk using wpAny_setField ho hd (by simp)
    have e := Obj.data_mapFields (f := fun x => x.setIfInBounds 1 (rawInt ((i : Int) + 1))) hd
    exact ⟨_, rfl, wpAny_pure (hQ x _ hx ⟨_, Heap.get?_update_self _ ho (Obj.isFreed_of_fields e), by rw [Obj.cls_mapFields, hc], by rw [e]; simp [rawInt]⟩ (Heap.SameBut.update ..))⟩
  | none =>
    dsimp only
    wp_walk using wpAny_setField ho hd (by simp)
    unfold raiseNew
    wp_walk
    exact hE hx _ _ ((Heap.SameBut.update ..).extBut.push _ |>.push _) ⟨_, Heap.get?_push_size _ rfl, rfl⟩
theorem tup_draws (hh : A.handled = none) (it l : Addr) (hne : l ≠ it) (items : Array Value) :
    Draws prog w A it [it, l] items.size (fun i v => items[i]? = some v) (fun i h => h.IsTupleIter it l i ∧ h.IsTuple l items) where
  live _ _ st := let ⟨o, ho, _⟩ := st.1; ⟨o, ho⟩
  frame _ _ _ st hk := ⟨st.1.at fun o e => hk it (by simp) o e, let ⟨o, ho, r⟩ := st.2; ⟨o, hk l (by simp) o ho, r⟩⟩
  item i s Q E hi st hQ := tup_draw hh st.1 st.2 (fun x h' hx a b => hQ x h' s.toks hx ⟨a, st.2.extBut b.extBut hne⟩ b) (fun hx => absurd hi (by simpa using hx))
  done s Q E st hE := tup_draw hh st.1 st.2 (fun x h' hx => by simp at hx) (fun _ => hE)
end
open AutoSeq1 (wpAny_loadPart')
/-- what enumerate of a tuple leaves: two objects more, the enumerate over a fresh iterator -/
noncomputable def Enumd (l : Addr) (h h' : Heap) : Prop :=
  IsEnum h' (h.objs.size + 1) h.objs.size 0 .none ∧ h'.IsTupleIter h.objs.size l 0 ∧ h'.objs.size = h.objs.size + 2 ∧ ∀ b o, h.get? b = some o → h'.get? b = some o
theorem enumd (l : Addr) (h : Heap) : Enumd l h ((h.push { cls := .type "tuple_iterator", data := .fields #[.ref l, .int 0 0] }).push { cls := .type "enumerate", data := .fields #[.none, .bool false, .ref h.objs.size, rawInt 0, .none, .none] }) := by
  have z := @Heap.size_push h
  refine ⟨?_, ⟨_, Heap.get?_push_of_some _ (Heap.get?_push_size _ rfl), rfl, rfl⟩, by rw [Heap.size_push, z], fun b o e => Heap.get?_push_of_some _ (Heap.get?_push_of_some _ e)⟩
  unfold IsEnum
  rw [← z]
  exact Heap.get?_push_size _ rfl
theorem enum_new (l : Addr) (items : Array Value) : Meets (Builtin.«enumerate.__new__» ⟨[.type "enumerate", .ref l], []⟩) (fun _ R s => s.heap.IsTuple l items ∧
    ∀ h', Enumd l s.heap h' → R (.ok (.ret (.ref (s.heap.objs.size + 1)))) { s with heap := h' }) :=
  .of_wp fun prog w A R s ⟨U, k⟩ => by
    obtain ⟨o, ho, hc, n, hd⟩ := id U
    have hsub := sub_enumerate
    have fin := k _ (enumd l s.heap)
    rw [← Heap.size_push (o := { cls := .type "tuple_iterator", data := .fields #[.ref l, .int 0 0] })] at fin
    wp_walk using wpAny_loadPart' ho
    refine wpAny_stack_any fun st => wpAny_pure ?_
    split
    case h_1 c _ _ _ _ _ => cases c == Value.type "enumerate" <;> (wp_walk using wpAny_loadPart' ho, wpAny_pyIter_tuple U; exact ⟨_, rfl, fin⟩)
    case h_2 => wp_walk using wpAny_loadPart' ho, wpAny_pyIter_tuple U; exact ⟨_, rfl, fin⟩
theorem enum_tup {prog : Program} {w : World} {A : Around} {E : Value → Shared → Prop} {s : Shared} {l : Addr} {items : Array Value} {Q : Value → Shared → Prop} (U : s.heap.IsTuple l items)
    (k : ∀ h', Enumd l s.heap h' → Q (.ref (s.heap.objs.size + 1)) { s with heap := h' }) : wpAny (model prog w) A (call (.type "enumerate") [.ref l]) Q E s :=
  callType_new F.called_enumerate (by decide) (F.typeCall_enumerate_1 _) (F.newCall_enumerate_1 _) (fun o => F.args_object_init_2 o _) F.entry_enumerate_new (enum_new l items)
    ⟨U, fun h' e => ⟨⟨_, e.1, rfl⟩, k h' e⟩⟩
section
variable {prog : Program} {w : World} {A : Around} {E : Value → Shared → Prop} {s : Shared} {h₀ : Heap} {L : Addr} {m : Str → Option Value} {env : Env}
/-- one turn of a comprehension over enumerate of a tuple: the element is told, the ledger is as it was -/
noncomputable def TurnE (prog : Program) (w : World) (A : Around) (h₀ : Heap) (L : Addr) (m : Str → Option Value) (env : Env) (elt : Expr) (x y : Str) (scope : Scope) (cl : List (Str × Addr)) (its : Array Value) (G : Value → Prop) (news : List (Addr × Obj)) (s : Shared) : Prop :=
  ∀ (i : Nat) v tc (e it : Addr) oe oit (C : Addr) oC (D : Addr) ys u h tk (E' : Value → Shared → Prop), its[i]? = some v → NsObj oC u → u x = some (.int i tc) → u y = some v → Fr h₀ L h m → News h₀ L h ((e, oe) :: (it, oit) :: (C, oC) :: (D, lst ys) :: news) →
    wpAny (model prog w) A (eval elt (compEnvC scope cl C env)) (fun r s' => ∃ h' tk', s' = { s with heap := h', toks := tk' } ∧ Fr h₀ L h' m ∧ News h₀ L h' ((e, oe) :: (it, oit) :: (C, oC) :: (D, lst ys) :: news) ∧ G r) E' { s with heap := h, toks := tk }

/-- the loop's state ahead of turn i -/
structure LoopE (h₀ : Heap) (L : Addr) (m : Str → Option Value) (e it ax C D : Addr) (its : Array Value) (news : List (Addr × Obj)) (G : Value → Prop) (i : Nat) (h : Heap) : Prop where
  src : (∃ old, IsEnum h e it (i : Int) old) ∧ h.IsTupleIter it ax i ∧ h.IsTuple ax its
  cell : ∃ u, h.Ns C u
  acc : ∃ ys, ys.length = i ∧ (∀ y ∈ ys, G y) ∧ h.get? D = some (lst ys)
  fr : Fr h₀ L h m
  led : News h₀ L h news

theorem loopE {elt iter : Expr} {x y : Str} {px py tp : Pos} {tk} {scope : Scope} {cl : List (Str × Addr)} {pos : Pos} {e it ax C D : Addr} {its : Array Value} {G : Value → Prop} {news : List (Addr × Obj)} {R : Result → Shared → Prop}
    (hsz : its.size ≤ sizeLine) (hkind : scope.kind = .function) (hx : scope.names.lookup x = some .local) (hy : scope.names.lookup y = some .local) (hxy : x ≠ y) (hh : A.handled = none)
    (nd : [e, it, ax, C, D].Nodup) (own : Anew h₀ L [e, it, C, D]) (off : ∀ p ∈ news, p.1 ∉ [e, it, C, D]) (hax : ∃ k, (ax, tupOf its k) ∈ news)
    (turn : TurnE prog w A h₀ L m env elt x y scope cl its G news s)
    (done : ∀ h tk u ys, h.Ns C u → ys.length = its.size → (∀ y ∈ ys, G y) → Fr h₀ L h m → News h₀ L h ((D, lst ys) :: news) → R (.ok .next) { s with heap := h, toks := tk })
    (S₀ : LoopE h₀ L m e it ax C D its news G 0 s.heap) :
    codeAny (model prog w) A (.compLoop (.ListComp elt [⟨.Tuple [.Name x px, .Name y py] tk tp, iter, [], 0⟩] scope pos) 0 (.ref e) (.ref D) (compEnvC scope cl C env)) R s := by
  simp only [List.nodup_cons, List.mem_cons, List.not_mem_nil, or_false, not_or, List.nodup_nil, and_true, not_false_eq_true] at nd
  obtain ⟨⟨ei, ex, eC, eD⟩, ⟨ix, iC, iD⟩, ⟨xC, xD⟩, CD⟩ := nd
  have W := (WalksT.enumerateD (tup_draws (prog := prog) (w := w) (A := A.in1) hh it ax (Ne.symm ix) its) e ei (by simp [ei, ex]) (by simp)).toU
  have ow2 : Anew h₀ L [e, it] := fun a ha => own a (by simp at ha ⊢; rcases ha with h | h <;> simp [h])
  have of2 : ∀ p ∈ news, p.1 ∉ [e, it] := fun p hp => by have := off p hp; simp at this ⊢; exact ⟨this.1, this.2.1⟩
  have oC : ∀ p ∈ news, p.1 ≠ C := fun p hp => by have := off p hp; simp at this; exact this.2.2.1
  have oD : ∀ p ∈ news, p.1 ≠ D := fun p hp => by have := off p hp; simp at this; exact this.2.2.2
  refine kcp_loop (fun n s' => ∃ h tk i, s' = { s with heap := h, toks := tk } ∧ i ≤ its.size ∧ n = its.size - i ∧ LoopE h₀ L m e it ax C D its news G i h) ?_ its.size ⟨s.heap, s.toks, 0, rfl, Nat.zero_le _, rfl, S₀⟩
  rintro n s' ⟨h, tk, i, rfl, hi, rfl, S⟩
  rcases Nat.lt_or_eq_of_le hi with lt | rfl
  · refine W.item i _ _ _ lt S.src fun T vals h1 t1 hP hT hm k1 => ?_
    obtain ⟨tc, v, hv, rfl⟩ := hP
    refine W.go _ _ _ i T _ _ _ hm fun h2 src2 k2 => ?_
    have k : Out [e, it] h h2 := fun b o q z => k2 b o q (k1 b o q z)
    obtain ⟨u, hu⟩ := S.cell
    obtain ⟨oT, hoT, rT⟩ := hT
    refine kcp_assign hh ⟨oT, k2 T oT (W.apart i T _ hm) hoT, rT⟩ (lookup_relabel_local hx) (lookup_relabel_local hy) (by simp [compEnvC, relabel, hkind]) (hu.at' fun o z => k C o (by simp [Ne.symm eC, Ne.symm iC]) z) fun h3 t3 n3 k3 => ?_
    change ∀ c o, c ≠ C → h2.get? c = some o → h3.get? c = some o at k3
    obtain ⟨ys, hl, hg, hD⟩ := S.acc
    have F3 : Fr h₀ L h3 m := Out.fr (v := [C]) (fun b o q => k3 b o (by simpa using q)) (fun a ha => own a (by simp at ha ⊢; simp [ha])) (k.fr ow2 S.fr)
    have N3 : News h₀ L h3 news := Out.led (v := [C]) (fun b o q => k3 b o (by simpa using q)) (fun p hp => by simpa using oC p hp) (k.led of2 S.led)
    have D3 := k3 D _ (Ne.symm CD) (k D _ (by simp [Ne.symm eD, Ne.symm iD]) hD)
    have src3 := W.frame _ _ h3 src2 fun b hb o z => k3 b o (by simp at hb; rcases hb with rfl | rfl | rfl <;> assumption) z
    obtain ⟨⟨old, he3⟩, ⟨oi, hi3, ri⟩, -⟩ := src3
    obtain ⟨oc, hc3, rc⟩ := ns_obj n3
    have N4 : News h₀ L h3 ((e, _) :: (it, oi) :: (C, oc) :: (D, lst ys) :: news) :=
      List.forall_mem_cons.mpr ⟨⟨he3, own e (by simp)⟩, List.forall_mem_cons.mpr ⟨⟨hi3, own it (by simp)⟩, List.forall_mem_cons.mpr ⟨⟨hc3, own C (by simp)⟩, List.forall_mem_cons.mpr ⟨⟨D3, own D (by simp)⟩, N3⟩⟩⟩⟩
    refine wpAny_mono (turn i v tc e it _ oi C oc D ys _ h3 _ _ hv rc (by simp [hxy]) (by simp) F3 N4) (fun r s4 q => ?_) fun _ _ z => z
    obtain ⟨h4, t4, rfl, F4, N5, hr⟩ := q
    obtain ⟨a1, N6⟩ := List.forall_mem_cons.mp N5
    obtain ⟨a2, N7⟩ := List.forall_mem_cons.mp N6
    obtain ⟨a3, N8⟩ := List.forall_mem_cons.mp N7
    obtain ⟨a4, N9⟩ := List.forall_mem_cons.mp N8
    obtain ⟨kx, hkx⟩ := hax
    refine append_at a4.1 (fun h5 sb d5 => ⟨its.size - (i + 1), by omega, h5, t4, i + 1, rfl, lt, rfl, ?_⟩) (by show ys.toArray.size ≤ sizeLine; rw [List.size_toArray, hl]; exact Nat.le_trans hi hsz)
    have k5 : Out [D] h4 h5 := fun b o q z => sb.extBut b o (by simpa using q) z
    exact { src := W.frame _ _ h5 ⟨⟨_, a1.1⟩, ⟨oi, a2.1, ri⟩, ⟨_, (N9 _ hkx).1, rfl, kx, rfl⟩⟩ fun b hb o z => k5 b o (by simp at hb ⊢; rcases hb with rfl | rfl | rfl <;> assumption) z
            cell := ⟨_, (rc.ns a3.1).at' fun o z => k5 C o (by simpa using CD) z⟩
            acc := ⟨ys ++ [r], by simp [hl], fun z hz => (List.mem_append.mp hz).elim (hg z) fun q => List.mem_singleton.mp q ▸ hr, d5.trans (congrArg some (lst_snoc ys r))⟩
            fr := k5.fr (fun a ha => own a (by simp at ha ⊢; simp [ha])) F4
            led := k5.led (fun p hp => by simpa using oD p hp) N9 }
  · refine W.done _ _ _ S.src fun h1 t1 k1 => ?_
    have k : Out [e, it] h h1 := k1
    obtain ⟨u, hu⟩ := S.cell
    obtain ⟨ys, hl, hg, hD⟩ := S.acc
    exact done h1 t1 u ys (hu.at' fun o z => k C o (by simp [Ne.symm eC, Ne.symm iC]) z) hl hg (k.fr ow2 S.fr)
      (List.forall_mem_cons.mpr ⟨⟨k D _ (by simp [Ne.symm eD, Ne.symm iD]) hD, own D (by simp)⟩, k.led of2 S.led⟩)
end
section
variable {prog : Program} {w : World} {A : Around} {E : Value → Shared → Prop} {s : Shared} {h₀ : Heap} {L : Addr} {m : Str → Option Value} {env : Env}
/-- where the comprehension stands when its source has been told: an enumerate, just made over a tuple of the ledger -/
noncomputable def SrcE (prog : Program) (w : World) (A : Around) (h₀ : Heap) (L : Addr) (m : Str → Option Value) (env : Env) (elt : Expr) (x y : Str) (scope : Scope) (cl : List (Str × Addr)) (G : Value → Prop) (Fin : Nat → List (Addr × Obj) → Shared → Prop) (v : Value) (s : Shared) : Prop :=
  ∃ (g : Heap) (l : Addr) (its : Array Value) (k : Nat) (news : List (Addr × Obj)), v = .ref (g.objs.size + 1) ∧ A.handled = none ∧ Enumd l g s.heap ∧ Fr h₀ L g m ∧ News h₀ L g news ∧ (l, tupOf its k) ∈ news ∧ its.size ≤ sizeLine ∧
    TurnE prog w A h₀ L m env elt x y scope cl its G news s ∧ Fin its.size news s
theorem fresh_from {g : Heap} (F : Fr h₀ L g m) {a : Addr} (ha : @LE.le Nat _ g.objs.size a) : a ≠ L ∧ h₀.get? a = none := by
  refine ⟨fun q => ?_, ?_⟩
  · have lt : @LT.lt Nat _ L g.objs.size := F.ns.lt
    subst q; exact Nat.not_lt.mpr ha lt
  · cases q : h₀.get? a with
    | none => rfl
    | some o => exact absurd (Heap.lt_size (F.keep a o q)) (Nat.not_lt.mpr ha)
theorem assignE {elt iter : Expr} {x y z : Str} {px py pz tp : Pos} {tk} {scope : Scope} {cl : List (Str × Addr)} {pos spos : Pos} {Q : Flow → Shared → Prop} (G : Value → Prop) (hL : env.locals = L)
    (sw : swapsWith (.ListComp elt [⟨.Tuple [.Name x px, .Name y py] tk tp, iter, [], 0⟩] scope pos) (some (.Name z pz)) spos.line env = pure true) (hcl : closureFor scope env = pure cl)
    (hc : ∀ n ∈ scope.names, n.2 ≠ .cell) (hkind : scope.kind = .function) (hn : ∀ n ∈ scope.names, n.2 = .local → scope.names.lookup n.1 = some .local)
    (hx : scope.names.lookup x = some .local) (hy : scope.names.lookup y = some .local) (hxy : x ≠ y) (hz : env.kindOf z = some .local) (hp : (env.scope.kind == .class || (env.scope.kind == .module && env.locals != env.globals)) = false)
    (src : wpAny (model prog w) A (eval iter env) (SrcE prog w A h₀ L m env elt x y scope cl G fun n news s₁ =>
      ∀ ys, ys.length = n → (∀ r ∈ ys, G r) → ∀ D h tk, Fr h₀ L h (fun t => if t = z then some (.ref D) else m t) → News h₀ L h ((D, lst ys) :: news) → (∀ p ∈ news, @LT.lt Nat _ p.1 D) → Q .next { s₁ with heap := h, toks := tk }) E s)
    (fs : ∀ v, foldedSetIterable iter env v = pure v := by intro _; rfl) :
    wpAny (model prog w) A (exec (.Assign [.Name z pz] (.ListComp elt [⟨.Tuple [.Name x px, .Name y py] tk tp, iter, [], 0⟩] scope pos) spos) env) Q E s := by
  rw [exec_Assign_Name_used _ _ _ _ sw]
  refine wpAny_bind (wpAny_standAt (wpAny_bind (wpAny_bind (m := comprehension _ scope env _ (newList []) false (eval iter env) (some (assign (.Name z pz) env))) (wpAny_mono (Q := fun _ s' => Q .next s') ?_ (fun _ _ q => wpAny_pure (wpAny_pure q)) fun _ _ q => q))))
  refine wpAny_comprehension_free rfl fs hcl hkind hn (wpAny_mono src ?_ fun _ _ q => q)
  rintro v s₁ ⟨g, l, its, k, news, rfl, hh, ⟨he, hi, hgz, hup⟩, F, N, hl, hsz, turn, fin⟩
  refine wpAny_pyIter_enum he (wpAny_newObj_type (wpAny_newFunctionEnv hc (fun _ q => nomatch q) (fun h1 n1 b1 => ?_) hkind))
  subst hL
  dsimp only at n1 b1 ⊢
  have eD : s₁.heap.objs.size = g.objs.size + 2 := hgz
  have eC : (s₁.heap.push { cls := .type "list", data := .seq #[] }).objs.size = g.objs.size + 3 := by rw [Heap.size_push, hgz]
  have lt : ∀ p ∈ news, @LT.lt Nat _ p.1 g.objs.size := fun p hp => Heap.lt_size (N p hp).1
  have ge : ∀ a ∈ [g.objs.size + 1, g.objs.size, (s₁.heap.push { cls := .type "list", data := .seq #[] }).objs.size, s₁.heap.objs.size], @LE.le Nat _ g.objs.size a := by
    intro a ha
    rw [eC, eD] at ha
    simp only [List.mem_cons, List.not_mem_nil, or_false] at ha
    rcases ha with rfl | rfl | rfl | rfl <;> omega
  have up : ∀ b o, s₁.heap.get? b = some o → h1.get? b = some o := fun b o q => b1.extBut b o (by have z : @LT.lt Nat _ b s₁.heap.objs.size := Heap.lt_size q; intro r; have r : @Eq Nat b _ := r; rw [eC] at r; omega) (Heap.get?_push_of_some _ (Heap.get?_push_of_some _ q))
  have nd : [g.objs.size + 1, g.objs.size, l, (s₁.heap.push { cls := .type "list", data := .seq #[] }).objs.size, s₁.heap.objs.size].Nodup := by
    have z : @LT.lt Nat _ l g.objs.size := lt _ hl
    rw [eC, eD]
    simp only [List.nodup_cons, List.mem_cons, List.not_mem_nil, or_false, not_or, List.nodup_nil, and_true, not_false_eq_true]
    refine ⟨⟨?_, ?_, ?_, ?_⟩, ⟨?_, ?_, ?_⟩, ⟨?_, ?_⟩, ?_⟩ <;> (intro q; have q : @Eq Nat _ _ := q; omega)
  have CD := nd
  simp only [List.nodup_cons, List.mem_cons, List.not_mem_nil, or_false, not_or, List.nodup_nil, and_true, not_false_eq_true] at CD
  have lp := loopE (elt := elt) (iter := iter) (px := px) (py := py) (tp := tp) (tk := tk) (pos := pos) (s := { s₁ with heap := h1, toks := s₁.toks + ([] : List (Str × Value)).length }) (R := compPost (model prog w) A E (some (assign (.Name z pz) env)) (fun _ s' => Q .next s') (.ref s₁.heap.objs.size) (s₁.heap.push { cls := .type "list", data := .seq #[] }).objs.size)
    hsz hkind hx hy hxy hh nd (fun a ha => fresh_from F (ge a ha)) (fun p hp q => Nat.not_lt.mpr (ge _ q) (lt p hp)) ⟨k, hl⟩ turn
    (fun h t u ys hu hlen hg Fh Nh => by
      show wpAny _ A (assign (.Name z pz) env _) _ _ _
      refine wpAny_assign_Name (wpAny_storeName_local hz Fh.ns (fun h2 n2 b2 => ⟨u, hu.at' fun o q => b2.extBut _ o (fresh_from F (ge _ (by simp))).1 q, fun h3 b3 => fin ys hlen hg _ h3 _ ((Fh.set n2 b2).change b3 (fresh_from F (ge _ (by simp))).1 (fresh_from F (ge _ (by simp))).2) (fun p hp => ⟨b3.extBut _ _ ?_ (b2.extBut _ _ (Nh p hp).2.1 (Nh p hp).1), (Nh p hp).2⟩) (fun p hp => by rw [eD]; have := lt p hp; omega)⟩) hp)
      rcases List.mem_cons.mp hp with rfl | hp
      · exact Ne.symm CD.2.2.2
      · intro q; have := lt p hp; rw [q, eC] at this; omega)
    ⟨⟨⟨_, up _ _ he⟩, hi.at fun o => up _ o, ⟨_, up _ _ (hup _ _ (N _ hl).1), rfl, k, rfl⟩⟩, ⟨_, n1⟩, ⟨[], rfl, (fun _ q => nomatch q), b1.extBut _ _ (Ne.symm CD.2.2.2) (Heap.get?_push_of_some _ (Heap.get?_push_size _ rfl))⟩, F.keeps fun b o q => up b o (hup b o q), N.grown fun b o q => up b o (hup b o q)⟩
  exact codeAny_compStart_list lp (wpAny_pyIter_enum (up _ _ he) lp)
end
end Mine
end
noncomputable section
open PySem PySem.W PySem.Calls PyProof.Rows PyProof PyProof.Rows.LCg PyProof.Rows.LCt
set_option Elab.async false
set_option maxRecDepth 100000
set_option maxHeartbeats 1000000
namespace Mine
theorem offLawA : True := by
  w_top off
  trivial
theorem sum_bd (g : Int → Int) (hg : ∀ z, 0 ≤ g z ∧ g z ≤ 1000000) : ∀ l : List Int, 0 ≤ (l.map g).sum ∧ (l.map g).sum ≤ 1000000 * (l.length : Int)
  | [] => by simp
  | z :: l => by
    have h1 := hg z
    have h2 := sum_bd g hg l
    simp only [List.map_cons, List.sum_cons, List.length_cons]
    omega
theorem three_ints {ys : List Value} {a b c : Int} (h : IntsAre ys [a, b, c]) : ∃ t0 t1 t2, ys = [Value.int a t0, Value.int b t1, Value.int c t2] := by
  obtain ⟨t0, y1, rfl, h1⟩ := IntsAre.cons_inv h
  obtain ⟨t1, y2, rfl, h2⟩ := IntsAre.cons_inv h1
  obtain ⟨t2, y3, rfl, h3⟩ := IntsAre.cons_inv h2
  obtain rfl := IntsAre.nil_inv h3
  exact ⟨t0, t1, t2, rfl⟩
theorem four_ints {ys : List Value} (hlen : ys.length = 4) (hys : ∀ y ∈ ys, ∃ n t, y = Value.int n t ∧ 0 ≤ n ∧ n ≤ 1000000000) :
    ∃ n0 n1 n2 n3, IntsAre ys [n0, n1, n2, n3] ∧ ∀ n ∈ [n0, n1, n2, n3], 0 ≤ n ∧ n ≤ 1000000000 := by
  match ys, hlen with
  | [a, b, c, d], _ =>
    obtain ⟨n0, t0, rfl, h0⟩ := hys a (by simp)
    obtain ⟨n1, t1, rfl, h1⟩ := hys b (by simp)
    obtain ⟨n2, t2, rfl, h2⟩ := hys c (by simp)
    obtain ⟨n3, t3, rfl, h3⟩ := hys d (by simp)
    refine ⟨n0, n1, n2, n3, .cons _ _ (.cons _ _ (.cons _ _ (.cons _ _ .nil))), ?_⟩
    intro n hn
    simp only [List.mem_cons, List.not_mem_nil, or_false] at hn
    rcases hn with rfl | rfl | rfl | rfl <;> assumption
section
variable {prog : Program} {w : World} {A : Around} {h₀ : Heap} {L : Addr} {m : Str → Option Value} {env : Env} {elt : Expr} {x : Str} {scope : Scope} {cl : List (Str × Addr)} {s : Shared} {S : List (Addr × Obj) → Prop} {Fin : List Value → List (Addr × Obj) → Prop} {news : List (Addr × Obj)}
/-- a comprehension over a list of ints that makes ints, each by a relation -/
theorem cii_rest {its : Array Value} {ns : List Int} (g : Int → Int) (hvs : IntsAre its.toList ns)
    (turn : ∀ z t I oI C oC D m₂ ys h tk (E' : Value → Shared → Prop), z ∈ ns → NsObj oC m₂ → m₂ x = some (.int z t) → Fr h₀ L h m → News h₀ L h ((I, oI) :: (C, oC) :: (D, lst ys) :: news) → Off3 I C D news → ((@Ne Nat I C) ∧ (@Ne Nat I D) ∧ (@Ne Nat C D)) →
      wpAny (model prog w) A (eval elt (compEnvC scope cl C env)) (CompEnd h₀ L m { s with heap := h, toks := tk } I oI C oC D (lst ys) S (fun y news' => news' = news ∧ ∃ t, y = .int (g z) t)) E' { s with heap := h, toks := tk })
    (fin : ∀ ys, IntsAre ys (ns.map g) → Fin ys news) : CompRest prog w A h₀ L m env elt x scope cl s S (fun i v => its[i]? = some v) Fin its.size 0 [] news := by
  refine rest_by (fun i ys => IntsAre ys ((ns.take i).map g)) ?_ .nil fun ys hy => fin ys ?_
  · intro i ys v I oI C oC D u h tk E' hv hy hC hx F N o ne
    obtain ⟨z, t, rfl, hz⟩ := hvs.at i v (by simpa using hv)
    exact wpAny_mono (turn z t I oI C oC D u ys h tk E' (List.mem_of_getElem? hz) hC hx F N o ne) (fun _ _ => end_to fun _ ⟨e, t', hy'⟩ => ⟨e, by rw [hy', List.take_add_one, hz, List.map_append]; exact IntsAre.append hy (.cons _ t' .nil)⟩) fun _ _ q => q
  · have e : its.size = ns.length := by simpa using hvs.length
    rwa [e, List.take_length] at hy
end
theorem news_pick {h₀ h : Heap} {L W S D : Addr} {o1 o2 o3 : Obj} {a1 a2 a3 a4 b1 c1 c2 c3 : Addr × Obj} (N : News h₀ L h [(W, o1), a1, a2, a3, a4, (S, o2), b1, (D, o3), c1, c2, c3]) : News h₀ L h [(W, o1), (S, o2), (D, o3), c1, c2, c3] := fun p hp => N p (by
  simp only [List.mem_cons, List.not_mem_nil, or_false] at hp ⊢
  rcases hp with h | h | h | h | h | h <;> simp [h])
theorem mod_two (n : Int) : 1 + n.fmod 2 = 1 ∨ 1 + n.fmod 2 = 2 := by
  have h1 := Int.fmod_nonneg_of_pos n (b := 2) (by decide)
  have h2 := Int.fmod_lt_of_pos n (b := 2) (by decide)
  omega
theorem lawA_blk (PL : PlainL) (w : World) : ∀ (loose : List Str) (mean : ExcName → Option Value) (mg mb : Str → Option Value) (a : Addr) (cd : Value) (h₀ : Heap) (L : Addr) (m : Str → Option Value) (s : Shared) (Q : Flow → Shared → Prop) (oLet oWit oScr : Obj) (l : Addr) (vs : List Value) (ns : List Int),
    Below callerA h₀ [] h₀ → Fr h₀ L s.heap m → (hd.heap_39 w.params).In h₀ → News h₀ L s.heap [(L + 1 + 1 + 1, oLet), (L + 1 + 1, oWit), (L + 1, oScr)] → Top hd.view_39 loose mean mg mb h₀ →
    (∃ v, oLet.data = .cell v) → (∃ v, oWit.data = .cell v) → oScr.data = .cell (some (.ref l)) → h₀.IsList l vs.toArray → IntsAre vs ns → ns.length ≤ 63 → s.gens = #[] →
    (∀ h tk m' gs, Fr h₀ L h m' → AllBare gs → Q (.ret (.bool true)) { s with heap := h, toks := tk, gens := gs }) →
    wpAny (model PySem.Challenge.rw_wn0102_01.row.toRowW.prog w) (callerA.deeper (lawEnv L a cd)) (execs lawD.body (lawEnv L a cd)) Q (fun _ _ => False) s := by
  k_fill
  rintro loose mean mg mb a cd h₀ L m s Q oLet oWit oScr l vs ns B F X N TT hl hw hs hls hns hn63 hg hret
  unfold lawEnv lawD recOf
  dsimp only
  (repeat' ((fail_if_success (with_reducible show wpAny _ _ (exec (Stmt.For _ _ _ _ _) _) _ _ _)); (fail_if_success (with_reducible show wpAny _ _ (execs (Stmt.Assign _ _ _ :: Stmt.Assign _ _ _ :: Stmt.If _ _ _ _ :: _) _) _ _ _)); (fail_if_success (with_reducible show wpAny _ _ (pyIter _) (fun it s₂ => LoopAtV _ _ _ _ _ _ _ _ _ it s₂) _ _)); (fail_if_success (with_reducible show wpAny _ _ (exec (Stmt.Assign _ (Expr.ListComp _ _ _ _) _) _) _ _ _)); (fail_if_success (with_reducible show At _ _ _ _ _ _ _ _ _)); (fail_if_success (with_reducible show WPost _ _ _ _ _)); (fail_if_success (with_reducible show AtI _ _ _ _ _ _ _ _ _ _ _)); first | (k_unfold; (try dsimp only)) | ((with_reducible refine wpAny_execs_cons ?_); (try dsimp only)) | walk1 | (dsimp only; walk1)))
  refine assignE (h₀ := h₀) (L := L) (m := m) (fun y => ∃ n t, y = .int n t ∧ 0 ≤ n ∧ n ≤ 1000000000) (by rfl) (by rfl) (by with_unfolding_all rfl) (by decide) (by rfl) (by decide) (by rfl) (by rfl) (by decide) (by rfl) (by rfl) ?_
  repeat ((fail_if_success (with_reducible show wpAny _ _ (call (Value.type _) [_]) _ _ _)); first | walk1 | (dsimp only; walk1))
  rename_i D1 g1 F1 N1 o1
  refine enum_tup ⟨_, (N1 _ (.head _)).1, rfl, _, rfl⟩ fun g2 en => ?_
  refine ⟨g1, D1, _, _, _, rfl, rfl, en, F1, N1, .head _, (Nat.le_of_ble_eq_true rfl), ?turn, ?fin⟩
  case turn =>
    clear hret
    clear F1 N1 o1 en
    intro i v tc e it oe oit C oC D ys m₂ h3 tk3 E' hv hC hmx hmb F3 N3
    have hb : i < 4 ∧ ∃ b t, v = .int b t ∧ 0 ≤ b ∧ b ≤ 8 := by
      match i, hv with
      | 0, hv => exact ⟨by decide, _, _, (Option.some.inj hv).symm, by decide, by decide⟩
      | 1, hv => exact ⟨by decide, _, _, (Option.some.inj hv).symm, by decide, by decide⟩
      | 2, hv => exact ⟨by decide, _, _, (Option.some.inj hv).symm, by decide, by decide⟩
      | 3, hv => exact ⟨by decide, _, _, (Option.some.inj hv).symm, by decide, by decide⟩
    obtain ⟨hi4, b, tb, rfl, hb0, hb8⟩ := hb
    dsimp only
    repeat ((fail_if_success (with_reducible show wpAny _ _ (eval (Expr.ListComp _ _ _ _) _) _ _ _)); first | walk1 | (dsimp only; walk1))
    refine ListComp_U (F₀ := F3) (by with_unfolding_all rfl) (by decide) (by rfl) (by decide) (by rfl) ?_
    repeat (walk1)
    rename Fr h₀ _ _ _ => F4
    rename News h₀ _ _ _ => N4
    dsimp only at F4 N4 ⊢
    have hpk := hns.pick (some (i : Int)) (some 63) (some 4)
    have hle := length_pickNums_le hns (some (i : Int)) (some 63) (some 4)
    refine CompSrc.ledger (by rfl) F4 N4 (.head _) (by have q := hpk.length; rw [Array.length_toList] at q; rw [q]; exact Nat.le_trans hle (Nat.le_trans hn63 (Nat.le_of_ble_eq_true rfl))) ?_
    intro g9
    refine cii_rest (fun z => z.fmod (10 ^ Int.toNat 6)) hpk ?turnC ?finC
    case turnC =>
      rintro z tz J oJ C5 oC5 E9 m9 us h9 tk9 E9' hz hC9 hx9 F5 N5 off ne
      dsimp only
      repeat (walk1)
      exact CompEnd.intro F5 N5 _ (fun _ h => h) off (.inr ⟨_, .head _, rfl, _, rfl⟩) ⟨rfl, _, rfl⟩
    case finC =>
      intro us hus D9 h9 tk9 F5 N5 off9
      dsimp only
      repeat (walk1)
      · assumption
      · rename Fr h₀ _ _ _ => F6
        rename News h₀ _ _ _ => N6
        have hsb := sum_bd (fun z => z.fmod (10 ^ Int.toNat 6)) (fun z => by
          have e : (10 ^ Int.toNat 6 : Int) = 1000000 := by decide
          rw [e]
          have h1 := Int.fmod_nonneg_of_pos z (b := 1000000) (by decide)
          have h2 := Int.fmod_lt_of_pos z (b := 1000000) (by decide)
          omega) (pickNums ns (some (i : Int)) (some 63) (some 4))
        refine ⟨fun p hp => N6 p ?_, _, _, rfl, ?_, ?_⟩
        · simp only [List.mem_cons] at hp ⊢
          rcases hp with h | h | h | h | h | h | h | h | h <;> simp [h]
        · omega
        · omega
  case fin =>
    clear F1 N1 o1 en
    intro ys hlen hys D h9 tk9 F3 N3 off
    obtain ⟨n0, n1, n2, n3, hI, hbd⟩ := four_ints hlen hys
    clear hlen hys
    dsimp only
    obtain ⟨um, F4⟩ := fr_known [(Str.ofString "numbers", .ref D)] (by intro p hp; simp only [List.mem_cons, List.not_mem_nil, or_false] at hp; rcases hp with rfl; rfl) F3
    clear F3
    have N4 : News h₀ L h9 [(D, lst ys), (L + 1 + 1 + 1, oLet), (L + 1 + 1, oWit), (L + 1, oScr)] := fun p hp => N3 p (by
      simp only [List.mem_cons] at hp ⊢
      rcases hp with h | h | h | h | h <;> simp [h])
    have hDL : D ≠ L + 1 + 1 ∧ D ≠ L + 1 + 1 + 1 := far_lt (off (L + 1 + 1 + 1, oLet) (.tail _ (.head _)))
    clear N3 off
    refine wpAny_execs_cons ?_
    refine Assign_ListComp_U F4 (by rfl) (by rfl) (by with_unfolding_all rfl) (by decide) (by rfl) (by decide) (by rfl) (by rfl) (by rfl) ?_
    repeat ((fail_if_success (with_reducible show wpAny _ _ (subscriptTail (Expr.List _ _) _ _ _) _ _ _)); walk1)
    (refine kba_turn (value' := PySem.Expr.Name (PySem.Str.ofString "_") ⟨0, 0, 0, 0⟩) (fun _ => rfl) ?_)
    rename News h₀ _ _ _ => N5
    have e3 : ([n0, n1, n2, n3].getD (Int.toNat 3) 0).fmod 3 = n3.fmod 3 := rfl
    rw [e3]
    have h3 : n3.fmod 3 = 0 ∨ n3.fmod 3 = 1 ∨ n3.fmod 3 = 2 := by
      have h1 := Int.fmod_nonneg_of_pos n3 (b := 3) (by decide)
      have h2 := Int.fmod_lt_of_pos n3 (b := 3) (by decide)
      omega
    rename IntsAre _ (List.map (fun k' => 1 + Int.fmod k' 2) _) => hI8
    replace hI8 : IntsAre _ [1 + n0.fmod 2, 1 + n1.fmod 2, 1 + n2.fmod 2] := hI8
    obtain ⟨t0, t1, t2, rfl⟩ := three_ints hI8
    clear hI8
    rcases h3 with h3 | h3 | h3 <;> rw [h3]
    all_goals (refine item_list (l := _) (items := _) ⟨_, (N5 _ (.head _)).1, rfl, _, rfl⟩ (by decide) (by decide) rfl ?_)
    all_goals show wpAny _ _ (binaryOp Operator.Add (Value.ref _) (Value.ref _)) _ _ _
    all_goals (repeat ((fail_if_success (with_reducible show wpAny _ _ (execs (Stmt.If _ _ _ _ :: Stmt.If _ _ _ _ :: _) _) _ _ _)); first | walk1 | (dsimp only; walk1)))
    all_goals rename Fr h₀ _ _ _ => F6
    all_goals rename News h₀ _ _ _ => N6
    all_goals (rename (@Ne Nat _ _ ∧ @Ne Nat _ _ ∧ _) => ho)
    all_goals have N7 : News h₀ L _ [(_, listOf (Value.int (1 + n0.fmod 2) t0 :: Value.int (1 + n1.fmod 2) t1 :: Value.int (1 + n2.fmod 2) t2 :: _).toArray 0), (_, listOf #[Value.int (1 + n0.fmod 2) t0, Value.int (1 + n1.fmod 2) t1, Value.int (1 + n2.fmod 2) t2] 3), (D, listOf ys.toArray ys.length), (L + 1 + 1 + 1, oLet), (L + 1 + 1, oWit), (L + 1, oScr)] := news_pick N6
    · refine lawS0 PL w _ _ loose mean mg mb a cd h₀ L um _ Q oLet oWit oScr _ _ D ys n0 n1 n2 n3 (1 + n0.fmod 2) (1 + n1.fmod 2) (1 + n2.fmod 2) t0 t1 t2 0 3 ys.length B F6 X N7 TT hl hw hI hbd (mod_two n0) (mod_two n1) (mod_two n2) h3 hg hDL ⟨Ne.symm ho.2.2.2.1, Ne.symm ho.2.2.1⟩ hret
    · refine lawS1 PL w _ _ loose mean mg mb a cd h₀ L um _ Q oLet oWit oScr _ _ D ys n0 n1 n2 n3 (1 + n0.fmod 2) (1 + n1.fmod 2) (1 + n2.fmod 2) t0 t1 t2 0 3 ys.length B F6 X N7 TT hl hw hI hbd (mod_two n0) (mod_two n1) (mod_two n2) h3 hg hDL ⟨Ne.symm ho.2.2.2.1, Ne.symm ho.2.2.1⟩ hret
    · refine lawS2 PL w t0 t0 loose mean mg mb a cd h₀ L um _ Q oLet oWit oScr _ _ D ys n0 n1 n2 n3 (1 + n0.fmod 2) (1 + n1.fmod 2) (1 + n2.fmod 2) t0 t1 t2 0 3 ys.length B F6 X N7 TT hl hw hI hbd (mod_two n0) (mod_two n1) (mod_two n2) h3 hg hDL ⟨Ne.symm ho.2.2.2.1, Ne.symm ho.2.2.1⟩ hret
end Mine
end
noncomputable section
open PySem PySem.W PySem.Calls PyProof.Rows PyProof
set_option Elab.async false
set_option maxRecDepth 100000
namespace Mine
theorem offEqui : True := by
  w_top off
  trivial
section
variable (f : Nat → Nat) (hf : ∀ a b, f a = f b → a = b)
include hf
theorem eq_f (a b : Nat) : (f a = f b) = (a = b) := propext ⟨hf a b, congrArg f⟩
theorem eq_mf : ∀ a b : List Nat, (a.map f = b.map f) = (a = b)
  | [], [] => rfl
  | [], _ :: _ => by simp
  | _ :: _, [] => by simp
  | x :: xs, y :: ys => by simp only [List.map_cons, List.cons.injEq, eq_f f hf, eq_mf xs ys]
theorem stripL_map : ∀ a b : List Nat, stripL (a.map f) (b.map f) = ((stripL a b).1.map f, (stripL a b).2.map f)
  | [], b => by simp [stripL]
  | x :: xs, [] => by simp [stripL]
  | x :: xs, y :: ys => by
    simp only [List.map_cons, stripL, eq_f f hf]
    by_cases h : x = y
    · simp only [h, if_true]; exact stripL_map xs ys
    · simp only [h, if_false, List.map_cons]
theorem stripR_map (a b : List Nat) : stripR (a.map f) (b.map f) = ((stripR a b).1.map f, (stripR a b).2.map f) := by
  simp only [stripR, ← List.map_reverse, stripL_map f hf]
theorem cellV_map (bc x : Nat) (d r w : Int) : cellV (f bc) (f x) d r w = cellV bc x d r w := by
  simp only [cellV, eq_f f hf]
theorem inner_map (bc : Nat) : ∀ (xs : List Nat) (ws : List Int) (d r m : Int), inner (f bc) (xs.map f) ws d r m = inner bc xs ws d r m
  | [], ws, d, r, m => by cases ws <;> simp [inner]
  | x :: xs, [], d, r, m => by simp [inner]
  | x :: xs, w :: ws, d, r, m => by
    simp only [List.map_cons, inner, cellV_map f hf]
    rw [inner_map bc xs ws]
theorem outer_map (a : List Nat) (c : Int) : ∀ (ys : List Nat) (k : Int) (row : List Int) (res : Int), outer (a.map f) c (ys.map f) k row res = outer a c ys k row res
  | [], _, _, _ => by simp [outer]
  | y :: ys, k, row, res => by
    simp only [List.map_cons, outer, inner_map f hf]
    rw [outer_map a c ys]
theorem levD_map (a b : List Nat) (c : Int) : levD (a.map f) (b.map f) c = levD a b c := by
  simp only [levD, outer_map f hf, List.length_map]
theorem levM_map (a b : List Nat) (c : Int) : levM (a.map f) (b.map f) c = levM a b c := by
  simp only [levM, eq_mf f hf, stripL_map f hf, stripR_map f hf, List.length_map, levD_map f hf, List.map_eq_nil_iff]
theorem mem_mf (z : List Nat) (ws : List (List Nat)) : (z.map f ∈ ws.map (List.map f)) = (z ∈ ws) := by
  apply propext
  rw [List.mem_map]
  constructor
  · rintro ⟨y, hy, e⟩
    rw [eq_mf f hf] at e
    exact e ▸ hy
  · exact fun h => ⟨z, h, rfl⟩
theorem cont_mf (z : List Nat) (ws : List (List Nat)) : (ws.map (List.map f)).contains (z.map f) = ws.contains z := by
  rw [Bool.eq_iff_iff]
  simp only [List.contains_iff_mem]
  rw [mem_mf f hf]
theorem growS_map (ws : List (List Nat)) (c : Nat) (l : List (List Nat)) (z : List Nat) : growS (ws.map (List.map f)) (f c) (l.map (List.map f)) (z.map f) = (growS ws c l z).map (List.map f) := by
  have e : z.map f ++ [f c] = (z ++ [c]).map f := by simp
  simp only [growS, e, cont_mf f hf]
  split
  · rfl
  · simp
theorem growF_map (ws : List (List Nat)) (c : Nat) : ∀ (zs l : List (List Nat)), (zs.map (List.map f)).foldl (growS (ws.map (List.map f)) (f c)) (l.map (List.map f)) = (zs.foldl (growS ws c) l).map (List.map f)
  | [], l => rfl
  | z :: zs, l => by
    rw [List.map_cons, List.foldl_cons, List.foldl_cons, growS_map f hf, growF_map ws c zs]
theorem grow_map (ws : List (List Nat)) (c : Nat) : grow (ws.map (List.map f)) (f c) = (grow ws c).map (List.map f) := by
  have h := growF_map f hf ws c ws []
  rw [List.map_nil] at h
  simp only [grow, h, List.map_append]
theorem withinF_map : ∀ (x : List Nat) (ws : List (List Nat)), (x.map f).foldl grow (ws.map (List.map f)) = (x.foldl grow ws).map (List.map f)
  | [], ws => rfl
  | c :: x, ws => by rw [List.map_cons, List.foldl_cons, List.foldl_cons, grow_map f hf, withinF_map x]
theorem withinM_map (x : List Nat) : withinM (x.map f) = (withinM x).map (List.map f) := withinF_map f hf x [[]]
/-- a table under new signs -/
noncomputable def mkT (f : Nat → Nat) (c : Tab) : Tab := c.map fun p => (p.1.map f, p.2)
theorem any_map (c : Tab) (k : List Nat) : (mkT f c).any (fun p => decide (p.1 = k.map f)) = c.any fun p => decide (p.1 = k) := by
  unfold mkT
  rw [List.any_map]
  congr 1
  funext p
  simp only [Function.comp, eq_mf f hf]
theorem wput_map (c : Tab) (k : List Nat) (v : Int) : wput (mkT f c) (k.map f) v = mkT f (wput c k v) := by
  unfold wput
  rw [any_map f hf]
  split
  · unfold mkT
    rw [List.map_map, List.map_map]
    congr 1
    funext p
    simp only [Function.comp, eq_mf f hf]
    split <;> rfl
  · unfold mkT
    simp
theorem wget_map (c : Tab) (k : List Nat) : wget (mkT f c) (k.map f) = wget c k := by
  unfold wget mkT
  rw [List.find?_map]
  have e : ((fun p : List Nat × Int => decide (p.1 = k.map f)) ∘ fun p : List Nat × Int => (p.1.map f, p.2)) = fun p => decide (p.1 = k) := by
    funext p
    simp only [Function.comp, eq_mf f hf]
  rw [e]
  cases c.find? fun p => decide (p.1 = k) <;> rfl
theorem wstep_map (p : List Nat) (c : Tab) (x : List Nat) (v : Int) : wstep (p.map f) (mkT f c) (x.map f) v = mkT f (wstep p c x v) := by
  have e1 : x.map f ++ p.map f = (x ++ p).map f := by simp
  have e2 : x.map f ++ (p.map f).drop 1 = (x ++ p.drop 1).map f := by simp
  simp only [wstep, e1, e2, wput_map f hf, wget_map f hf]
theorem wgrowF_map (p : List Nat) (tb : Tab) : ∀ (l : Tab) (c : Tab), (mkT f l).foldl (fun c e => wstep (p.map f) c e.1 (wget (mkT f tb) e.1)) (mkT f c) = mkT f (l.foldl (fun c e => wstep p c e.1 (wget tb e.1)) c)
  | [], c => rfl
  | e :: l, c => by
    show (mkT f l).foldl _ (wstep (p.map f) (mkT f c) (e.1.map f) (wget (mkT f tb) (e.1.map f))) = _
    rw [wget_map f hf, wstep_map f hf, wgrowF_map p tb l]
    rfl
theorem wgrow_map (p : List Nat) (tb : Tab) : wgrow (p.map f) (mkT f tb) = mkT f (wgrow p tb) := wgrowF_map f hf p tb tb []
theorem worthF_map : ∀ (ps : List (List Nat)) (tb : Tab), (ps.map (List.map f)).foldl (fun tb p => wgrow p tb) (mkT f tb) = mkT f (ps.foldl (fun tb p => wgrow p tb) tb)
  | [], tb => rfl
  | p :: ps, tb => by rw [List.map_cons, List.foldl_cons, List.foldl_cons, wgrow_map f hf, worthF_map ps]
theorem worthM_map (ps : List (List Nat)) : worthM (ps.map (List.map f)) = mkT f (worthM ps) := worthF_map f hf ps [([], 1)]
theorem hitM_map (lo hi : List Nat) : hitM (lo.map f) (hi.map f) = hitM lo hi := by
  have e : decide (lo.map f = hi.map f) = decide (lo = hi) := by rw [Bool.eq_iff_iff, decide_eq_true_iff, decide_eq_true_iff, eq_mf f hf]
  unfold hitM moreM
  rw [e, List.length_map, List.length_map, levM_map f hf]
theorem totalF_map (tb : Tab) (lo : List Nat) : ∀ (l : Tab) (t : Int), (mkT f l).foldl (fun t e => if hitM (lo.map f) e.1 then t + wget (mkT f tb) e.1 else t) t = l.foldl (fun t e => if hitM lo e.1 then t + wget tb e.1 else t) t
  | [], t => rfl
  | e :: l, t => by
    show (mkT f l).foldl _ (if hitM (lo.map f) (e.1.map f) then t + wget (mkT f tb) (e.1.map f) else t) = _
    rw [wget_map f hf, hitM_map f hf, totalF_map tb lo l]
    rfl
theorem totalM_map (tb : Tab) (lo : List Nat) (j : Nat) : totalM (mkT f tb) (lo.map f) j = totalM tb lo j := by
  unfold totalM
  have e : (mkT f tb).take j = mkT f (tb.take j) := by simp [mkT, List.map_take]
  rw [e, totalF_map f hf]
end
/-- the plain law of a pattern: signs under 4 -/
noncomputable abbrev PatOk (x : List Nat) (ps : List (List Nat)) : Prop :=
  ps.length ≤ 4 ∧ (∀ p ∈ ps, 1 ≤ p.length ∧ p.length ≤ 3) ∧ x.length ≤ 4 ∧ (∀ c ∈ x, c < 4) ∧ (∀ e ∈ worthM ps, e.1.length ≤ 4 ∧ ∀ c ∈ e.1, c < 4) ∧ ∀ lo ∈ withinM x, (totalM (worthM ps) lo (worthM ps).length = 0 ↔ lo ≠ x)
theorem okD_map {f : Nat → Nat} (hf : ∀ a b, f a = f b → a = b) (hl : ∀ k, k < 4 → Low (f k)) {x : List Nat} {ps : List (List Nat)} (h : PatOk x ps) : OkD (x.map f) (ps.map (List.map f)) := by
  obtain ⟨h1, h2, h3, h4, h5, h6⟩ := h
  refine ⟨by simpa using h1, ?_, by simpa using h3, ?_, ?_, ?_⟩
  · intro p hp
    obtain ⟨q, hq, rfl⟩ := List.mem_map.mp hp
    simpa using h2 q hq
  · intro c hc
    obtain ⟨k, hk, rfl⟩ := List.mem_map.mp hc
    exact hl k (h4 k hk)
  · rw [worthM_map f hf]
    intro e he
    obtain ⟨q, hq, rfl⟩ := List.mem_map.mp he
    refine ⟨by simpa using (h5 q hq).1, fun c hc => ?_⟩
    obtain ⟨k, hk, rfl⟩ := List.mem_map.mp hc
    exact hl k ((h5 q hq).2 k hk)
  · rw [worthM_map f hf, withinM_map f hf]
    intro lo hlo
    obtain ⟨q, hq, rfl⟩ := List.mem_map.mp hlo
    rw [totalM_map f hf, show (mkT f (worthM ps)).length = (worthM ps).length from by simp [mkT], Ne, eq_mf f hf]
    exact h6 q hq
end Mine
end
noncomputable section
open PySem PySem.W PySem.Calls PyProof.Rows PyProof
set_option Elab.async false
set_option maxRecDepth 100000
namespace Mine
theorem offPlainF : True := by
  w_top off
  trivial
theorem pat_22 : PatOk [0, 0, 1, 1] [[0, 0], [1, 1]] := by decide +kernel
theorem pat_21 : PatOk [0, 0, 1] [[0, 0], [1]] := by decide +kernel
theorem pat_12 : PatOk [0, 1, 1] [[0], [1, 1]] := by decide +kernel
theorem pat_211a : PatOk [0, 0, 1, 0] [[0, 0], [1], [0]] := by decide +kernel
theorem pat_211b : PatOk [0, 0, 1, 2] [[0, 0], [1], [2]] := by decide +kernel
theorem pat_121a : PatOk [0, 1, 1, 0] [[0], [1, 1], [0]] := by decide +kernel
theorem pat_121b : PatOk [0, 1, 1, 2] [[0], [1, 1], [2]] := by decide +kernel
theorem pat_112a : PatOk [0, 1, 0, 0] [[0], [1], [0, 0]] := by decide +kernel
theorem pat_112b : PatOk [0, 1, 2, 2] [[0], [1], [2, 2]] := by decide +kernel
theorem pat_111a : PatOk [0, 1, 0] [[0], [1], [0]] := by decide +kernel
theorem pat_111b : PatOk [0, 1, 2] [[0], [1], [2]] := by decide +kernel
theorem pat_1111a : PatOk [0, 1, 0, 1] [[0], [1], [0], [1]] := by decide +kernel
theorem pat_1111b : PatOk [0, 1, 0, 2] [[0], [1], [0], [2]] := by decide +kernel
theorem pat_1111c : PatOk [0, 1, 2, 0] [[0], [1], [2], [0]] := by decide +kernel
theorem pat_1111d : PatOk [0, 1, 2, 1] [[0], [1], [2], [1]] := by decide +kernel
theorem pat_1111e : PatOk [0, 1, 2, 3] [[0], [1], [2], [3]] := by decide +kernel
/-- four signs for the numbers under 4 -/
noncomputable def pick (p q r t : Nat) (k : Nat) : Nat := if k = 0 then p else if k = 1 then q else if k = 2 then r else if k = 3 then t else k + 1000
theorem pick_inj {p q r t : Nat} (h : p < 1000 ∧ q < 1000 ∧ r < 1000 ∧ t < 1000) (h1 : p ≠ q) (h2 : p ≠ r) (h3 : p ≠ t) (h4 : q ≠ r) (h5 : q ≠ t) (h6 : r ≠ t) : ∀ a b, pick p q r t a = pick p q r t b → a = b := by
  intro a b e
  unfold pick at e
  repeat' split at e
  all_goals omega
theorem pick_low {p q r t : Nat} (h1 : Low p) (h2 : Low q) (h3 : Low r) (h4 : Low t) : ∀ k, k < 4 → Low (pick p q r t k) := by
  intro k hk
  have : k = 0 ∨ k = 1 ∨ k = 2 ∨ k = 3 := by omega
  rcases this with rfl | rfl | rfl | rfl <;> assumption
/-- the runs and their numbers, by sizes and signs -/
noncomputable def mkR : List Int → List Int → List (List Nat)
  | z :: zs, s :: ss => List.replicate z.toNat (signC s) :: mkR zs ss
  | _, _ => []
noncomputable def mkS : List Int → List Int → List Int
  | z :: zs, s :: ss => symC z s :: mkS zs ss
  | _, _ => []
noncomputable def used : Int → List Int → List Int
  | _, [] => []
  | t, z :: zs => if t + z > 4 then [] else z :: used (t + z) zs
noncomputable def Ch : Int → List Int → Prop
  | _, [] => True
  | s, a :: r => a ≠ s ∧ 0 ≤ a ∧ a ≤ 4 ∧ Ch a r
theorem next_ok (ns : List Int) (c : RB) (h : 0 ≤ c.sign ∧ c.sign ≤ 4) : nextS ns c ≠ c.sign ∧ 0 ≤ nextS ns c ∧ nextS ns c ≤ 4 := by
  unfold nextS
  generalize Int.fdiv (ns.getD c.runs.length 0) 2 = q
  have h1 := Int.fmod_nonneg_of_pos q (b := 4) (by decide)
  have h2 := Int.fmod_lt_of_pos q (b := 4) (by decide)
  generalize Int.fmod q 4 = u at *
  rw [Int.fmod_eq_emod_of_nonneg _ (by decide)]
  omega
theorem runB_form (ns : List Int) : ∀ (zs : List Int) (c : RB), (0 ≤ c.sign ∧ c.sign ≤ 4) → (∀ z ∈ zs, z = 1 ∨ z = 2) →
    ∃ ss, (runB ns zs c).runs = c.runs ++ mkR (used (c.runs.flatten.length : Int) zs) ss ∧ (runB ns zs c).syms = c.syms ++ mkS (used (c.runs.flatten.length : Int) zs) ss ∧ ss.length = (used (c.runs.flatten.length : Int) zs).length ∧ Ch c.sign ss
  | [], c, _, _ => ⟨[], by simp [runB, used, mkR], by simp [runB, used, mkS], rfl, trivial⟩
  | z :: zs, c, hs, hz => by
    by_cases h : (c.runs.flatten.length : Int) + z > 4
    · refine ⟨[], ?_, ?_, ?_, trivial⟩ <;> rw [used, if_pos h] <;> (try rw [runB, if_pos h]) <;> simp [mkR, mkS]
    · obtain ⟨n1, n2, n3⟩ := next_ok ns c hs
      obtain ⟨ss, e1, e2, e3, e4⟩ := runB_form ns zs (stepB ns c z) ⟨n2, n3⟩ (fun y hy => hz y (.tail _ hy))
      have hlen : ((stepB ns c z).runs.flatten.length : Int) = (c.runs.flatten.length : Int) + z := by
        have hz' := hz z (.head _)
        show (((c.runs ++ [List.replicate z.toNat (signC (nextS ns c))]).flatten.length : Nat) : Int) = _
        rw [List.flatten_append, List.length_append]
        simp only [List.flatten_cons, List.flatten_nil, List.append_nil, List.length_replicate]
        omega
      rw [hlen] at e1 e2 e3
      refine ⟨nextS ns c :: ss, ?_, ?_, ?_, n1, n2, n3, e4⟩
      · rw [runB, if_neg h, e1, used, if_neg h]
        simp [stepB, mkR]
      · rw [runB, if_neg h, e2, used, if_neg h]
        simp [stepB, mkS]
      · rw [used, if_neg h, List.length_cons, List.length_cons, e3]
noncomputable def eight : List (List Int) := [[2, 2], [2, 1], [1, 2], [2, 1, 1], [1, 2, 1], [1, 1, 2], [1, 1, 1], [1, 1, 1, 1]]
theorem used_eight {zs : List Int} (hl : zs.length = 3 ∨ zs.length = 4) (hz : ∀ z ∈ zs, z = 1 ∨ z = 2) : used 0 zs ∈ eight := by
  match zs, hl with
  | [a, b, c], _ =>
    have ha := hz a (by simp); have hb := hz b (by simp); have hc := hz c (by simp)
    rcases ha with rfl | rfl <;> rcases hb with rfl | rfl <;> rcases hc with rfl | rfl <;> decide
  | [a, b, c, d], _ =>
    have ha := hz a (by simp); have hb := hz b (by simp); have hc := hz c (by simp); have hd := hz d (by simp)
    rcases ha with rfl | rfl <;> rcases hb with rfl | rfl <;> rcases hc with rfl | rfl <;> rcases hd with rfl | rfl <;> decide
  | [], h => simp at h
  | [_], h => simp at h
  | [_, _], h => simp at h
  | _ :: _ :: _ :: _ :: _ :: _, h => simp at h
noncomputable abbrev TokOk (us ss : List Int) : Prop :=
  pieces ((mkR us ss).flatten.length + 1) (mkR us ss).flatten = mkR us ss ∧ (mkR us ss).map tokM = mkS us ss ∧ (∀ p ∈ mkR us ss, p ∈ tens) ∧ ∀ c ∈ (mkR us ss).flatten, c ∈ [42, 47, 60, 62, 34]
noncomputable def five : List Int := [0, 1, 2, 3, 4]
theorem in_five {a : Int} (h0 : 0 ≤ a) (h4 : a ≤ 4) : a ∈ five := by
  have : a = 0 ∨ a = 1 ∨ a = 2 ∨ a = 3 ∨ a = 4 := by omega
  rcases this with rfl | rfl | rfl | rfl | rfl <;> decide
theorem tok_22 : ∀ a ∈ five, ∀ b ∈ five, b ≠ a → TokOk [2, 2] [a, b] := by decide +kernel
theorem tok_21 : ∀ a ∈ five, ∀ b ∈ five, b ≠ a → TokOk [2, 1] [a, b] := by decide +kernel
theorem tok_12 : ∀ a ∈ five, ∀ b ∈ five, b ≠ a → TokOk [1, 2] [a, b] := by decide +kernel
theorem tok_211 : ∀ a ∈ five, ∀ b ∈ five, b ≠ a → ∀ c ∈ five, c ≠ b → TokOk [2, 1, 1] [a, b, c] := by decide +kernel
theorem tok_121 : ∀ a ∈ five, ∀ b ∈ five, b ≠ a → ∀ c ∈ five, c ≠ b → TokOk [1, 2, 1] [a, b, c] := by decide +kernel
theorem tok_112 : ∀ a ∈ five, ∀ b ∈ five, b ≠ a → ∀ c ∈ five, c ≠ b → TokOk [1, 1, 2] [a, b, c] := by decide +kernel
theorem tok_111 : ∀ a ∈ five, ∀ b ∈ five, b ≠ a → ∀ c ∈ five, c ≠ b → TokOk [1, 1, 1] [a, b, c] := by decide +kernel
theorem tok_1111_0 : ∀ b ∈ five, b ≠ 0 → ∀ c ∈ five, c ≠ b → ∀ d ∈ five, d ≠ c → TokOk [1, 1, 1, 1] [0, b, c, d] := by decide +kernel
theorem tok_1111_1 : ∀ b ∈ five, b ≠ 1 → ∀ c ∈ five, c ≠ b → ∀ d ∈ five, d ≠ c → TokOk [1, 1, 1, 1] [1, b, c, d] := by decide +kernel
theorem tok_1111_2 : ∀ b ∈ five, b ≠ 2 → ∀ c ∈ five, c ≠ b → ∀ d ∈ five, d ≠ c → TokOk [1, 1, 1, 1] [2, b, c, d] := by decide +kernel
theorem tok_1111_3 : ∀ b ∈ five, b ≠ 3 → ∀ c ∈ five, c ≠ b → ∀ d ∈ five, d ≠ c → TokOk [1, 1, 1, 1] [3, b, c, d] := by decide +kernel
theorem tok_1111_4 : ∀ b ∈ five, b ≠ 4 → ∀ c ∈ five, c ≠ b → ∀ d ∈ five, d ≠ c → TokOk [1, 1, 1, 1] [4, b, c, d] := by decide +kernel
theorem sign_low {a : Int} (h : a ∈ five) : Low (signC a) := by
  simp only [five, List.mem_cons, List.not_mem_nil, or_false] at h
  rcases h with rfl | rfl | rfl | rfl | rfl <;> (unfold Low; decide)
theorem sign_lt {a : Int} (h : a ∈ five) : signC a < 64 := by
  simp only [five, List.mem_cons, List.not_mem_nil, or_false] at h
  rcases h with rfl | rfl | rfl | rfl | rfl <;> decide
theorem sign_ne {a b : Int} (ha : a ∈ five) (hb : b ∈ five) (h : b ≠ a) : signC a ≠ signC b := by
  simp only [five, List.mem_cons, List.not_mem_nil, or_false] at ha hb
  rcases ha with rfl | rfl | rfl | rfl | rfl <;> rcases hb with rfl | rfl | rfl | rfl | rfl <;> first | exact absurd rfl h | decide
theorem okC_of {us ss : List Int} {rs : List (List Nat)} {ys : List Int} (hr : rs = mkR us ss) (hy : ys = mkS us ss) (tk : TokOk us ss) (d : OkD (mkR us ss).flatten (mkR us ss)) : OkC rs.flatten rs ys := by
  subst hr hy
  exact ⟨tk.1, tk.2.1, tk.2.2.1, tk.2.2.2, d⟩
section
variable {a b c d : Int} (ha : a ∈ five) (hb : b ∈ five) (hc : c ∈ five) (hd : d ∈ five) (hba : b ≠ a) (hcb : c ≠ b) (hdc : d ≠ c)
include ha hb hba
theorem two_okD {p0 : List Nat} {ps : List (List Nat)} (h : PatOk p0 ps) : OkD (p0.map (pick (signC a) (signC b) 100 101)) (ps.map (List.map (pick (signC a) (signC b) 100 101))) :=
  okD_map (pick_inj (by have := sign_lt ha; have := sign_lt hb; omega) (sign_ne ha hb hba) (by have := sign_lt ha; omega) (by have := sign_lt ha; omega) (by have := sign_lt hb; omega) (by have := sign_lt hb; omega) (by decide)) (pick_low (sign_low ha) (sign_low hb) (by unfold Low; decide) (by unfold Low; decide)) h
include hc hcb
theorem three_okD {p0 : List Nat} {ps : List (List Nat)} (hca : c ≠ a) (h : PatOk p0 ps) : OkD (p0.map (pick (signC a) (signC b) (signC c) 101)) (ps.map (List.map (pick (signC a) (signC b) (signC c) 101))) :=
  okD_map (pick_inj (by have := sign_lt ha; have := sign_lt hb; have := sign_lt hc; omega) (sign_ne ha hb hba) (sign_ne ha hc hca) (by have := sign_lt ha; omega) (sign_ne hb hc hcb) (by have := sign_lt hb; omega) (by have := sign_lt hc; omega)) (pick_low (sign_low ha) (sign_low hb) (sign_low hc) (by unfold Low; decide)) h
include hd hdc
theorem four_okD {p0 : List Nat} {ps : List (List Nat)} (hca : c ≠ a) (hda : d ≠ a) (hdb : d ≠ b) (h : PatOk p0 ps) : OkD (p0.map (pick (signC a) (signC b) (signC c) (signC d))) (ps.map (List.map (pick (signC a) (signC b) (signC c) (signC d)))) :=
  okD_map (pick_inj (by have := sign_lt ha; have := sign_lt hb; have := sign_lt hc; have := sign_lt hd; omega) (sign_ne ha hb hba) (sign_ne ha hc hca) (sign_ne ha hd hda) (sign_ne hb hc hcb) (sign_ne hb hd hdb) (sign_ne hc hd hdc)) (pick_low (sign_low ha) (sign_low hb) (sign_low hc) (sign_low hd)) h
end
theorem d_22 {a b : Int} (ha : a ∈ five) (hb : b ∈ five) (hba : b ≠ a) : OkD (mkR [2, 2] [a, b]).flatten (mkR [2, 2] [a, b]) := two_okD ha hb hba pat_22
theorem d_21 {a b : Int} (ha : a ∈ five) (hb : b ∈ five) (hba : b ≠ a) : OkD (mkR [2, 1] [a, b]).flatten (mkR [2, 1] [a, b]) := two_okD ha hb hba pat_21
theorem d_12 {a b : Int} (ha : a ∈ five) (hb : b ∈ five) (hba : b ≠ a) : OkD (mkR [1, 2] [a, b]).flatten (mkR [1, 2] [a, b]) := two_okD ha hb hba pat_12
theorem d_211 {a b c : Int} (ha : a ∈ five) (hb : b ∈ five) (hc : c ∈ five) (hba : b ≠ a) (hcb : c ≠ b) : OkD (mkR [2, 1, 1] [a, b, c]).flatten (mkR [2, 1, 1] [a, b, c]) := by
  by_cases h : c = a
  · subst h; exact two_okD ha hb hba pat_211a
  · exact three_okD ha hb hc hba hcb h pat_211b
theorem d_121 {a b c : Int} (ha : a ∈ five) (hb : b ∈ five) (hc : c ∈ five) (hba : b ≠ a) (hcb : c ≠ b) : OkD (mkR [1, 2, 1] [a, b, c]).flatten (mkR [1, 2, 1] [a, b, c]) := by
  by_cases h : c = a
  · subst h; exact two_okD ha hb hba pat_121a
  · exact three_okD ha hb hc hba hcb h pat_121b
theorem d_112 {a b c : Int} (ha : a ∈ five) (hb : b ∈ five) (hc : c ∈ five) (hba : b ≠ a) (hcb : c ≠ b) : OkD (mkR [1, 1, 2] [a, b, c]).flatten (mkR [1, 1, 2] [a, b, c]) := by
  by_cases h : c = a
  · subst h; exact two_okD ha hb hba pat_112a
  · exact three_okD ha hb hc hba hcb h pat_112b
theorem d_111 {a b c : Int} (ha : a ∈ five) (hb : b ∈ five) (hc : c ∈ five) (hba : b ≠ a) (hcb : c ≠ b) : OkD (mkR [1, 1, 1] [a, b, c]).flatten (mkR [1, 1, 1] [a, b, c]) := by
  by_cases h : c = a
  · subst h; exact two_okD ha hb hba pat_111a
  · exact three_okD ha hb hc hba hcb h pat_111b
theorem d_1111 {a b c d : Int} (ha : a ∈ five) (hb : b ∈ five) (hc : c ∈ five) (hd : d ∈ five) (hba : b ≠ a) (hcb : c ≠ b) (hdc : d ≠ c) : OkD (mkR [1, 1, 1, 1] [a, b, c, d]).flatten (mkR [1, 1, 1, 1] [a, b, c, d]) := by
  by_cases h : c = a
  · subst h
    by_cases h2 : d = b
    · subst h2; exact two_okD ha hb hba pat_1111a
    · exact three_okD ha hb hd hba h2 hdc pat_1111b
  · by_cases h2 : d = a
    · subst h2; exact three_okD ha hb hc hba hcb h pat_1111c
    · by_cases h3 : d = b
      · subst h3; exact three_okD ha hb hc hba hcb h pat_1111d
      · exact four_okD ha hb hc hd hba hcb hdc h h2 h3 pat_1111e
theorem tok_1111 {a b c d : Int} (ha : a ∈ five) (hb : b ∈ five) (hc : c ∈ five) (hd : d ∈ five) (hba : b ≠ a) (hcb : c ≠ b) (hdc : d ≠ c) : TokOk [1, 1, 1, 1] [a, b, c, d] := by
  simp only [five, List.mem_cons, List.not_mem_nil, or_false] at ha
  rcases ha with rfl | rfl | rfl | rfl | rfl
  · exact tok_1111_0 b hb hba c hc hcb d hd hdc
  · exact tok_1111_1 b hb hba c hc hcb d hd hdc
  · exact tok_1111_2 b hb hba c hc hcb d hd hdc
  · exact tok_1111_3 b hb hba c hc hcb d hd hdc
  · exact tok_1111_4 b hb hba c hc hcb d hd hdc
theorem plainL : PlainL := by
  intro ns zs _ hl hz
  have hs : 0 ≤ (startB ns).sign ∧ (startB ns).sign ≤ 4 := by
    show 0 ≤ Int.fmod ns.sum 5 ∧ Int.fmod ns.sum 5 ≤ 4
    have h1 := Int.fmod_nonneg_of_pos ns.sum (b := 5) (by decide)
    have h2 := Int.fmod_lt_of_pos ns.sum (b := 5) (by decide)
    omega
  obtain ⟨ss, e1, e2, e3, e4⟩ := runB_form ns zs (startB ns) hs hz
  have hu := used_eight hl hz
  have e0 : ((startB ns).runs.flatten.length : Int) = 0 := rfl
  rw [e0] at e1 e2 e3
  generalize used 0 zs = us at *
  have r1 : (runB ns zs (startB ns)).runs = mkR us ss := e1
  have r2 : (runB ns zs (startB ns)).syms = mkS us ss := e2
  rw [r1, r2]
  have two : ∀ us', us = us' → us'.length = 2 → ∃ a b, ss = [a, b] ∧ a ∈ five ∧ b ∈ five ∧ b ≠ a := by
    intro us' e h
    subst e
    rw [h] at e3
    match ss, e3 with
    | [a, b], _ =>
      obtain ⟨_, a1, a2, b0, b1, b2, _⟩ := e4
      exact ⟨a, b, rfl, in_five a1 a2, in_five b1 b2, b0⟩
  have three : ∀ us', us = us' → us'.length = 3 → ∃ a b c, ss = [a, b, c] ∧ a ∈ five ∧ b ∈ five ∧ c ∈ five ∧ b ≠ a ∧ c ≠ b := by
    intro us' e h
    subst e
    rw [h] at e3
    match ss, e3 with
    | [a, b, c], _ =>
      obtain ⟨_, a1, a2, b0, b1, b2, c0, c1, c2, _⟩ := e4
      exact ⟨a, b, c, rfl, in_five a1 a2, in_five b1 b2, in_five c1 c2, b0, c0⟩
  have four : ∀ us', us = us' → us'.length = 4 → ∃ a b c d, ss = [a, b, c, d] ∧ a ∈ five ∧ b ∈ five ∧ c ∈ five ∧ d ∈ five ∧ b ≠ a ∧ c ≠ b ∧ d ≠ c := by
    intro us' e h
    subst e
    rw [h] at e3
    match ss, e3 with
    | [a, b, c, d], _ =>
      obtain ⟨_, a1, a2, b0, b1, b2, c0, c1, c2, d0, d1, d2, _⟩ := e4
      exact ⟨a, b, c, d, rfl, in_five a1 a2, in_five b1 b2, in_five c1 c2, in_five d1 d2, b0, c0, d0⟩
  simp only [eight, List.mem_cons, List.not_mem_nil, or_false] at hu
  rcases hu with hu | hu | hu | hu | hu | hu | hu | hu
  · obtain ⟨a, b, rfl, ha, hb, h1⟩ := two _ hu rfl
    rw [hu]
    exact okC_of rfl rfl (tok_22 a ha b hb h1) (d_22 ha hb h1)
  · obtain ⟨a, b, rfl, ha, hb, h1⟩ := two _ hu rfl
    rw [hu]
    exact okC_of rfl rfl (tok_21 a ha b hb h1) (d_21 ha hb h1)
  · obtain ⟨a, b, rfl, ha, hb, h1⟩ := two _ hu rfl
    rw [hu]
    exact okC_of rfl rfl (tok_12 a ha b hb h1) (d_12 ha hb h1)
  · obtain ⟨a, b, c, rfl, ha, hb, hc, h1, h2⟩ := three _ hu rfl
    rw [hu]
    exact okC_of rfl rfl (tok_211 a ha b hb h1 c hc h2) (d_211 ha hb hc h1 h2)
  · obtain ⟨a, b, c, rfl, ha, hb, hc, h1, h2⟩ := three _ hu rfl
    rw [hu]
    exact okC_of rfl rfl (tok_121 a ha b hb h1 c hc h2) (d_121 ha hb hc h1 h2)
  · obtain ⟨a, b, c, rfl, ha, hb, hc, h1, h2⟩ := three _ hu rfl
    rw [hu]
    exact okC_of rfl rfl (tok_112 a ha b hb h1 c hc h2) (d_112 ha hb hc h1 h2)
  · obtain ⟨a, b, c, rfl, ha, hb, hc, h1, h2⟩ := three _ hu rfl
    rw [hu]
    exact okC_of rfl rfl (tok_111 a ha b hb h1 c hc h2) (d_111 ha hb hc h1 h2)
  · obtain ⟨a, b, c, d, rfl, ha, hb, hc, hd, h1, h2, h3⟩ := four _ hu rfl
    rw [hu]
    exact okC_of rfl rfl (tok_1111 ha hb hc hd h1 h2 h3) (d_1111 ha hb hc hd h1 h2 h3)
end Mine
end
noncomputable section
open PySem PySem.W PySem.Calls PyProof.Rows PyProof
set_option Elab.async false
set_option maxRecDepth 100000
set_option maxHeartbeats 8000000
namespace Mine
theorem t1 (PL : Mine.PlainL) : PySem.Challenge.rw_wn0102_01.Holds := hd (by
  k_fill
  intro w s₀ s₁ mg mb G Y fa o pm cd doc dV kV ho hd hcd hD hmg hg args vals as hpre hlay hrd hwl hlo
  have KX := kIn_of Y
  have X := (Ground.X G).1
  have V := (Ground.X G).2
  try w_nolog (first | (have GL := glob_more (Ground.glob G (by first | k_qdec | decide +kernel) (by first | k_qdec | decide +kernel)) V) | (have GL := glob_more (Ground.glob G (by decide +kernel)) V))
  refine Ground.open G ?_
  intro T B D TE TW
  try (refine guard_noD D (by decide +kernel) ?_; clear D)
  obtain ⟨_, _, M⟩ := bmod_of_top T
  have TA := at_of_top T
  try (obtain ⟨_, _, he, B0⟩ := based_of_top T rfl hmg ho hd; have he' : cd = _ := he; subst he'; clear he)
  clear hmg
  wrow_args hpre hlay hrd hwl hlo
  all_goals (
    first | refine callC_kw (enter_call ?_) | refine enter_call ?_ | refine callC_kw (enter_callW ?_) | refine enter_callW ?_ | w_how
    w_top on
    have K0 := below_caller (Top.heap T)
    w_call any ho hd hcd hD T F
    clear hd TA
    k_drop
    skip)
  rename_i h1 tk1 oL oW oS dL dW dS N0 X0
  rename IntsAre _ _ => hI
  rename Heap.IsList _ _ _ => hL
  rename ¬ _ < _ => hn
  refine wpAny_mono (Mine.lawA_blk PL w _ _ mg mb fa _ s₁.heap s₁.heap.objs.size _ _ _ oL oW oS _ _ _ K0 F KX N0 T ⟨_, dL⟩ ⟨_, dW⟩ dS hL hI (by omega) hg (fun h tk m' gs F' hb => ?_)) (fun _ _ h => h) (fun _ _ e => e.elim)
  refine ⟨.inl ⟨_, _, [], rfl, fun _ => rfl, ReadsW.bool true, ?_, fun _ => ⟨List.nodup_nil, fun _ hm => (nomatch hm)⟩⟩, OldK.of_keep F'.keep, rfl, hb⟩
  first | rfl | wrow_post)
end Mine
end
set_option maxRecDepth 100000 in
theorem PySem.Challenge.cw_wn0102_01_holds : PySem.Challenge.rw_wn0102_01.Holds := by
  exact Mine.t1 Mine.plainL
