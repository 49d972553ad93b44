import PyProof.Rows.All
import Wide.All
import OpenK.AllK
import Wide.FinOn
import PyProof.GenQ
import PyProof.ListNew
import PyProof.WalksPairs
import PySem.Challenge.RW_et5024_01
open PySem PySem.W PySem.Calls PyProof.Rows
set_option Elab.async false
set_option maxRecDepth 100000
set_option maxHeartbeats 8000000
set_option linter.unusedVariables false
namespace Mine
open_top Tp for PySem.Challenge.rw_et5024_01
end Mine
-- part MBase
namespace Mine
abbrev pg : Program := PySem.Challenge.rw_et5024_01.row.prog
noncomputable abbrev Kf (w : World) : Frag := Tp.heap_39 w.params
abbrev TopH (mean : ExcName → Option Value) (mg mb : Str → Option Value) (h : Heap) : Prop := Top Tp.view_39 (looseW Tp.view_39 [Str.ofString "tokenize"]) mean mg mb h

/-- the entry of a def of the text: its body runs over the heap g (the caller's heap, less what may be written) -/
theorem code_m {w : World} {A : Around} {s : Shared} {R : Result → Shared → Prop} {K : Frag} {g : Heap} {news : List (Addr × Obj)} {name qual : Str} {params : Arguments} {body : List Stmt} {scope : Scope}
    {dV kV doc pm cdv ct oc : Value} {an od : Option Addr} {osl : Array (Option Value)} {f : Addr} {args : Args} {binds : List (Str × Value)}
    (X : K.In g) (hg : ∀ b o, g.get? b = some o → s.heap.get? b = some o) (hgs : g.objs.size = s.heap.objs.size)
    (hN : ∀ p ∈ news, s.heap.get? p.1 = some p.2 ∧ g.get? p.1 = none) (hlim : g.NoLimit)
    (ho : K.lookup f = some ⟨oc, od, .func (fnOf name qual params body scope dV kV doc pm an cdv ct), osl⟩) (hcd : codeIn K cdv qual = true) (hroom : A.depth < recursionLimit)
    (hbind : BindsTo s (fnOf name qual params body scope dV kV doc pm an cdv ct) args binds) (hloc : ∀ y ∈ binds, scope.names.lookup y.1 = some .local)
    (h : ∀ L h₁, Fr g L h₁ (fun y => binds.reverse.lookup y) → News g L h₁ news → L = s.heap.objs.size →
      wpAny (model pg w) (A.deeper (envOf qual scope L f cdv)) (execs body (envOf qual scope L f cdv))
        (fun fl s' => R (.ok (.ret (match fl with | .ret v => v | _ => .none))) s') (fun _ _ => False) { s with heap := h₁, toks := s.toks + binds.length })
    (hco : scope.isCoroutine = false) (hgen : scope.isGenerator = false) (hk : scope.kind = .function) (hcell : ∀ x ∈ scope.names, x.2 ≠ .cell) :
    codeAny (model pg w) A (.call (.ref f) args) R s := by
  refine codeAny_call_def (fd := fnOf name qual params body scope dV kV doc pm an cdv ct) (body := body) (binds := binds) hroom (hg _ _ (X _ _ ho)) rfl (hlim.keeps hg) (codeRec_of (fun a o e => hg a o (X a o e)) hcd) rfl hbind hcell hloc (fun h₁ hns hk₁ => ?_) hco hgen hk
  refine wpAny_mono (h s.heap.objs.size h₁ ⟨hns, fun b o e => hk₁ b o (hg b o e), Nat.le_of_eq hgs⟩ (fun p hp => ⟨hk₁ _ _ (hN p hp).1, Nat.ne_of_lt (Heap.lt_size (hN p hp).1), (hN p hp).2⟩) rfl) (fun _ _ y => y) (fun _ _ y => y.elim)
end Mine
-- part MNext
namespace Mine
abbrev stObj (a : Addr) (i : Int) (ti : Tok) (e : Int) (te : Tok) (c : Nat) : Obj := W.listOf #[.ref a, .int i ti, .int e te] c

theorem fmod_ok {x y : Int} (h : 0 < y) : 0 ≤ x.fmod y ∧ x.fmod y < y := ⟨Int.fmod_nonneg_of_pos x h, Int.fmod_lt_of_pos x h⟩

theorem next_body {w : World} {A : Around} {mean : ExcName → Option Value} {mg mb : Str → Option Value} {g : Heap} {s : Shared} {st a : Addr} {i e many : Int} {ti te tm : Tok} {c : Nat} {vs : List Value} {ns : List Int} {Q E : Value → Shared → Prop}
    (KX : (Tp.heap_39 w.params).In g) (T : TopH mean mg mb g) (hg : ∀ b o, g.get? b = some o → s.heap.get? b = some o) (hgs : g.objs.size = s.heap.objs.size)
    (hst : s.heap.get? st = some (stObj a i ti e te c)) (hgst : g.get? st = none)
    (hL : g.IsList a vs.toArray) (hI : IntsAre vs ns) (hlen : ns.length ≤ 100) (hi0 : 0 ≤ i) (hi1 : i ≤ (ns.length : Int)) (he0 : 0 ≤ e) (he1 : e < 2147483647) (hm0 : 0 < many) (hm1 : many ≤ 64)
    (hd : A.depth + 4 < recursionLimit) (hu : A.units + 40 < cLine)
    (ret : ∀ (v : Int) t (L : Addr) m i' ti' e' te' c' h' tk, 0 ≤ v → v < many → 0 ≤ i' → i' ≤ (ns.length : Int) → 0 ≤ e' → e' < 2147483647 → Fr g L h' m → News g L h' [(st, stObj a i' ti' e' te' c')] → Q (.int v t) { s with heap := h', toks := tk }) :
    wpAny (model pg w) A (call (.ref 52) [.ref st, .int many tm]) Q E s := by
  refine wpAny_call ?_
  have _ : (fun (_ : OpenLaw) (_ : Frag) => True) PySem.Challenge.rw_et5024_01 (Tp.heap_39 w.params) := by (k_fill; trivial)
  (refine' code_m (K := Tp.heap_39 w.params) (g := g) (news := [(st, stObj a i ti e te c)]) KX hg hgs ?k0 T.nolimit ?k6 ?k7 ?k8 ?k9 ?kB ?_ ?c2 ?c3 ?c4 ?c5; (case k6 => k_is); (case k7 => k_is); (case k8 => omega); (case k9 => exact BindsTo.of_eq rfl); (case c5 => decide); (case kB => exact locs rfl); (case c2 => exact rfl); (case c3 => exact rfl); (case c4 => exact rfl); (case k0 => (intro p hp; rw [List.mem_singleton.mp hp]; exact ⟨hst, hgst⟩)))
  intro L h₁ F N _
  clear hst hgst hg hgs
  (try dsimp only)
  k_fold
  k_steps
  all_goals (dsimp only; k_unfold; dsimp only)
  · refine ret _ _ L _ _ _ _ _ _ _ _ ?_ ?_ ?_ ?_ ?_ ?_ (by assumption) (by assumption)
    · exact (fmod_ok hm0).1
    · exact (fmod_ok hm0).2
    · omega
    · omega
    · exact (fmod_ok (by decide)).1
    · exact (fmod_ok (by decide)).2
  · refine ret _ _ L _ _ _ _ _ _ _ _ ?_ ?_ ?_ ?_ ?_ ?_ (by assumption) (by assumption)
    · exact (fmod_ok hm0).1
    · exact (fmod_ok hm0).2
    · omega
    · omega
    · exact (fmod_ok (by decide)).1
    · exact (fmod_ok (by decide)).2

/-- the script's ints stand in the heap g at a -/
def XsAt (g : Heap) (a : Addr) (n : Nat) : Prop := ∃ vs ns, g.IsList a vs.toArray ∧ IntsAre vs ns ∧ ns.length = n ∧ n ≤ 100
theorem XsAt.keeps {g g' : Heap} {a : Addr} {n : Nat} (h : XsAt g a n) (hk : ∀ b x, g.get? b = some x → g'.get? b = some x) : XsAt g' a n := by
  obtain ⟨vs, ns, h1, h2⟩ := h
  exact ⟨vs, ns, h1.at fun o e => hk _ o e, h2⟩
/-- a state list that is good -/
def StO (a : Addr) (n : Nat) (o : Obj) : Prop := ∃ i ti e te c, o = stObj a i ti e te c ∧ 0 ≤ i ∧ i ≤ (n : Int) ∧ 0 ≤ e ∧ e < 2147483647

section
variable {h₀ h h' : Heap} {L L' st : Addr} {m m' : Str → Option Value} {news : List (Addr × Obj)} {o o' : Obj} {ng : Obj → List (Addr × Obj)}
/-- the caller's heap less the one object that the callee writes -/
theorem out_hide (F : Fr h₀ L h m) (N : News h₀ L h news) (U : UpdF st o news ng) :
    (∀ b x, h₀.get? b = some x → (h.hide st).get? b = some x) ∧ (h.hide st).get? st = none ∧ h.get? st = some o ∧
    ((∀ b x, (h.hide st).get? b = some x → h'.get? b = some x) → h'.get? st = some o' → Fr h₀ L h' m ∧ News h₀ L h' (ng o')) := by
  obtain ⟨pre, post, rfl, hg, a, b⟩ := U.split
  have hst := N (st, o) (by simp)
  have nst : ∀ b x, h₀.get? b = some x → b ≠ st := by
    rintro b x e rfl
    rw [hst.2.2] at e; cases e
  refine ⟨fun b x e => by rw [Heap.hide_ne _ (nst b x e)]; exact F.keep b x e, Heap.hide_self _ _, hst.1, fun hk hs => ⟨⟨?_, fun b x e => hk b x (by rw [Heap.hide_ne _ (nst b x e)]; exact F.keep b x e), F.above⟩, ?_⟩⟩
  · exact F.ns.at' fun x e => hk L x (by rw [Heap.hide_ne _ (Ne.symm hst.2.1)]; exact e)
  · rw [hg]
    intro p hp
    rcases List.mem_append.mp hp with hp | hp
    · have := N p (List.mem_append.mpr (.inl hp))
      exact ⟨hk _ _ (by rw [Heap.hide_ne _ (a p hp)]; exact this.1), this.2⟩
    · rcases List.mem_cons.mp hp with rfl | hp
      · exact ⟨hs, hst.2⟩
      · have := N p (List.mem_append.mpr (.inr (List.mem_cons_of_mem _ hp)))
        exact ⟨hk _ _ (by rw [Heap.hide_ne _ (b p hp)]; exact this.1), this.2⟩
end

theorem draw_K {w : World} {A : Around} {mean : ExcName → Option Value} {mg mb : Str → Option Value} {h₀ : Heap} {s : Shared} {L st : Addr} {m : Str → Option Value} {news : List (Addr × Obj)} {ng : Obj → List (Addr × Obj)} {o : Obj} {many : Int} {tm : Tok} {Q E : Value → Shared → Prop} {a : Addr} {n : Nat}
    (F : Fr h₀ L s.heap m) (N : News h₀ L s.heap news) (X : (Tp.heap_39 w.params).In h₀) (T : TopH mean mg mb h₀) (U : UpdF st o news ng) (hx : XsAt h₀ a n) (hs : StO a n o) (hm0 : 0 < many) (hm1 : many ≤ 64)
    (hd : A.depth + 4 < recursionLimit) (hu : A.units + 40 < cLine)
    (ret : ∀ (v : Int) t o' h' tk, StO a n o' → 0 ≤ v → v < many → Fr h₀ L h' m → News h₀ L h' (ng o') → Q (.int v t) { s with heap := h', toks := tk }) :
    wpAny (model pg w) A (call (.ref 52) [.ref st, .int many tm]) Q E s := by
  obtain ⟨i, ti, e, te, c, rfl, h2, h3, h4, h5⟩ := hs
  obtain ⟨vs, ns, hL, hI, rfl, h1⟩ := hx
  obtain ⟨k1, k2, k3, _⟩ := out_hide (h' := s.heap) (o' := stObj a i ti e te c) F N U
  refine next_body (g := s.heap.hide st) (fun a o e => k1 _ _ (X a o e)) (T.keeps k1) (fun b o e => Heap.of_hide e) (Heap.hide_size _ _) k3 k2 (hL.at fun o e => k1 _ o e) hI h1 h2 h3 h4 h5 hm0 hm1 hd hu ?_
  intro v t L' m' i' ti' e' te' c' h' tk hv0 hv1 a1 a2 a3 a4 F' N'
  obtain ⟨F₂, N₂⟩ := (out_hide (h' := h') (o' := stObj a i' ti' e' te' c') F N U).2.2.2 F'.keep (N' _ (List.mem_singleton.mpr rfl)).1
  exact ret v t _ h' tk ⟨i', ti', e', te', c', rfl, a1, a2, a3, a4⟩ hv0 hv1 F₂ N₂
end Mine
-- part MEnter
namespace Mine
/-- the end of a def that writes the state alone: what it hands back, and what of its new objects the caller is told of -/
def EndSt (h₀ : Heap) (g : Heap) (L : Addr) (m : Str → Option Value) (st a : Addr) (n : Nat) (ng : Obj → List (Addr × Obj)) (Q : Value → Shared → Prop) (v : Value) (s' : Shared) : Prop :=
  ∃ L' m' news' o' tl, Fr g L' s'.heap m' ∧ News g L' s'.heap news' ∧ (st, o') ∈ news' ∧ StO a n o' ∧ (∀ p ∈ tl, p ∈ news' ∧ p.1 ≠ st) ∧
    (StO a n o' → (∀ p ∈ tl, ∀ q ∈ ng o', q.1 ≠ p.1) → (∀ p ∈ tl, p.1 ≠ L) → Fr h₀ L s'.heap m → News h₀ L s'.heap (tl ++ ng o') → Q v s')

theorem EndSt.intro {h₀ g : Heap} {L L' : Addr} {m m' : Str → Option Value} {st a : Addr} {n : Nat} {ng : Obj → List (Addr × Obj)} {Q : Value → Shared → Prop} {v : Value} {s' : Shared} {news' : List (Addr × Obj)} {o' : Obj}
    (F : Fr g L' s'.heap m') (N : News g L' s'.heap news') (S : StO a n o') (tl : List (Addr × Obj)) (hst : (st, o') ∈ news') (htl : ∀ p ∈ tl, p ∈ news' ∧ p.1 ≠ st)
    (k : StO a n o' → (∀ p ∈ tl, ∀ q ∈ ng o', q.1 ≠ p.1) → (∀ p ∈ tl, p.1 ≠ L) → Fr h₀ L s'.heap m → News h₀ L s'.heap (tl ++ ng o') → Q v s') : EndSt h₀ g L m st a n ng Q v s' :=
  ⟨L', m', news', o', tl, F, N, hst, S, htl, k⟩

theorem EndSt.one {h₀ g : Heap} {L L' : Addr} {m m' : Str → Option Value} {st a r : Addr} {n : Nat} {ng : Obj → List (Addr × Obj)} {Q : Value → Shared → Prop} {s' : Shared} {news' : List (Addr × Obj)} {o' or : Obj}
    (F : Fr g L' s'.heap m') (N : News g L' s'.heap news') (hst : (st, o') ∈ news') (S : StO a n o') (hr : (r, or) ∈ news') (hne : r ≠ st)
    (k : StO a n o' → (∀ q ∈ ng o', q.1 ≠ r) → Fr h₀ L s'.heap m → News h₀ L s'.heap ((r, or) :: ng o') → Q (.ref r) s') : EndSt h₀ g L m st a n ng Q (.ref r) s' :=
  ⟨L', m', news', o', [(r, or)], F, N, hst, S, fun p hp => by rw [List.mem_singleton.mp hp]; exact ⟨hr, hne⟩, fun S2 O2 _ F2 N2 => k S2 (fun q hq => O2 _ (.head _) q hq) F2 N2⟩

theorem enter_st {w : World} {A : Around} {mean : ExcName → Option Value} {mg mb : Str → Option Value} {h₀ : Heap} {s : Shared} {L st a : Addr} {n : Nat} {m : Str → Option Value} {news : List (Addr × Obj)} {ng : Obj → List (Addr × Obj)} {o : Obj} {Q E : Value → Shared → Prop}
    {K : Frag} {name qual : Str} {params : Arguments} {body : List Stmt} {scope : Scope} {dV kV doc pm cdv ct oc : Value} {an od : Option Addr} {osl : Array (Option Value)} {f : Addr} {args : List Value} {binds : List (Str × Value)}
    (F : Fr h₀ L s.heap m) (N : News h₀ L s.heap news) (X : K.In h₀) (T : TopH mean mg mb h₀) (U : UpdF st o news ng) (SX : XsAt h₀ a n) (S : StO a n o)
    (ho : K.lookup f = some ⟨oc, od, .func (fnOf name qual params body scope dV kV doc pm an cdv ct), osl⟩) (hcd : codeIn K cdv qual = true) (hroom : A.depth < recursionLimit)
    (hbind : BindsTo s (fnOf name qual params body scope dV kV doc pm an cdv ct) ⟨args, []⟩ binds) (hloc : ∀ y ∈ binds, scope.names.lookup y.1 = some .local)
    (h : ∀ g L' h₁, Fr g L' h₁ (fun y => binds.reverse.lookup y) → News g L' h₁ [(st, o)] → K.In g → TopH mean mg mb g → XsAt g a n → (∀ b x, h₀.get? b = some x → g.get? b = some x) →
      wpAny (model pg w) (A.deeper (envOf qual scope L' f cdv)) (execs body (envOf qual scope L' f cdv))
        (fun fl s' => EndSt h₀ g L m st a n ng Q (match fl with | .ret v => v | _ => .none) s') (fun _ _ => False) { s with heap := h₁, toks := s.toks + binds.length })
    (hco : scope.isCoroutine = false) (hgen : scope.isGenerator = false) (hk : scope.kind = .function) (hcell : ∀ x ∈ scope.names, x.2 ≠ .cell) :
    wpAny (model pg w) A (call (.ref f) args) Q E s := by
  have G := fun h' o' => out_hide (h' := h') (o' := o') F N U
  obtain ⟨k1, k2, k3, _⟩ := G s.heap o
  refine wpAny_call ?_
  refine code_m (g := s.heap.hide st) (news := [(st, o)]) (fun a o e => k1 _ _ (X a o e)) (fun b o e => Heap.of_hide e) (Heap.hide_size _ _) (fun p hp => by rw [List.mem_singleton.mp hp]; exact ⟨k3, k2⟩) (T.keeps k1).nolimit ho hcd hroom hbind hloc ?_ hco hgen hk hcell
  intro L' h₁ F' N' _
  refine wpAny_mono (h _ L' h₁ F' N' (fun a o e => k1 _ _ (X a o e)) (T.keeps k1) (SX.keeps k1) k1) (fun fl s' x => ?_) fun _ _ x => x
  obtain ⟨L'', m'', news', o', tl, F'', N'', hst, S'', htl, k⟩ := x
  obtain ⟨F₂, N₂⟩ := (G s'.heap o').2.2.2 F''.keep (N'' _ hst).1
  have hn : ∀ p ∈ tl, h₀.get? p.1 = none := fun p hp => by
    cases e : h₀.get? p.1 with
    | none => rfl
    | some x => have := (N'' p (htl p hp).1).2.2; rw [k1 _ _ e] at this; cases this
  obtain ⟨pre, post, rfl, hg, ua, ub⟩ := U.split
  have live : ∀ q ∈ pre ++ (st, o) :: post, q.1 ≠ st → ∀ p ∈ tl, q.1 ≠ p.1 := fun q hq hqs p hp e => by
    have h1 := (N q hq).1
    have h2 := (N'' p (htl p hp).1).2.2
    rw [← e, Heap.hide_ne _ hqs, h1] at h2
    cases h2
  have hL : ∀ p ∈ tl, p.1 ≠ L := by
    rintro p hp e
    have hL : (s.heap.hide st).get? L ≠ none := by
      obtain ⟨oL, _, _, hL, _⟩ := F.ns
      have : L ≠ st := by
        rintro rfl
        exact (N (L, o) (by simp)).2.1 rfl
      rw [Heap.hide_ne _ this, hL]; nofun
    exact hL (e ▸ (N'' p (htl p hp).1).2.2)
  refine k S'' (fun p hp q hq => ?_) hL F₂ (fun p hp => ?_)
  · rw [hg] at hq
    rcases List.mem_append.mp hq with hq | hq
    · exact live q (List.mem_append.mpr (.inl hq)) (ua q hq) p hp
    · rcases List.mem_cons.mp hq with rfl | hq
      · exact (htl p hp).2.symm
      · exact live q (List.mem_append.mpr (.inr (List.mem_cons_of_mem _ hq))) (ub q hq) p hp
  · rcases List.mem_append.mp hp with hp | hp
    · exact ⟨(N'' p (htl p hp).1).1, hL p hp, hn p hp⟩
    · exact N₂ p hp

/-- the end of a def that writes nothing old -/
def EndPure (h₀ : Heap) (g : Heap) (L : Addr) (m : Str → Option Value) (news : List (Addr × Obj)) (Q : Value → Shared → Prop) (v : Value) (s' : Shared) : Prop :=
  ∃ L' m' news' tl, Fr g L' s'.heap m' ∧ News g L' s'.heap news' ∧ (∀ p ∈ tl, p ∈ news') ∧
    ((∀ p ∈ tl, ∀ q ∈ news, q.1 ≠ p.1) → (∀ p ∈ tl, p.1 ≠ L) → Fr h₀ L s'.heap m → News h₀ L s'.heap (tl ++ news) → Q v s')

theorem EndPure.intro {h₀ g : Heap} {L L' : Addr} {m m' : Str → Option Value} {news : List (Addr × Obj)} {Q : Value → Shared → Prop} {v : Value} {s' : Shared} {news' : List (Addr × Obj)}
    (F : Fr g L' s'.heap m') (N : News g L' s'.heap news') (tl : List (Addr × Obj)) (htl : ∀ p ∈ tl, p ∈ news')
    (k : (∀ p ∈ tl, ∀ q ∈ news, q.1 ≠ p.1) → (∀ p ∈ tl, p.1 ≠ L) → Fr h₀ L s'.heap m → News h₀ L s'.heap (tl ++ news) → Q v s') : EndPure h₀ g L m news Q v s' :=
  ⟨L', m', news', tl, F, N, htl, k⟩

theorem enter_pure {w : World} {A : Around} {mean : ExcName → Option Value} {mg mb : Str → Option Value} {h₀ : Heap} {s : Shared} {L : Addr} {m : Str → Option Value} {news : List (Addr × Obj)} {Q E : Value → Shared → Prop}
    {K : Frag} {name qual : Str} {params : Arguments} {body : List Stmt} {scope : Scope} {dV kV doc pm cdv ct oc : Value} {an od : Option Addr} {osl : Array (Option Value)} {f : Addr} {args : List Value} {binds : List (Str × Value)}
    (F : Fr h₀ L s.heap m) (N : News h₀ L s.heap news) (X : K.In h₀) (T : TopH mean mg mb h₀)
    (ho : K.lookup f = some ⟨oc, od, .func (fnOf name qual params body scope dV kV doc pm an cdv ct), osl⟩) (hcd : codeIn K cdv qual = true) (hroom : A.depth < recursionLimit)
    (hbind : BindsTo s (fnOf name qual params body scope dV kV doc pm an cdv ct) ⟨args, []⟩ binds) (hloc : ∀ y ∈ binds, scope.names.lookup y.1 = some .local)
    (h : ∀ g L' h₁, Fr g L' h₁ (fun y => binds.reverse.lookup y) → News g L' h₁ [] → K.In g → TopH mean mg mb g → (∀ b x, h₀.get? b = some x → g.get? b = some x) →
      wpAny (model pg w) (A.deeper (envOf qual scope L' f cdv)) (execs body (envOf qual scope L' f cdv))
        (fun fl s' => EndPure h₀ g L m news Q (match fl with | .ret v => v | _ => .none) s') (fun _ _ => False) { s with heap := h₁, toks := s.toks + binds.length })
    (hco : scope.isCoroutine = false) (hgen : scope.isGenerator = false) (hk : scope.kind = .function) (hcell : ∀ x ∈ scope.names, x.2 ≠ .cell) :
    wpAny (model pg w) A (call (.ref f) args) Q E s := by
  refine wpAny_call ?_
  refine code_m (g := s.heap) (news := []) (fun a o e => F.keep _ _ (X a o e)) (fun b o e => e) rfl (fun p hp => nomatch hp) (T.keeps F.keep).nolimit ho hcd hroom hbind hloc ?_ hco hgen hk hcell
  intro L' h₁ F' N' _
  refine wpAny_mono (h _ L' h₁ F' N' (fun a o e => F.keep _ _ (X a o e)) (T.keeps F.keep) F.keep) (fun fl s' x => ?_) fun _ _ x => x
  obtain ⟨L'', m'', news', tl, F'', N'', htl, k⟩ := x
  have hn : ∀ p ∈ tl, h₀.get? p.1 = none := fun p hp => by
    cases e : h₀.get? p.1 with
    | none => rfl
    | some x => have := (N'' p (htl p hp)).2.2; rw [F.keep _ _ e] at this; cases this
  have hL : ∀ p ∈ tl, p.1 ≠ L := by
    rintro p hp e
    obtain ⟨oL, _, _, hL, _⟩ := F.ns
    have := (N'' p (htl p hp)).2.2
    rw [e, hL] at this; cases this
  refine k (fun p hp q hq e => ?_) hL ⟨F.ns.keeps F''.keep, fun b o e => F''.keep b o (F.keep b o e), F.above⟩ (fun p hp => ?_)
  · have h1 := (N q hq).1
    have h2 := (N'' p (htl p hp)).2.2
    rw [← e, h1] at h2
    cases h2
  · rcases List.mem_append.mp hp with hp | hp
    · exact ⟨(N'' p (htl p hp)).1, hL p hp, hn p hp⟩
    · exact ⟨F''.keep _ _ (N p hp).1, (N p hp).2⟩
end Mine
-- part MStr
namespace Mine
open PySem.StrLaws PySem.Builtin PySem.Builtin.Str

/-- the codes of a text -/
def cs (x : Str) : List Nat := x.cps.toList
theorem cs_app (x y : Str) : cs (x ++ y) = cs x ++ cs y := by
  unfold cs; rw [Str.cps_append, Array.toList_append]
theorem cs_len (x : Str) : x.length = (cs x).length := by
  unfold cs Str.length; simp
theorem cs_inj {x y : Str} (h : cs x = cs y) : x = y := Str.ext' (Array.toList_inj.mp h)
theorem foldl_rep (c : Nat) : ∀ (n : Nat) (a : Array Nat), ((List.replicate n (#[c] : Array Nat)).foldl (· ++ ·) a).toList = a.toList ++ List.replicate n c
  | 0, a => by simp
  | n + 1, a => by
    rw [List.replicate_succ, List.foldl_cons, foldl_rep c n, Array.toList_append, List.replicate_succ, List.append_assoc]
    rfl
theorem cs_mul (c : Nat) (v : Int) : cs (Txt.mul ⟨#[c]⟩ v) = List.replicate v.toNat c := by
  unfold Txt.mul
  split
  · rename_i h
    have : v.toNat = 0 := by omega
    rw [this]; rfl
  · split
    · rename_i h1 h2
      have h3 : v = 1 := by
        have e : ((⟨#[c]⟩ : Str).length == 0) = false := rfl
        rw [e, Bool.or_false] at h2
        exact beq_iff_eq.mp h2
      subst h3; rfl
    · show ((List.replicate v.toNat (#[c] : Array Nat)).foldl (· ++ ·) #[]).toList = _
      rw [foldl_rep]; rfl

/-- how many words, the last one's length, the open run's length -/
def abS (s : Nat × Nat × Nat) (c : Nat) : Nat × Nat × Nat := if Unicode.isSpace c = true then (if s.2.2 = 0 then s else (s.1 + 1, s.2.2, 0)) else (s.1, s.2.1, s.2.2 + 1)
def ab (s : Nat × Nat × Nat) (l : List Nat) : Nat × Nat × Nat := l.foldl abS s
def afin (s : Nat × Nat × Nat) : Nat × Nat := if s.2.2 = 0 then (s.1, s.2.1) else (s.1 + 1, s.2.2)
def lastL (ws : List Str) : Nat := (ws.getLast?.map Str.length).getD 0
theorem lastL_snoc (ws : List Str) (x : Str) : lastL (ws ++ [x]) = x.length := by simp [lastL]
def alf (st : KWd.St) : Nat × Nat × Nat := (st.1.length, lastL st.1, st.2.length)
theorem alf_step (st : KWd.St) (c : Nat) : alf (KWd.step st c) = abS (alf st) c := by
  unfold KWd.step abS alf
  by_cases h : Unicode.isSpace c = true
  · simp only [h, if_true]
    by_cases h2 : st.2.length = 0
    · simp only [h2, if_true]
    · simp only [h2, if_false]
      rw [lastL_snoc]
      simp [Str.length, Str.empty]
  · simp only [h, if_false]
    simp [Str.length, Str.cps_append]
theorem alf_fold : ∀ (l : List Nat) (st : KWd.St), alf (l.foldl KWd.step st) = ab (alf st) l
  | [], _ => rfl
  | c :: l, st => by
    show alf (l.foldl KWd.step (KWd.step st c)) = (l.foldl abS (abS (alf st) c))
    rw [alf_fold l, alf_step]; rfl
theorem words_ab (x : Str) : ((Txt.words x).length, lastL (Txt.words x)) = afin (ab (0, 0, 0) (cs x)) := by
  have h : ab (0, 0, 0) (cs x) = alf (KWd.scan x) := (alf_fold (cs x) ([], Str.empty)).symm
  rw [h, KWd.words_scan]
  unfold KWd.fin afin alf
  by_cases h2 : (KWd.scan x).2.length = 0
  · simp only [h2, if_true]
  · simp only [h2, if_false]
    rw [lastL_snoc]; simp

/-- the words of a text: how many, and the last one's length -/
def Wl (x : Str) (k l : Nat) : Prop := afin (ab (0, 0, 0) (cs x)) = (k, l)
theorem Wl.words {x : Str} {k l : Nat} (h : Wl x k l) : (Txt.words x).length = k ∧ lastL (Txt.words x) = l := by
  have := (words_ab x).trans h
  exact ⟨congrArg Prod.fst this, congrArg Prod.snd this⟩
theorem ab_app (s : Nat × Nat × Nat) (a b : List Nat) : ab s (a ++ b) = ab (ab s a) b := List.foldl_append ..
theorem sp32 : Unicode.isSpace 32 = true := by decide +kernel
theorem ab_blank : ∀ (n : Nat) (s : Nat × Nat × Nat), ab s (List.replicate n 32) = if n = 0 ∨ s.2.2 = 0 then s else (s.1 + 1, s.2.2, 0)
  | 0, s => by simp [ab]
  | n + 1, s => by
    rw [List.replicate_succ]
    show ab (abS s 32) (List.replicate n 32) = _
    rw [ab_blank n]
    unfold abS
    rw [if_pos sp32]
    by_cases h : s.2.2 = 0
    · simp [h]
    · simp [h]
theorem ab_word {c : Nat} (hc : Unicode.isSpace c = false) : ∀ (n : Nat) (s : Nat × Nat × Nat), ab s (List.replicate n c) = (s.1, s.2.1, s.2.2 + n)
  | 0, s => rfl
  | n + 1, s => by
    rw [List.replicate_succ]
    show ab (abS s c) (List.replicate n c) = _
    rw [ab_word hc n]
    unfold abS
    rw [if_neg (by rw [hc]; exact Bool.false_ne_true)]
    simp only [Prod.mk.injEq, true_and]; omega
theorem afin_blank (n : Nat) (s : Nat × Nat × Nat) : afin (ab s (List.replicate n 32)) = afin s := by
  rw [ab_blank]
  split
  · rfl
  · rename_i h
    unfold afin
    have h2 : s.2.2 ≠ 0 := fun e => h (.inr e)
    simp [h2]
/-- blanks ahead and behind turn nothing -/
theorem Wl.pad {x y : Str} {k l i j : Nat} (h : Wl x k l) (e : cs y = List.replicate i 32 ++ (cs x ++ List.replicate j 32)) : Wl y k l := by
  unfold Wl
  rw [e, ab_app, ab_app, afin_blank]
  have : ab (0, 0, 0) (List.replicate i 32) = (0, 0, 0) := by rw [ab_blank]; simp
  rw [this]; exact h

def Nb (l : List Nat) : Prop := ∀ c ∈ l, Unicode.isLineBreak c = false
theorem Nb.app {a b : List Nat} (ha : Nb a) (hb : Nb b) : Nb (a ++ b) := fun c hc => (List.mem_append.mp hc).elim (ha c) (hb c)
theorem Nb.rep {c n : Nat} (hc : Unicode.isLineBreak c = false) : Nb (List.replicate n c) := fun d hd => by rw [(List.mem_replicate.mp hd).2]; exact hc
theorem Nb.nil : Nb [] := fun _ h => nomatch h
theorem Nb.cons {c : Nat} {l : List Nat} (hc : Unicode.isLineBreak c = false) (h : Nb l) : Nb (c :: l) := fun d hd => by
  rcases List.mem_cons.mp hd with rfl | hd
  · exact hc
  · exact h d hd

-- the lines of a text
def lrun (s : Str) (m cur : Nat) (st : LsSt) : LsSt := Id.run (forIn (m := Id) (List.range' cur m) st (lsBody s))
theorem lrun_zero (s : Str) (cur : Nat) (st : LsSt) : lrun s 0 cur st = st := rfl
theorem lrun_succ (s : Str) (m cur : Nat) (st : LsSt) : lrun s (m + 1) cur st = lrun s m (cur + 1) (if (decide (st.2 ≤ cur) && Unicode.isLineBreak (s.cps.getD cur 0)) = true then (st.1.push (st.2, cur, lsNext s cur), lsNext s cur) else st) := by
  obtain ⟨lines, start⟩ := st
  unfold lrun
  rw [List.range'_succ, List.forIn_cons]
  unfold lsBody
  by_cases hc : (decide (start ≤ cur) && Unicode.isLineBreak (s.cps.getD cur 0)) = true
  · simp only [hc, if_true]; rfl
  · simp only [hc, if_false, Bool.false_eq_true]; rfl
theorem lrun_add (s : Str) : ∀ (a b cur : Nat) (st : LsSt), lrun s (a + b) cur st = lrun s b (cur + a) (lrun s a cur st)
  | 0, b, cur, st => by rw [Nat.zero_add, lrun_zero]; rfl
  | a + 1, b, cur, st => by
    have e : a + 1 + b = (a + b) + 1 := by omega
    rw [e, lrun_succ, lrun_add s a b, lrun_succ]
    have : cur + 1 + a = cur + (a + 1) := by omega
    rw [this]
theorem lrun_free (s : Str) : ∀ (m cur : Nat) (st : LsSt), (∀ i, cur ≤ i → i < cur + m → Unicode.isLineBreak (s.cps.getD i 0) = false) → lrun s m cur st = st
  | 0, _, _, _ => rfl
  | m + 1, cur, st, h => by
    rw [lrun_succ, h cur (Nat.le_refl _) (by omega), Bool.and_false, if_neg Bool.false_ne_true]
    exact lrun_free s m (cur + 1) st fun i h1 h2 => h i (by omega) (by omega)
theorem getD_cs (s : Str) (i : Nat) : s.cps.getD i 0 = (cs s).getD i 0 := by
  unfold cs
  simp [Array.getD, List.getD]
  split <;> simp_all

/-- segments, each with a line feed behind it -/
def glue (xs : List (List Nat)) : List Nat := xs.flatMap (· ++ [10])
def spansOf : Nat → List (List Nat) → List (Nat × Nat × Nat)
  | _, [] => []
  | o, x :: xs => (o, o + x.length, o + x.length + 1) :: spansOf (o + x.length + 1) xs
theorem lb10 : Unicode.isLineBreak 10 = true := by decide +kernel
theorem lrun_glue (s : Str) : ∀ (xs : List (List Nat)) (pre : List Nat) (st : LsSt), cs s = pre ++ glue xs → st.2 = pre.length → (∀ x ∈ xs, Nb x) →
    lrun s (glue xs).length pre.length st = (st.1 ++ (spansOf pre.length xs).toArray, pre.length + (glue xs).length)
  | [], pre, st, _, h2, _ => by
    show lrun s 0 _ st = _
    rw [lrun_zero, ← h2]
    simp [spansOf, glue]
  | x :: xs, pre, st, h1, h2, h3 => by
    have hg : glue (x :: xs) = x ++ 10 :: glue xs := by simp [glue]
    have hl : (glue (x :: xs)).length = x.length + ((glue xs).length + 1) := by rw [hg]; simp
    have at' : ∀ i, (cs s).getD i 0 = (pre ++ (x ++ 10 :: glue xs)).getD i 0 := fun i => by rw [h1, hg]
    rw [hl, lrun_add, lrun_free s x.length pre.length st, lrun_succ]
    · have hb : Unicode.isLineBreak (s.cps.getD (pre.length + x.length) 0) = true := by
        rw [getD_cs, at']
        have : (pre ++ (x ++ 10 :: glue xs)).getD (pre.length + x.length) 0 = 10 := by simp [List.getD]
        rw [this]; exact lb10
      have hn : lsNext s (pre.length + x.length) = pre.length + x.length + 1 := by
        unfold lsNext
        have : (s.cps.getD (pre.length + x.length) 0 == 13) = false := by
          rw [getD_cs, at']
          have : (pre ++ (x ++ 10 :: glue xs)).getD (pre.length + x.length) 0 = 10 := by simp [List.getD]
          rw [this]; rfl
        rw [this, Bool.false_and, if_neg Bool.false_ne_true]
      have hle : decide (st.2 ≤ pre.length + x.length) = true := decide_eq_true (by omega)
      rw [hb, hle, hn, Bool.and_true, if_pos rfl]
      have key := lrun_glue s xs (pre ++ x ++ [10]) (st.1.push (st.2, pre.length + x.length, pre.length + x.length + 1), pre.length + x.length + 1)
        (by rw [h1, hg]; simp) (by simp; omega) (fun y hy => h3 y (List.mem_cons_of_mem _ hy))
      have hpl : (pre ++ x ++ [10]).length = pre.length + x.length + 1 := by simp; omega
      rw [hpl] at key
      rw [key, h2]
      simp only [spansOf, Prod.mk.injEq]
      refine ⟨?_, by omega⟩
      apply Array.toList_inj.mp
      simp
    · intro i hi1 hi2
      rw [getD_cs, at']
      have : (pre ++ (x ++ 10 :: glue xs)).getD i 0 = x.getD (i - pre.length) 0 := by
        simp only [List.getD]
        rw [List.getElem?_append_right hi1, List.getElem?_append_left (by omega)]
      rw [this]
      have hx : i - pre.length < x.length := by omega
      have : x.getD (i - pre.length) 0 = x[i - pre.length] := by simp [List.getD, hx]
      rw [this]
      exact h3 x (List.mem_cons_self ..) _ (List.getElem_mem hx)
theorem spans_sub (s : Str) : ∀ (xs : List (List Nat)) (pre : List Nat), cs s = pre ++ glue xs → ((spansOf pre.length xs).map fun p => cs (strSub s p.1 p.2.1)) = xs
  | [], _, _ => rfl
  | x :: xs, pre, h => by
    have hg : glue (x :: xs) = x ++ 10 :: glue xs := by simp [glue]
    have ih := spans_sub s xs (pre ++ x ++ [10]) (by rw [h, hg]; simp)
    have hpl : (pre ++ x ++ [10]).length = pre.length + x.length + 1 := by simp; omega
    rw [hpl] at ih
    simp only [spansOf, List.map_cons, ih]
    congr 1
    show (strSub s pre.length (pre.length + x.length)).cps.toList = x
    rw [strSub_toList]
    show ((cs s).drop _).take _ = x
    rw [h, hg]
    simp
theorem lines_glue {y : Str} {xs : List (List Nat)} (h : cs y = glue xs) (hne : xs ≠ []) (hb : ∀ x ∈ xs, Nb x) : (Txt.lines y).map cs = xs := by
  have hlen : y.length = (glue xs).length := by rw [cs_len, h]
  have hs : lineSpans y = spansOf 0 xs := by
    rw [ls_eq]
    show lsEnd y (lrun y y.length 0 (#[], 0)) = _
    have := lrun_glue y xs [] (#[], 0) (by simpa using h) rfl hb
    simp only [List.length_nil] at this
    rw [hlen, this]
    unfold lsEnd
    simp [hlen]
  have hc : lineCuts y = (spansOf 0 xs).map fun p => (p.1, p.2.1) := by
    unfold lineCuts
    rw [hs]
    apply List.map_congr_left
    intro ⟨i, j, k⟩ _
    rfl
  have hsub := spans_sub y xs [] (by simpa using h)
  simp only [List.length_nil] at hsub
  unfold Txt.lines
  split
  · rename_i he
    exfalso
    have he' : lineCuts y = [(0, y.length)] := by simpa using he
    cases xs with
    | nil => exact hne rfl
    | cons x r =>
      rw [hc] at he'
      simp only [spansOf, List.map_cons, List.cons.injEq, Prod.mk.injEq] at he'
      have : glue (x :: r) = x ++ 10 :: glue r := by simp [glue]
      rw [this] at hlen
      simp at hlen
      omega
  · unfold linesOf
    rw [hc, List.map_map, List.map_map]
    exact hsub

/-- a line: how many words, the last one's length; no line break within -/
structure Ln (x : Str) (k l : Int) : Prop where
  wl : ∃ k' l' : Nat, Wl x k' l' ∧ k = (k' : Int) ∧ l = (l' : Int)
  nb : Nb (cs x)
/-- a remark: it opens with # and no ! behind it -/
structure RemOk (x : Str) (k l : Int) : Prop where
  ln : Ln x k l
  len : x.length ≤ 300
  head : ∃ c r, cs x = 35 :: c :: r ∧ c ≠ 33
theorem one_a : Str.ofString "a" = ⟨#[97]⟩ := by decide +kernel
theorem one_b : Str.ofString "b" = ⟨#[98]⟩ := by decide +kernel
theorem one_c : Str.ofString "c" = ⟨#[99]⟩ := by decide +kernel
theorem one_d : Str.ofString "d" = ⟨#[100]⟩ := by decide +kernel
theorem one_e : Str.ofString "e" = ⟨#[101]⟩ := by decide +kernel
theorem one_f : Str.ofString "f" = ⟨#[102]⟩ := by decide +kernel
theorem one_sp : Str.ofString " " = ⟨#[32]⟩ := by decide +kernel
theorem cs_sp : cs (Str.ofString " ") = [32] := by decide +kernel
theorem cs_hash : cs (Str.ofString "#") = [35] := by decide +kernel
theorem cs_hashsp : cs (Str.ofString "# ") = [35, 32] := by decide +kernel
theorem sp97 : Unicode.isSpace 97 = false := by decide +kernel
theorem sp98 : Unicode.isSpace 98 = false := by decide +kernel
theorem sp99 : Unicode.isSpace 99 = false := by decide +kernel
theorem sp100 : Unicode.isSpace 100 = false := by decide +kernel
theorem sp102 : Unicode.isSpace 102 = false := by decide +kernel
theorem sp35 : Unicode.isSpace 35 = false := by decide +kernel
theorem sp34 : Unicode.isSpace 34 = false := by decide +kernel
theorem sp33 : Unicode.isSpace 33 = false := by decide +kernel
theorem nb97 : Unicode.isLineBreak 97 = false := by decide +kernel
theorem nb98 : Unicode.isLineBreak 98 = false := by decide +kernel
theorem nb99 : Unicode.isLineBreak 99 = false := by decide +kernel
theorem nb100 : Unicode.isLineBreak 100 = false := by decide +kernel
theorem nb102 : Unicode.isLineBreak 102 = false := by decide +kernel
theorem nb35 : Unicode.isLineBreak 35 = false := by decide +kernel
theorem nb34 : Unicode.isLineBreak 34 = false := by decide +kernel
theorem nb33 : Unicode.isLineBreak 33 = false := by decide +kernel
theorem nb32 : Unicode.isLineBreak 32 = false := by decide +kernel
theorem ab_cons_w {c : Nat} (hc : Unicode.isSpace c = false) (l : List Nat) (s : Nat × Nat × Nat) : ab s (c :: l) = ab (s.1, s.2.1, s.2.2 + 1) l := by
  show ab (abS s c) l = _
  unfold abS
  rw [if_neg (by rw [hc]; exact Bool.false_ne_true)]
theorem ab_cons_b (l : List Nat) (s : Nat × Nat × Nat) (h : s.2.2 ≠ 0) : ab s (32 :: l) = ab (s.1 + 1, s.2.2, 0) l := by
  show ab (abS s 32) l = _
  unfold abS
  rw [if_pos sp32, if_neg h]
theorem ab_nil (s : Nat × Nat × Nat) : ab s [] = s := rfl
theorem ab_blank' {n : Nat} (hn : 1 ≤ n) (s : Nat × Nat × Nat) (h : s.2.2 ≠ 0) : ab s (List.replicate n 32) = (s.1 + 1, s.2.2, 0) := by
  rw [ab_blank, if_neg (by omega)]

theorem rem_0 {v : Int} (h0 : 1 ≤ v) (h1 : v ≤ 80) : RemOk (Str.ofString "# " ++ Txt.mul (Str.ofString "a") v) 2 v := by
  have e : cs (Str.ofString "# " ++ Txt.mul (Str.ofString "a") v) = 35 :: 32 :: List.replicate v.toNat 97 := by rw [cs_app, cs_hashsp, one_a, cs_mul]; rfl
  refine ⟨⟨⟨2, v.toNat, ?_, rfl, by omega⟩, ?_⟩, ?_, 32, _, e, by decide⟩
  · unfold Wl
    rw [e, ab_cons_w sp35, ab_cons_b _ _ (by simp), ab_word sp97]
    unfold afin
    simp only [Nat.zero_add]
    rw [if_neg (by omega)]
  · rw [e]; exact .cons nb35 (.cons nb32 (.rep nb97))
  · rw [cs_len, e]; simp; omega
theorem rem_1 {v k : Int} (h0 : 1 ≤ v) (h1 : v ≤ 80) (k0 : 1 ≤ k) (k1 : k ≤ 80) : RemOk (Str.ofString "#" ++ Txt.mul (Str.ofString " ") k ++ Txt.mul (Str.ofString "a") v) 2 v := by
  have e : cs (Str.ofString "#" ++ Txt.mul (Str.ofString " ") k ++ Txt.mul (Str.ofString "a") v) = 35 :: (List.replicate k.toNat 32 ++ List.replicate v.toNat 97) := by rw [cs_app, cs_app, cs_hash, one_a, one_sp, cs_mul, cs_mul]; rfl
  have e2 : List.replicate k.toNat 32 = 32 :: List.replicate (k.toNat - 1) 32 := by
    obtain ⟨j, hj⟩ : ∃ j, k.toNat = j + 1 := ⟨k.toNat - 1, by omega⟩
    rw [hj, List.replicate_succ]; rfl
  refine ⟨⟨⟨2, v.toNat, ?_, rfl, by omega⟩, ?_⟩, ?_, 32, List.replicate (k.toNat - 1) 32 ++ List.replicate v.toNat 97, by rw [e, e2]; rfl, by decide⟩
  · unfold Wl
    rw [e, ab_cons_w sp35, ab_app, ab_blank' (by omega) _ (by simp), ab_word sp97]
    unfold afin
    simp only [Nat.zero_add]
    rw [if_neg (by omega)]
  · rw [e]; exact .cons nb35 (.app (.rep nb32) (.rep nb97))
  · rw [cs_len, e]; simp; omega
theorem rem_2 {v : Int} (h0 : 1 ≤ v) (h1 : v ≤ 80) : RemOk (Str.ofString "#" ++ Txt.mul (Str.ofString "a") v) 1 (v + 1) := by
  have e : cs (Str.ofString "#" ++ Txt.mul (Str.ofString "a") v) = 35 :: List.replicate v.toNat 97 := by rw [cs_app, cs_hash, one_a, cs_mul]; rfl
  have e2 : List.replicate v.toNat 97 = 97 :: List.replicate (v.toNat - 1) 97 := by
    obtain ⟨j, hj⟩ : ∃ j, v.toNat = j + 1 := ⟨v.toNat - 1, by omega⟩
    rw [hj, List.replicate_succ]; rfl
  refine ⟨⟨⟨1, v.toNat + 1, ?_, rfl, by omega⟩, ?_⟩, ?_, 97, List.replicate (v.toNat - 1) 97, by rw [e, e2], by decide⟩
  · unfold Wl
    rw [e, ab_cons_w sp35, ab_word sp97]
    unfold afin
    simp only [Nat.zero_add]
    rw [if_neg (by omega), Nat.add_comm]
  · rw [e]; exact .cons nb35 (.rep nb97)
  · rw [cs_len, e]; simp; omega
theorem rem_3 {v k : Int} (h0 : 1 ≤ v) (h1 : v ≤ 80) (k0 : 1 ≤ k) (k1 : k ≤ 80) : RemOk (Str.ofString "# " ++ Txt.mul (Str.ofString "a") v ++ Str.ofString " " ++ Txt.mul (Str.ofString "b") k) 3 k := by
  have e : cs (Str.ofString "# " ++ Txt.mul (Str.ofString "a") v ++ Str.ofString " " ++ Txt.mul (Str.ofString "b") k) = 35 :: 32 :: (List.replicate v.toNat 97 ++ (32 :: List.replicate k.toNat 98)) := by
    rw [cs_app, cs_app, cs_app, cs_hashsp, one_a, one_b, cs_sp, cs_mul, cs_mul]; simp
  refine ⟨⟨⟨3, k.toNat, ?_, rfl, by omega⟩, ?_⟩, ?_, 32, _, e, by decide⟩
  · unfold Wl
    rw [e, ab_cons_w sp35, ab_cons_b _ _ (by simp), ab_app, ab_word sp97, ab_cons_b _ _ (by simp; omega), ab_word sp98]
    unfold afin
    simp only [Nat.zero_add]
    rw [if_neg (by omega)]
  · rw [e]; exact .cons nb35 (.cons nb32 (.app (.rep nb97) (.cons nb32 (.rep nb98))))
  · rw [cs_len, e]; simp; omega
theorem len_one {x : Str} {c : Nat} (hx : x = ⟨#[c]⟩) {v : Int} (h : 0 ≤ v) : ((Txt.mul x v).length : Int) = v := by
  subst hx
  rw [cs_len, cs_mul, List.length_replicate]; omega
theorem rem_0' {v : Int} (h0 : 1 ≤ v) (h1 : v ≤ 80) : RemOk (Str.ofString "# " ++ Txt.mul (Str.ofString "a") v) 2 ((Txt.mul (Str.ofString "a") v).length : Int) := by
  rw [len_one one_a (by omega)]; exact rem_0 h0 h1
theorem rem_1' {v k : Int} (h0 : 1 ≤ v) (h1 : v ≤ 80) (k0 : 1 ≤ k) (k1 : k ≤ 80) : RemOk (Str.ofString "#" ++ Txt.mul (Str.ofString " ") k ++ Txt.mul (Str.ofString "a") v) 2 ((Txt.mul (Str.ofString "a") v).length : Int) := by
  rw [len_one one_a (by omega)]; exact rem_1 h0 h1 k0 k1
theorem rem_2' {v : Int} (h0 : 1 ≤ v) (h1 : v ≤ 80) : RemOk (Str.ofString "#" ++ Txt.mul (Str.ofString "a") v) 1 ((Txt.mul (Str.ofString "a") v).length + 1 : Int) := by
  rw [len_one one_a (by omega)]; exact rem_2 h0 h1
theorem rem_3' {v k : Int} (h0 : 1 ≤ v) (h1 : v ≤ 80) (k0 : 1 ≤ k) (k1 : k ≤ 80) : RemOk (Str.ofString "# " ++ Txt.mul (Str.ofString "a") v ++ Str.ofString " " ++ Txt.mul (Str.ofString "b") k) 3 ((Txt.mul (Str.ofString "b") k).length : Int) := by
  rw [len_one one_b (by omega)]; exact rem_3 h0 h1 k0 k1
theorem len_le {x : Str} {c : Nat} (hx : x = ⟨#[c]⟩) {v : Int} (h : v ≤ 80) : ((Txt.mul x v).length : Int) ≤ 80 := by
  subst hx
  rw [cs_len, cs_mul, List.length_replicate]; omega
end Mine
-- part MLoop
namespace Mine
/-- a mark at which the walk stops -/
def Stop (P : Prop) : Prop := P
theorem stop_here {P : Prop} (h : Stop P) : P := h
theorem Stop.out {P : Prop} (h : P) : Stop P := h

section
variable {prog : Program} {w : World} {A : Around} {E : Value → Shared → Prop} {s : Shared} {env : Env} {h₀ : Heap} {x : Str} {body : List Stmt} {Q : Flow → Shared → Prop}
/-- a loop over a range by ones, by what holds of its turn's number, the frame and the ledger -/
theorem range_loop {r : Addr} {a₀ b₀ : Int} {t₀ u₀ v₀ : Tok} {n : Nat} {m₀ : Str → Option Value} {news : List (Addr × Obj)} (J : Nat → (Str → Option Value) → List (Addr × Obj) → Prop)
    (hh : A.handled = none) (hr : IsRange s.heap r a₀ b₀ 1 t₀ u₀ v₀) (hsmall : Builtin.Range.small a₀ b₀ 1 = true) (hsz : Builtin.Range.rangeSize a₀ b₀ 1 = (n : Int)) (F : Fr h₀ env.locals s.heap m₀) (N : News h₀ env.locals s.heap news) (hj : J 0 m₀ news)
    (turn : ∀ i t m₁ nx h tk own, i < n → OwnOff own (nx.map (·.1)) → J i m₁ nx → Fr h₀ env.locals h (fun y => if y = x then some (.int (a₀ + (i : Int)) t) else m₁ y) → News h₀ env.locals h (nx ++ own) →
      wpAny (model prog w) A (execs body env) (InvPostG h₀ env.locals (J (i + 1)) own { s with heap := h, toks := tk } Q) E { s with heap := h, toks := tk })
    (done : ∀ m₁ nx h tk, J n m₁ nx → Fr h₀ env.locals h m₁ → News h₀ env.locals h nx → Q .next { s with heap := h, toks := tk }) :
    wpAny (model prog w) A (pyIter (.ref r)) (fun it s₂ => LoopAtV prog w A h₀ env x body Q E it s₂) E s := by
  refine wpAny_pyIter_range hr hsmall ?_
  have W : Walks prog w A s.heap.objs.size [s.heap.objs.size] [s.heap.objs.size] n (fun i v => i < n ∧ ∃ t, v = .int (a₀ + i * 1) t)
      (fun i h => IsRangeIter h s.heap.objs.size (a₀ + (i : Nat) * 1) ((n : Int) - (i : Nat)) 1) := (Walks.range hh _ a₀ 1 n).bound
  refine kdr_loop J W (fun _ h => h) (fun _ h => h) ?_ ?_ ?_ ?_ (by show IsRangeIter _ _ _ _ _; rw [hsz]; simpa using Heap.get?_push_size _ rfl) (F.push _) (fun p hp => ⟨Heap.get?_push_of_some _ (N p hp).1, (N p hp).2⟩) hj ?_ ?_
  · intro i h hi b hb
    rw [List.mem_singleton.mp hb]
    exact ⟨_, hi⟩
  · intro hm
    exact absurd F.ns.lt ((List.mem_singleton.mp hm) ▸ Nat.lt_irrefl _)
  · intro b hb
    rw [List.mem_singleton.mp hb]
    exact next_is_new F
  · intro p hp hI
    exact absurd (Heap.lt_size (N p hp).1) ((List.mem_singleton.mp hI) ▸ Nat.lt_irrefl _)
  · rintro i v m₁ nx h tk own hi ⟨_, t, rfl⟩ hoff hJ F₁ N₁
    have e1 : a₀ + (i : Int) * 1 = a₀ + (i : Int) := by omega
    rw [e1] at F₁
    exact turn i t m₁ nx h tk own hi hoff hJ F₁ N₁
  · intro m₁ nx h tk hJ F₁ N₁
    exact done m₁ nx h tk hJ F₁ N₁
/-- the end of a turn -/
theorem turn_end {J : (Str → Option Value) → List (Addr × Obj) → Prop} {L : Addr} {m' : Str → Option Value} {own news' : List (Addr × Obj)} {s₁ : Shared} {h' : Heap} {tk : Nat} (F : Fr h₀ L h' m') (N : News h₀ L h' news') (nx : List (Addr × Obj))
    (hn : ∀ p ∈ nx, p ∈ news') (ho : ∀ p ∈ own, p ∈ news') (hoff : OwnOff own (nx.map (·.1))) (hJ : J m' nx) : InvEndG h₀ L J own s₁ { s₁ with heap := h', toks := tk } :=
  ⟨h', tk, m', news', nx, rfl, F, N, hn, ho, hoff, hJ⟩
end
end Mine
-- part MSize
namespace Mine
local macro_rules | `(tactic| walk_at "call ref") => `(tactic| (k_here; (with_reducible show wpAny _ _ (call (Value.ref 52) _) _ _ _); k_dflt ((refine' draw_K ?k1 ?k2 ?k3 ?k4 ?k5 ?kX ?k6 ?e0 ?e1 ?k9 ?kA ?_; (case k1 => k_asm); (case k2 => k_asm); (case k3 => k_asm); (case k4 => k_asm); (case k5 => k_updF); (case kX => assumption); (case k6 => assumption); (case e0 => decide); (case e1 => decide); (case k9 => (simp only [depth_deeper]; omega)); (case kA => (simp only [units_deeper]; omega)); k_whole); intro v' t' o' h' tk' S' v0' v1' F' N'; (try dsimp only at N'))))

theorem size_ok {v : Int} (h0 : 0 ≤ v) (h1 : v < 16) : 1 ≤ ([1, 3, 6, 12, 20, 36, 50, 60, 66, 68, 70, 71, 72, 73, 74, 80] : List Int).getD v.toNat 0 ∧ ([1, 3, 6, 12, 20, 36, 50, 60, 66, 68, 70, 71, 72, 73, 74, 80] : List Int).getD v.toNat 0 ≤ 80 := by
  obtain ⟨k, rfl⟩ := Int.eq_ofNat_of_zero_le h0
  have hk : k < 16 := by omega
  have : ∀ k < 16, 1 ≤ ([1, 3, 6, 12, 20, 36, 50, 60, 66, 68, 70, 71, 72, 73, 74, 80] : List Int).getD k 0 ∧ ([1, 3, 6, 12, 20, 36, 50, 60, 66, 68, 70, 71, 72, 73, 74, 80] : List Int).getD k 0 ≤ 80 := by decide
  exact this k hk

theorem size_K {w : World} {A : Around} {mean : ExcName → Option Value} {mg mb : Str → Option Value} {h₀ : Heap} {s : Shared} {L st a : Addr} {n : Nat} {m : Str → Option Value} {news : List (Addr × Obj)} {ng : Obj → List (Addr × Obj)} {o : Obj} {Q E : Value → Shared → Prop}
    (F : Fr h₀ L s.heap m) (N : News h₀ L s.heap news) (X : (Tp.heap_39 w.params).In h₀) (T : TopH mean mg mb h₀) (U : UpdF st o news ng) (SX : XsAt h₀ a n) (S : StO a n o)
    (hd : A.depth + 6 < recursionLimit) (hu : A.units + 60 < cLine)
    (ret : ∀ (v : Int) t o' h' tk, StO a n o' → 1 ≤ v → v ≤ 80 → Fr h₀ L h' m → News h₀ L h' (ng o') → Q (.int v t) { s with heap := h', toks := tk }) :
    wpAny (model pg w) A (call (.ref 59) [.ref st]) Q E s := by
  have _ : (fun (_ : OpenLaw) (_ : Frag) => True) PySem.Challenge.rw_et5024_01 (Tp.heap_39 w.params) := by (k_fill; trivial)
  (refine' enter_st (K := Tp.heap_39 w.params) F N X T U SX S ?k6 ?k7 ?k8 ?k9 ?kB ?_ ?c2 ?c3 ?c4 ?c5; (case k6 => k_is); (case k7 => k_is); (case k8 => omega); (case k9 => exact BindsTo.of_eq rfl); (case c5 => decide); (case kB => exact locs rfl); (case c2 => exact rfl); (case c3 => exact rfl); (case c4 => exact rfl))
  clear F N X T U SX
  intro g L' h₁ F' N' KX' T' SX' hkp
  (try dsimp only)
  k_fold
  k_steps
  all_goals (try dsimp only; try k_unfold; try dsimp only)
  refine EndSt.intro (by assumption) (by assumption) (by assumption) [] (by k_mem) (fun _ h => nomatch h) ?_
  intro S2 _ _ F2 N2
  have hb := size_ok (by assumption) (by assumption)
  exact ret _ _ _ _ _ S2 hb.1 hb.2 F2 N2
end Mine
-- part MTold
namespace Mine
def msgW (len most : Int) : Str := Str.ofString "W505 doc line too long (" ++ Str.ofString (toString len) ++ Str.ofString " > " ++ Str.ofString (toString most) ++ Str.ofString " characters)"
/-- one report, as data -/
def toldD (row len most : Int) : Dat := .tuple [.tuple [.int row, .int most], .str (msgW len most)]
theorem told_in {led : List (Addr × Obj)} {r p : Addr} {row len most : Int} {t1 t2 t3 : Tok} (h1 : (r, ({ cls := .type "tuple", data := .seq #[.ref p, .str (msgW len most) t1] } : Obj)) ∈ led)
    (h2 : (p, ({ cls := .type "tuple", data := .seq #[.int row t2, .int most t3] } : Obj)) ∈ led) : DatIn led (.ref r) (toldD row len most) :=
  .tuple (vs := [.ref p, .str (msgW len most) t1]) h1 (.cons (.tuple (vs := [.int row t2, .int most t3]) h2 (.cons (.int _ _) (.cons (.int _ _) .nil))) (.cons (.str _ _) .nil))

theorem told_K {w : World} {A : Around} {mean : ExcName → Option Value} {mg mb : Str → Option Value} {h₀ : Heap} {s : Shared} {L : Addr} {m : Str → Option Value} {news : List (Addr × Obj)} {Q E : Value → Shared → Prop} {row len most : Int} {t1 t2 t3 : Tok}
    (F : Fr h₀ L s.heap m) (N : News h₀ L s.heap news) (X : (Tp.heap_39 w.params).In h₀) (T : TopH mean mg mb h₀)
    (hd : A.depth + 4 < recursionLimit) (hu : A.units + 60 < cLine) (hr0 : 0 ≤ row) (hr1 : row < 1000000) (hl0 : 0 ≤ len) (hl1 : len < 1000000) (hm0 : 0 ≤ most) (hm1 : most < 1000000)
    (ret : ∀ (r : Addr) tl h' tk, DatIn tl (.ref r) (toldD row len most) → (∀ p ∈ tl, ∀ q ∈ news, q.1 ≠ p.1) → Fr h₀ L h' m → News h₀ L h' (tl ++ news) → Q (.ref r) { s with heap := h', toks := tk }) :
    wpAny (model pg w) A (call (.ref 66) [.int row t1, .int len t2, .int most t3]) Q E s := by
  have _ : (fun (_ : OpenLaw) (_ : Frag) => True) PySem.Challenge.rw_et5024_01 (Tp.heap_39 w.params) := by (k_fill; trivial)
  (refine' enter_pure (K := Tp.heap_39 w.params) F N X T ?k6 ?k7 ?k8 ?k9 ?kB ?_ ?c2 ?c3 ?c4 ?c5; (case k6 => k_is); (case k7 => k_is); (case k8 => omega); (case k9 => exact BindsTo.of_eq rfl); (case c5 => decide); (case kB => exact locs rfl); (case c2 => exact rfl); (case c3 => exact rfl); (case c4 => exact rfl))
  clear F N X T
  intro g L' h₁ F' N' KX' T' hkp
  (try dsimp only)
  k_fold
  k_steps
  all_goals ((try dsimp only); (try k_unfold); (try dsimp only))
  refine EndPure.intro (by assumption) (by assumption) _ (fun p hp => hp) ?_
  intro S2 _ F2 N2
  exact ret _ _ _ _ (told_in (List.Mem.head _) (.tail _ (.head _))) S2 F2 N2
end Mine
-- part MDue
namespace Mine
local macro_rules | `(tactic| walk_at "zzz") => `(tactic| fail)
local macro_rules | `(tactic| walk_at "call ref") => `(tactic| (k_here; (with_reducible show wpAny _ _ (call (Value.ref 66) _) _ _ _); k_dflt ((refine' told_K ?k1 ?k2 ?k3 ?k4 ?k9 ?kA ?e1 ?e2 ?e3 ?e4 ?e5 ?e6 ?_; (case k1 => k_asm); (case k2 => k_asm); (case k3 => k_asm); (case k4 => k_asm); (case k9 => (simp only [depth_deeper]; omega)); (case kA => (simp only [units_deeper]; omega)); (case e1 => omega); (case e2 => omega); (case e3 => omega); (case e4 => omega); (case e5 => omega); (case e6 => omega); k_whole); intro r' tl' h' tk' R' O' F' N')))

/-- what is due of a remark's row -/
def dueD (row : Int) (x : Str) (words last most : Int) : List Dat := if (x.length : Int) > most ∧ ¬ (words = 2 ∧ (x.length : Int) - last < 72) then [toldD row x.length most] else []
theorem due_K {w : World} {A : Around} {mean : ExcName → Option Value} {mg mb : Str → Option Value} {h₀ : Heap} {s : Shared} {L : Addr} {m : Str → Option Value} {news : List (Addr × Obj)} {Q E : Value → Shared → Prop} {row words last most : Int} {x : Str} {t1 t2 t3 t4 t5 : Tok}
    (F : Fr h₀ L s.heap m) (N : News h₀ L s.heap news) (X : (Tp.heap_39 w.params).In h₀) (T : TopH mean mg mb h₀)
    (hd : A.depth + 6 < recursionLimit) (hu : A.units + 80 < cLine) (hr0 : 0 ≤ row) (hr1 : row < 1000000) (hl1 : x.length < 1000) (hw0 : 0 ≤ last) (hw1 : last < 1000) (hm0 : 0 ≤ most) (hm1 : most < 1000)
    (ret : ∀ (r : Addr) tl h' tk, DatIn tl (.ref r) (.list (dueD row x words last most)) → (∀ p ∈ tl, ∀ q ∈ news, q.1 ≠ p.1) → Fr h₀ L h' m → News h₀ L h' (tl ++ news) → Q (.ref r) { s with heap := h', toks := tk }) :
    wpAny (model pg w) A (call (.ref 80) [.int row t1, .str x t2, .int words t3, .int last t4, .int most t5]) Q E s := by
  have _ : (fun (_ : OpenLaw) (_ : Frag) => True) PySem.Challenge.rw_et5024_01 (Tp.heap_39 w.params) := by (k_fill; trivial)
  (refine' enter_pure (K := Tp.heap_39 w.params) F N X T ?k6 ?k7 ?k8 ?k9 ?kB ?_ ?c2 ?c3 ?c4 ?c5; (case k6 => k_is); (case k7 => k_is); (case k8 => omega); (case k9 => exact BindsTo.of_eq rfl); (case c5 => decide); (case kB => exact locs rfl); (case c2 => exact rfl); (case c3 => exact rfl); (case c4 => exact rfl))
  clear F N X T
  intro g L' h₁ F' N' KX' T' hkp
  (try dsimp only)
  k_fold
  k_steps
  all_goals ((try dsimp only); (try k_unfold); (try dsimp only))
  all_goals refine EndPure.intro (by assumption) (by assumption) _ (fun p hp => hp) ?_
  all_goals intro S2 _ F2 N2
  all_goals refine ret _ _ _ _ ?_ S2 F2 N2
  all_goals first
    | (rw [show dueD row x words last most = [] from if_neg (by omega)]; exact .list (vs := []) (.head _) .nil)
    | (rw [show dueD row x words last most = [toldD row x.length most] from if_pos (by omega)]; exact .list (vs := [.ref _]) (.head _) (.cons (DatIn.mono (fun p hp => .tail _ (List.mem_append.mpr (.inl hp))) (by assumption)) .nil))
end Mine
-- part MRemark
namespace Mine
local macro_rules | `(tactic| walk_at "zzz") => `(tactic| fail)
local macro_rules | `(tactic| walk_at "call ref") => `(tactic| (k_here; (with_reducible show wpAny _ _ (call (Value.ref 52) _) _ _ _); k_dflt ((refine' draw_K ?k1 ?k2 ?k3 ?k4 ?k5 ?kX ?k6 ?e0 ?e1 ?k9 ?kA ?_; (case k1 => k_asm); (case k2 => k_asm); (case k3 => k_asm); (case k4 => k_asm); (case k5 => k_updF); (case kX => assumption); (case k6 => assumption); (case e0 => decide); (case e1 => decide); (case k9 => (simp only [depth_deeper]; omega)); (case kA => (simp only [units_deeper]; omega)); k_whole); intro v' t' o' h' tk' S' v0' v1' F' N'; (try dsimp only at N'))))
local macro_rules | `(tactic| walk_at "call ref") => `(tactic| (k_here; (with_reducible show wpAny _ _ (call (Value.ref 59) _) _ _ _); k_dflt ((refine' size_K ?k1 ?k2 ?k3 ?k4 ?k5 ?kX ?k6 ?k9 ?kA ?_; (case k1 => k_asm); (case k2 => k_asm); (case k3 => k_asm); (case k4 => k_asm); (case k5 => k_updF); (case kX => assumption); (case k6 => assumption); (case k9 => (simp only [depth_deeper]; omega)); (case kA => (simp only [units_deeper]; omega)); k_whole); intro v' t' o' h' tk' S' v0' v1' F' N'; (try dsimp only at N'))))

theorem remark_K {w : World} {A : Around} {mean : ExcName → Option Value} {mg mb : Str → Option Value} {h₀ : Heap} {s : Shared} {L st a : Addr} {n : Nat} {m : Str → Option Value} {news : List (Addr × Obj)} {ng : Obj → List (Addr × Obj)} {o : Obj} {Q E : Value → Shared → Prop}
    (F : Fr h₀ L s.heap m) (N : News h₀ L s.heap news) (X : (Tp.heap_39 w.params).In h₀) (T : TopH mean mg mb h₀) (U : UpdF st o news ng) (SX : XsAt h₀ a n) (S : StO a n o)
    (hd : A.depth + 8 < recursionLimit) (hu : A.units + 80 < cLine)
    (ret : ∀ (r : Addr) (x : Str) (k l : Int) t1 t2 t3 o' h' tk, RemOk x k l → 0 ≤ l → l ≤ 100 → StO a n o' → (∀ q ∈ ng o', q.1 ≠ r) → Fr h₀ L h' m →
      News h₀ L h' ((r, { cls := .type "tuple", data := .seq #[.str x t1, .int k t2, .int l t3] }) :: ng o') → Q (.ref r) { s with heap := h', toks := tk }) :
    wpAny (model pg w) A (call (.ref 73) [.ref st]) Q E s := by
  have _ : (fun (_ : OpenLaw) (_ : Frag) => True) PySem.Challenge.rw_et5024_01 (Tp.heap_39 w.params) := by (k_fill; trivial)
  (refine' enter_st (K := Tp.heap_39 w.params) F N X T U SX S ?k6 ?k7 ?k8 ?k9 ?kB ?_ ?c2 ?c3 ?c4 ?c5; (case k6 => k_is); (case k7 => k_is); (case k8 => omega); (case k9 => exact BindsTo.of_eq rfl); (case c5 => decide); (case kB => exact locs rfl); (case c2 => exact rfl); (case c3 => exact rfl); (case c4 => exact rfl))
  clear F N X T U SX
  intro g L' h₁ F' N' KX' T' SX' hkp
  (try dsimp only)
  k_fold
  k_steps
  all_goals ((try dsimp only); (try k_unfold); (try dsimp only))
  all_goals (refine' EndSt.one ?eF ?eN ?em ?eS ?er ?et ?ek; (case eF => assumption); (case eN => assumption); (case em => k_mem); (case eS => assumption); (case er => k_mem); (case et => k_ne); (case ek => (intro S2 O2 F2 N2; refine ret _ _ _ _ _ _ _ _ _ _ ?_ ?_ ?_ S2 O2 F2 N2 <;> first
    | exact rem_0' (by assumption) (by assumption)
    | exact rem_1' (by assumption) (by assumption) (by assumption) (by assumption)
    | exact rem_2' (by assumption) (by assumption)
    | exact rem_3' (by assumption) (by assumption) (by assumption) (by assumption)
    | exact Int.natCast_nonneg _
    | (refine Int.le_trans (len_le one_a ?_) (show (80 : Int) ≤ 100 from by decide); assumption)
    | (refine Int.le_trans (len_le one_b ?_) (show (80 : Int) ≤ 100 from by decide); assumption)
    | (refine Int.le_trans (Int.add_le_add_right (len_le one_a ?_) 1) (show (80 + 1 : Int) ≤ 100 from by decide); assumption)
    | omega)))
end Mine
-- part MRowStr
namespace Mine
def RowOk (x : Str) (k l : Int) (first : Prop) : Prop := Ln x k l ∧ x.length ≤ 300 ∧ 0 ≤ l ∧ l ≤ 300 ∧ (first → ∃ r, cs x = 34 :: r)
theorem cs_qqq : cs (Str.ofString "\"\"\"") = List.replicate 3 34 := by decide +kernel
/-- one word: quotes, blanks, c, quotes -/
def Rw1 (x : Str) (l : Int) (p j q : Nat) : Prop := ∃ n : Nat, 1 ≤ n ∧ n ≤ 80 ∧ j ≤ 80 ∧ p ≤ 3 ∧ q ≤ 3 ∧ cs x = List.replicate p 34 ++ (List.replicate j 32 ++ (List.replicate n 99 ++ List.replicate q 34)) ∧ l = (p + n + q : Nat)
/-- two words -/
def Rw2 (x : Str) (l : Int) (p q : Nat) : Prop := ∃ n m : Nat, 1 ≤ n ∧ n ≤ 80 ∧ 1 ≤ m ∧ m ≤ 80 ∧ p ≤ 3 ∧ q ≤ 3 ∧ cs x = List.replicate p 34 ++ (List.replicate n 99 ++ (32 :: (List.replicate m 100 ++ List.replicate q 34))) ∧ l = (m + q : Nat)
theorem Rw1.base {v : Int} (h0 : 1 ≤ v) (h1 : v ≤ 80) : Rw1 (Txt.mul (Str.ofString "c") v) ((Txt.mul (Str.ofString "c") v).length : Int) 0 0 0 :=
  ⟨v.toNat, by omega, by omega, by omega, by omega, by omega, by rw [one_c, cs_mul]; simp, by rw [one_c, cs_len, cs_mul]; simp⟩
theorem Rw1.blank {v k : Int} (h0 : 1 ≤ v) (h1 : v ≤ 80) (k1 : k ≤ 80) : Rw1 (Txt.mul (Str.ofString " ") k ++ Txt.mul (Str.ofString "c") v) ((Txt.mul (Str.ofString "c") v).length : Int) 0 k.toNat 0 :=
  ⟨v.toNat, by omega, by omega, by omega, by omega, by omega, by rw [cs_app, one_c, one_sp, cs_mul, cs_mul]; simp, by rw [one_c, cs_len, cs_mul]; simp⟩
theorem Rw2.base {v u : Int} (h0 : 1 ≤ v) (h1 : v ≤ 80) (u0 : 1 ≤ u) (u1 : u ≤ 80) : Rw2 (Txt.mul (Str.ofString "c") v ++ Str.ofString " " ++ Txt.mul (Str.ofString "d") u) u 0 0 :=
  ⟨v.toNat, u.toNat, by omega, by omega, by omega, by omega, by omega, by omega, by rw [cs_app, cs_app, one_c, one_d, cs_sp, cs_mul, cs_mul]; simp, by omega⟩
theorem Rw1.pre {x : Str} {l : Int} {q : Nat} (h : Rw1 x l 0 0 q) : Rw1 (Str.ofString "\"\"\"" ++ x) (l + 3) 3 0 q := by
  obtain ⟨n, a1, a2, a3, a4, a5, a6, a7⟩ := h
  exact ⟨n, a1, a2, a3, by omega, a5, by rw [cs_app, cs_qqq, a6]; simp, by omega⟩
theorem Rw2.pre {x : Str} {l : Int} {q : Nat} (h : Rw2 x l 0 q) : Rw2 (Str.ofString "\"\"\"" ++ x) l 3 q := by
  obtain ⟨n, m, a1, a2, a3, a4, a5, a6, a7, a8⟩ := h
  exact ⟨n, m, a1, a2, a3, a4, by omega, a6, by rw [cs_app, cs_qqq, a7]; simp, a8⟩
theorem Rw1.suf {x : Str} {l : Int} {p j : Nat} (h : Rw1 x l p j 0) : Rw1 (x ++ Str.ofString "\"\"\"") (l + 3) p j 3 := by
  obtain ⟨n, a1, a2, a3, a4, a5, a6, a7⟩ := h
  exact ⟨n, a1, a2, a3, a4, by omega, by rw [cs_app, cs_qqq, a6]; simp, by omega⟩
theorem Rw2.suf {x : Str} {l : Int} {p : Nat} (h : Rw2 x l p 0) : Rw2 (x ++ Str.ofString "\"\"\"") (l + 3) p 3 := by
  obtain ⟨n, m, a1, a2, a3, a4, a5, a6, a7, a8⟩ := h
  exact ⟨n, m, a1, a2, a3, a4, a5, by omega, by rw [cs_app, cs_qqq, a7]; simp, by omega⟩
theorem Rw1.fin {x : Str} {l : Int} {p j q : Nat} {f : Prop} (h : Rw1 x l p j q) (hp : p = 0 ∨ j = 0) (hf : f → p = 3) : RowOk x 1 l f := by
  obtain ⟨n, a1, a2, a3, a4, a5, a6, a7⟩ := h
  refine ⟨⟨⟨1, p + n + q, ?_, rfl, a7⟩, ?_⟩, ?_, by omega, by omega, fun w => ?_⟩
  · unfold Wl
    rw [a6, ab_app, ab_word sp34, ab_app]
    have : ab ((0 : Nat), (0 : Nat), 0 + p) (List.replicate j 32) = (0, 0, p) := by
      rcases hp with rfl | rfl
      · rw [ab_blank]; simp
      · simp [ab]
    show afin (ab (ab ((0 : Nat), (0 : Nat), 0 + p) (List.replicate j 32)) _) = _
    rw [this, ab_app, ab_word sp99, ab_word sp34]
    unfold afin
    rw [if_neg (by simp; omega)]
  · rw [a6]; exact .app (.rep nb34) (.app (.rep nb32) (.app (.rep nb99) (.rep nb34)))
  · rw [cs_len, a6]; simp; omega
  · obtain rfl := hf w
    exact ⟨_, by rw [a6]; rfl⟩
theorem Rw2.fin {x : Str} {l : Int} {p q : Nat} {f : Prop} (h : Rw2 x l p q) (hf : f → p = 3) : RowOk x 2 l f := by
  obtain ⟨n, m, a1, a2, a3, a4, a5, a6, a7, a8⟩ := h
  refine ⟨⟨⟨2, m + q, ?_, rfl, a8⟩, ?_⟩, ?_, by omega, by omega, fun w => ?_⟩
  · unfold Wl
    rw [a7, ab_app, ab_word sp34, ab_app, ab_word sp99, ab_cons_b _ _ (by simp; omega), ab_app, ab_word sp100, ab_word sp34]
    unfold afin
    rw [if_neg (by simp; omega)]
    simp
  · rw [a7]; exact .app (.rep nb34) (.app (.rep nb99) (.cons nb32 (.app (.rep nb100) (.rep nb34))))
  · rw [cs_len, a7]; simp; omega
  · obtain rfl := hf w
    exact ⟨_, by rw [a7]; rfl⟩
end Mine
-- part MRows
namespace Mine
theorem fr_as {g : Heap} {L : Addr} {h : Heap} {m m' : Str → Option Value} (F : Fr g L h m) (e : ∀ y, m y = m' y) : Fr g L h m' := (funext e : m = m') ▸ F
/-- a row, as data -/
def rowD (x : Str) (k l : Int) : Dat := .list [.str x, .int k, .int l]
def RowsOk (ds : List Dat) : Prop := ∀ i d, ds[i]? = some d → ∃ x k l, d = rowD x k l ∧ RowOk x k l (i = 0)
theorem RowsOk.snoc {ds : List Dat} {x : Str} {k l : Int} (h : RowsOk ds) (hx : RowOk x k l (ds.length = 0)) : RowsOk (ds ++ [rowD x k l]) := by
  intro i d hi
  rcases Nat.lt_trichotomy i ds.length with h1 | h1 | h1
  · rw [List.getElem?_append_left h1] at hi
    exact h i d hi
  · subst h1
    rw [List.getElem?_append_right (Nat.le_refl _), Nat.sub_self] at hi
    obtain rfl := Option.some.inj hi
    exact ⟨x, k, l, rfl, hx⟩
  · rw [List.getElem?_eq_none (by simp; omega)] at hi
    cases hi
def RJ (st rw a : Addr) (n : Nat) (mm : Int) (i : Nat) (m : Str → Option Value) (nx : List (Addr × Obj)) : Prop :=
  ∃ o c vs ds tl tm, nx = (rw, W.listOf vs.toArray c) :: (st, o) :: tl ∧ StO a n o ∧ DatAll tl vs ds ∧ ds.length = i ∧ RowsOk ds ∧ m (Str.ofString "many") = some (.int mm tm) ∧ m (Str.ofString "rows") = some (.ref rw) ∧ m (Str.ofString "state") = some (.ref st) ∧
    (∀ p ∈ tl, p.1 ≠ st) ∧ ∀ p ∈ tl, p.1 ≠ rw
theorem rows_end {g : Heap} {L : Addr} {h' : Heap} {m' : Str → Option Value} {l rw st a : Addr} {n i tk c : Nat} {x : Str} {k lst mm : Int} {t1 t2 t3 tm : Tok} {o' : Obj} {vs : List Value} {ds : List Dat} {tl own : List (Addr × Obj)} {s₁ : Shared}
    (F : Fr g L h' m') (N : News g L h' ((l, W.listOf #[.str x t1, .int k t2, .int lst t3] 0) :: (rw, W.listOf (vs.toArray.push (Value.ref l)) c) :: (st, o') :: (tl ++ own)))
    (S : StO a n o') (lt : rw < l ∧ st < l ∧ AllLt l (tl ++ own)) (hm1 : m' (Str.ofString "many") = some (.int mm tm)) (hm2 : m' (Str.ofString "rows") = some (.ref rw)) (hm3 : m' (Str.ofString "state") = some (.ref st))
    (hx : RowOk x k lst (i = 0)) (D : DatAll tl vs ds) (hl : ds.length = i) (hR : RowsOk ds) (ht1 : ∀ p ∈ tl, p.1 ≠ st) (ht2 : ∀ p ∈ tl, p.1 ≠ rw)
    (hoff : OwnOff own (rw :: st :: tl.map (·.1))) :
    InvEndG g L (RJ st rw a n mm (i + 1)) own s₁ { s₁ with heap := h', toks := tk } := by
  have hlt : ∀ p ∈ tl ++ own, p.1 < l := ktn_ltOf lt.2.2
  refine turn_end F N ((rw, W.listOf (vs ++ [Value.ref l]).toArray c) :: (st, o') :: (l, W.listOf #[.str x t1, .int k t2, .int lst t3] 0) :: tl) ?_ ?_ ?_ ?_
  · intro p hp
    rcases List.mem_cons.mp hp with rfl | hp
    · have e : (vs ++ [Value.ref l]).toArray = vs.toArray.push (.ref l) := by simp
      rw [e]; exact .tail _ (.head _)
    · rcases List.mem_cons.mp hp with rfl | hp
      · exact .tail _ (.tail _ (.head _))
      · rcases List.mem_cons.mp hp with rfl | hp
        · exact .head _
        · exact .tail _ (.tail _ (.tail _ (List.mem_append.mpr (.inl hp))))
  · intro p hp
    exact .tail _ (.tail _ (.tail _ (List.mem_append.mpr (.inr hp))))
  · intro p hp b hb
    simp only [List.map_cons, List.mem_cons] at hb
    rcases hb with rfl | rfl | rfl | hb
    · exact hoff p hp _ (by simp)
    · exact hoff p hp _ (by simp)
    · have h1 : p.1 < b := hlt p (List.mem_append.mpr (.inr hp))
      exact Nat.ne_of_lt h1
    · exact hoff p hp b (by simp only [List.map_cons, List.mem_cons]; exact .inr (.inr hb))
  · have hsub : ∀ p ∈ tl, p ∈ (l, W.listOf #[.str x t1, .int k t2, .int lst t3] 0) :: tl := fun p hp => .tail _ hp
    refine ⟨o', c, vs ++ [Value.ref l], ds ++ [rowD x k lst], _, tm, rfl, S, ?_, by simp [hl], hR.snoc (hl ▸ hx), hm1, hm2, hm3, ?_, ?_⟩
    · exact (D.mono hsub).append (.one (.list (vs := [.str x t1, .int k t2, .int lst t3]) (.head _) (.cons (.str _ _) (.cons (.int _ _) (.cons (.int _ _) .nil)))))
    · intro p hp
      rcases List.mem_cons.mp hp with rfl | hp
      · exact Nat.ne_of_gt lt.2.1
      · exact ht1 p hp
    · intro p hp
      rcases List.mem_cons.mp hp with rfl | hp
      · exact Nat.ne_of_gt lt.1
      · exact ht2 p hp
local macro_rules | `(tactic| walk_at "call ref") => `(tactic| (k_here; (with_reducible show wpAny _ _ (call (Value.ref 52) _) _ _ _); k_dflt ((refine' draw_K ?k1 ?k2 ?k3 ?k4 ?k5 ?kX ?k6 ?e0 ?e1 ?k9 ?kA ?_; (case k1 => k_asm); (case k2 => k_asm); (case k3 => k_asm); (case k4 => k_asm); (case k5 => k_updF); (case kX => assumption); (case k6 => assumption); (case e0 => decide); (case e1 => decide); (case k9 => (simp only [depth_deeper]; omega)); (case kA => (simp only [units_deeper]; omega)); k_whole); intro v' t' o' h' tk' S' v0' v1' F' N'; (try dsimp only at N'))))
local macro_rules | `(tactic| walk_at "call ref") => `(tactic| (k_here; (with_reducible show wpAny _ _ (call (Value.ref 59) _) _ _ _); k_dflt ((refine' size_K ?k1 ?k2 ?k3 ?k4 ?k5 ?kX ?k6 ?k9 ?kA ?_; (case k1 => k_asm); (case k2 => k_asm); (case k3 => k_asm); (case k4 => k_asm); (case k5 => k_updF); (case kX => assumption); (case k6 => assumption); (case k9 => (simp only [depth_deeper]; omega)); (case kA => (simp only [units_deeper]; omega)); k_whole); intro v' t' o' h' tk' S' v0' v1' F' N'; (try dsimp only at N'))))
local macro_rules | `(tactic| walk_at "call type:range") => `(tactic| (k_here; (rename Fr _ _ _ _ => fX); (rename News _ _ _ _ => nX); with_unfolding_all refine range1_rows fX nX ?_; intro hR tkR tR1 tR2 tR3 rngR fR nR kR))
local macro_rules | `(tactic| k_all) => `(tactic| assumption)
local macro_rules | `(tactic| walk_at "pyIter ref") => `(tactic| ((with_reducible show wpAny _ _ (pyIter (Value.ref _)) _ _ _); refine stop_here ?_))

theorem rows_K {w : World} {A : Around} {mean : ExcName → Option Value} {mg mb : Str → Option Value} {h₀ : Heap} {s : Shared} {L st a : Addr} {n : Nat} {m : Str → Option Value} {news : List (Addr × Obj)} {ng : Obj → List (Addr × Obj)} {o : Obj} {Q E : Value → Shared → Prop}
    (F : Fr h₀ L s.heap m) (N : News h₀ L s.heap news) (X : (Tp.heap_39 w.params).In h₀) (T : TopH mean mg mb h₀) (U : UpdF st o news ng) (SX : XsAt h₀ a n) (S : StO a n o)
    (hd : A.depth + 8 < recursionLimit) (hu : A.units + 80 < cLine) (hh : A.handled = none)
    (ret : ∀ (r : Addr) vs c ds tl o' h' tk, DatAll tl vs ds → 1 ≤ ds.length → ds.length ≤ 3 → RowsOk ds → StO a n o' → (∀ q ∈ ng o', q.1 ≠ r) → (∀ p ∈ tl, ∀ q ∈ ng o', q.1 ≠ p.1) → (∀ p ∈ tl, p.1 ≠ r) → Fr h₀ L h' m → News h₀ L h' ((r, W.listOf vs.toArray c) :: (tl ++ ng o')) → Q (.ref r) { s with heap := h', toks := tk }) :
    wpAny (model pg w) A (call (.ref 87) [.ref st]) Q E s := by
  have _ : (fun (_ : OpenLaw) (_ : Frag) => True) PySem.Challenge.rw_et5024_01 (Tp.heap_39 w.params) := by (k_fill; trivial)
  (refine' enter_st (K := Tp.heap_39 w.params) F N X T U SX S ?k6 ?k7 ?k8 ?k9 ?kB ?_ ?c2 ?c3 ?c4 ?c5; (case k6 => k_is); (case k7 => k_is); (case k8 => omega); (case k9 => exact BindsTo.of_eq rfl); (case c5 => decide); (case kB => exact locs rfl); (case c2 => exact rfl); (case c3 => exact rfl); (case c4 => exact rfl))
  clear F N X T U SX
  intro g L' h₁ F' N' KX' T' SX' hkp
  (try dsimp only)
  k_fold
  k_steps
  rename_i v1 t1 o1 h4 tk2 S1 v10 v11 h3 rw h2 l1 h1 F1 N1 h0' tk4 tr1 tr2 tr3 R F2 N2 hk2
  refine Stop.out ?_
  refine range_loop (n := (1 + v1).toNat) (RJ st rw a n (1 + v1)) hh R (small_one (by omega) (by omega) (by omega) (by omega)) (by rw [rangeSize_nat]; congr 1; omega) F2 N2 ⟨o1, 0, [], [], [], _, rfl, S1, .nil, rfl, (fun i d h => by simp at h), rfl, rfl, rfl, (fun p h => nomatch h), (fun p h => nomatch h)⟩ ?_ ?_
  · rintro i t m₁ nx h tk own hi hoff ⟨o, c, vs, ds, tl, tm, rfl, S, D, hl, hR, hm1, hm2, hm3, ht1, ht2⟩ F₁ N₁
    clear F1 N1 F2 N2 R ret
    have F' := fr_as (m' := fun y => if y = Str.ofString "at" then some (.int (0 + (i : Int)) t) else if y = Str.ofString "many" then some (.int (1 + v1) tm) else if y = Str.ofString "rows" then some (.ref rw) else if y = Str.ofString "state" then some (.ref st) else m₁ y) F₁
      (fun y => by (try dsimp only)
                   split; · rfl
                   split; · rename_i e; rw [e, hm1]
                   split; · rename_i e; rw [e, hm2]
                   split; · rename_i e; rw [e, hm3]
                   rfl)
    clear F₁
    have ha1 : ∀ p ∈ tl ++ own, p.1 ≠ st := fun p hp => (List.mem_append.mp hp).elim (ht1 p) fun h => hoff p h st (by simp)
    have ha2 : ∀ p ∈ tl ++ own, p.1 ≠ rw := fun p hp => (List.mem_append.mp hp).elim (ht2 p) fun h => hoff p h rw (by simp)
    have hvl : vs.length = i := D.length.trans hl
    rw [List.cons_append, List.cons_append] at N₁
    show wpAny _ _ _ _ _ _
    k_fold
    k_steps
    all_goals (refine' rows_end (by assumption) (by assumption) ?S (by assumption) ?m1 ?m2 ?m3 ?hx D hl hR ht1 ht2 hoff; (case S => assumption); (case m1 => exact rfl); (case m2 => exact rfl); (case m3 => exact rfl); (case hx => first
      | (with_reducible apply Rw1.fin; (· ((repeat (with_reducible first | apply Rw1.suf | apply Rw1.pre)); (with_reducible first | apply Rw1.base | apply Rw1.blank) <;> assumption)); (· first | exact .inl rfl | exact .inr rfl); (· omega))
      | (with_reducible apply Rw2.fin; (· ((repeat (with_reducible first | apply Rw2.suf | apply Rw2.pre)); (with_reducible apply Rw2.base) <;> assumption)); (· omega))
      | (exfalso; omega)))
  · rintro m₁ nx h tk ⟨o, c, vs, ds, tl, tm, rfl, S, D, hl, hR, hm1, hm2, hm3, ht1, ht2⟩ F₁ N₁
    clear F1 N1 F2 N2 R
    have F' := fr_as (m' := fun y => if y = Str.ofString "many" then some (.int (1 + v1) tm) else if y = Str.ofString "rows" then some (.ref rw) else if y = Str.ofString "state" then some (.ref st) else m₁ y) F₁
      (fun y => by (try dsimp only)
                   split; · rename_i e; rw [e, hm1]
                   split; · rename_i e; rw [e, hm2]
                   split; · rename_i e; rw [e, hm3]
                   rfl)
    clear F₁
    dsimp only
    k_steps
    (try dsimp only); (try k_unfold); (try dsimp only)
    refine EndSt.intro (o' := o) (by assumption) N₁ S ((rw, W.listOf vs.toArray c) :: tl) (.tail _ (.head _)) ?_ ?_
    · intro p hp
      rcases List.mem_cons.mp hp with rfl | hp
      · exact ⟨.head _, by k_ne⟩
      · exact ⟨.tail _ (.tail _ hp), ht1 p hp⟩
    · intro S2 O2 _ F2 N2
      exact ret rw vs c ds tl o _ _ D (by omega) (by omega) hR S2 (O2 _ (.head _)) (fun p hp => O2 p (.tail _ hp)) ht2 F2 N2
end Mine
-- part MBlank
namespace Mine
/-- blanks alone, eight at most -/
def Bl (x : Str) : Prop := ∃ k, k ≤ 8 ∧ cs x = List.replicate k 32
theorem bl0 : Bl (Str.ofString "") := ⟨0, by decide, by decide +kernel⟩
theorem bl3 : Bl (Str.ofString "   ") := ⟨3, by decide, by decide +kernel⟩
theorem bl4 : Bl (Str.ofString "    ") := ⟨4, by decide, by decide +kernel⟩
theorem bl8 : Bl (Str.ofString "        ") := ⟨8, by decide, by decide +kernel⟩
theorem Bl.len {x : Str} (h : Bl x) : x.length ≤ 8 := by
  obtain ⟨k, hk, e⟩ := h
  rw [cs_len, e, List.length_replicate]; exact hk
theorem blank_two {x y z : Str} {t u v : Tok} (hx : Bl x) (hy : Bl y) (hz : Bl z) : ∀ w ∈ [Value.str x t, .str y u, .str z v], ∃ x t, w = .str x t ∧ Bl x := by
  intro w hw
  simp only [List.mem_cons, List.not_mem_nil, or_false] at hw
  rcases hw with rfl | rfl | rfl
  · exact ⟨_, _, rfl, hx⟩
  · exact ⟨_, _, rfl, hy⟩
  · exact ⟨_, _, rfl, hz⟩
theorem bl_three {a b c : String} (h : (a, b, c) = ("", "    ", "        ") ∨ (a, b, c) = ("", "", "   ")) {t u v : Tok} : ∀ w ∈ [Value.str (Str.ofString a) t, .str (Str.ofString b) u, .str (Str.ofString c) v], ∃ x t, w = .str x t ∧ Bl x := by
  rcases h with h | h <;> cases h
  · exact blank_two bl0 bl4 bl8
  · exact blank_two bl0 bl0 bl3
section
variable {prog : Program} {w : World} {A : Around} {E : Value → Shared → Prop} {s : Shared} {h₀ : Heap} {L : Addr} {news : List (Addr × Obj)}
theorem blank_pick {value slice : PySem.Expr} {l : Addr} {a b c : String} {t u v : Tok} {n : Nat} {k : Int} {uk : Tok} {Q : Value → Shared → Prop} (N : News h₀ L s.heap news) (hm : (l, W.listOf #[.str (Str.ofString a) t, .str (Str.ofString b) u, .str (Str.ofString c) v] n) ∈ news)
    (h0 : 0 ≤ k) (h1 : k < 3) (h : ∀ x t, Bl x → Q (.str x t) s)
    (hs : subscripted slice false (.ref l) (.int k uk) = operate [.ref l, .int k uk] (getItem (.ref l) (.int k uk)))
    (hb : (a, b, c) = ("", "    ", "        ") ∨ (a, b, c) = ("", "", "   ") := by first | exact .inl rfl | exact .inr rfl) :
    wpAny (model prog w) A (subscriptTail value slice (.ref l) (.int k uk)) Q E s := by
  have hl : s.heap.IsList l ([Value.str (Str.ofString a) t, .str (Str.ofString b) u, .str (Str.ofString c) v] : List Value).toArray := ⟨_, (N _ hm).1, rfl, n, rfl⟩
  have hlt : k.toNat < ([Value.str (Str.ofString a) t, .str (Str.ofString b) u, .str (Str.ofString c) v] : List Value).length := by show _ < 3; omega
  refine tail_any hl.typeIs slot_list_getitem.lookup (wpAny_getItem_list hl h0 (by omega) (x := ([Value.str (Str.ofString a) t, .str (Str.ofString b) u, .str (Str.ofString c) v] : List Value)[k.toNat]) (by simp [hlt]) ?_) hs
  obtain ⟨x, t', e, hx⟩ := bl_three hb (t := t) (u := u) (v := v) _ (List.getElem_mem hlt)
  rw [e]; exact h x t' hx
end
end Mine
-- part MSpec
namespace Mine
/-- a token -/
structure Tk where
  ty : Int
  tx : Str
  r0 : Int
  c0 : Int
  r1 : Int
  c1 : Int
  line : Str
def Tk.dat (t : Tk) : Dat := .tuple [.int t.ty, .str t.tx, .tuple [.int t.r0, .int t.c0], .tuple [.int t.r1, .int t.c1], .str t.line]
/-- what the check reports of one row of a line -/
def repD (ty r0 most : Int) (n i : Nat) (x : Str) : List Dat :=
  if ty = 61 ∧ (Txt.words x).length = 2 ∧ (x.length : Int) - lastL (Txt.words x) < 72 then []
  else if (Txt.words x).length = 1 ∧ i + 1 < n ∧ (x.length : Int) - lastL (Txt.words x) < 72 then []
  else if (x.length : Int) > most then [toldD (r0 + (i : Int)) x.length most] else []
def repsD (ty r0 most : Int) (n : Nat) : Nat → List Str → List Dat
  | _, [] => []
  | i, x :: xs => repD ty r0 most n i x ++ repsD ty r0 most n (i + 1) xs
def Bang (x : Str) : Prop := Txt.startswith x (Str.ofString "#!") = true
def OkPrev (p : Option Int) : Prop := ∀ v, p = some v → v = 62 ∨ v = 4 ∨ v = 5 ∨ v = 6
/-- what the check yields -/
inductive Gen (most : Int) (skip : Prop) : Option Int → List Tk → List Dat → Prop
  | nil {p} : Gen most skip p [] []
  | str {p t ts ds} : t.ty = 3 → skip → Gen most skip p ts ds → Gen most skip p (t :: ts) ds
  | pass {p t ts ds} : t.ty ≠ 3 → t.ty ≠ 61 → Gen most skip (some t.ty) ts ds → Gen most skip p (t :: ts) ds
  | code {p t ts ds} : t.ty = 3 ∨ t.ty = 61 → ¬ OkPrev p → (t.ty = 3 → ¬ skip) → Gen most skip (some t.ty) ts ds → Gen most skip p (t :: ts) ds
  | bang {p t ts} : t.ty = 61 → OkPrev p → t.r0 = 1 → Bang t.line → Txt.lines t.line ≠ [] → Gen most skip p (t :: ts) []
  | told {p t ts ds} : t.ty = 3 ∨ t.ty = 61 → OkPrev p → (t.ty = 3 → ¬ skip) → ¬ (t.r0 = 1 ∧ Bang t.line) → Gen most skip (some t.ty) ts ds →
      Gen most skip p (t :: ts) (repsD t.ty t.r0 most (Txt.lines t.line).length 0 (Txt.lines t.line) ++ ds)
def Skip (ts : List Tk) : Prop := ∃ t ∈ ts, t.ty ≠ 62 ∧ t.ty ≠ 4 ∧ t.ty ≠ 5 ∧ t.ty ≠ 6 ∧ t.ty ≠ 61 ∧ t.ty ≠ 60 ∧ t.ty ≠ 3
structure TkOk (row : Int) (t : Tk) : Prop where
  t0 : 0 ≤ t.ty
  t1 : t.ty < 100
  r0 : row ≤ t.r0
  r1 : t.r0 ≤ row + 10
  len : t.line.length ≤ 2000
structure StmtOk (row most : Int) (ts : List Tk) (ds : List Dat) : Prop where
  toks : ∀ t ∈ ts, TkOk row t
  len : ts.length ≤ 9
  last : ∃ us t, ts = us ++ [t]
  run : Gen most (Skip ts) none ts ds

-- texts
theorem starts_cs (x : Str) : Bang x ↔ ∃ r, cs x = 35 :: 33 :: r := by
  have hb : cs (Str.ofString "#!") = [35, 33] := by decide +kernel
  have hl : (Str.ofString "#!").length = 2 := by decide +kernel
  unfold Bang Txt.startswith Builtin.Str.subAt
  rw [hl]
  constructor
  · intro h
    simp only [Nat.zero_add, Bool.and_eq_true, decide_eq_true_eq, beq_iff_eq] at h
    have h2 := congrArg Array.toList h.2
    have h3 : (cs x).take 2 = [35, 33] := by
      rw [← hb]; unfold cs
      rw [← h2]; simp
    match e : cs x with
    | [] => rw [e] at h3; cases h3
    | [_] => rw [e] at h3; cases h3
    | a :: b :: r => rw [e] at h3; cases h3; exact ⟨r, rfl⟩
  · rintro ⟨r, e⟩
    simp only [Nat.zero_add, Bool.and_eq_true, decide_eq_true_eq, beq_iff_eq]
    refine ⟨by rw [cs_len, e]; simp, Array.toList_inj.mp ?_⟩
    show _ = cs (Str.ofString "#!")
    rw [hb]
    have : (x.cps.extract 0 2).toList = (cs x).take 2 := by unfold cs; simp
    rw [this, e]; rfl
theorem bang_not {x : Str} {c : Nat} {r : List Nat} (e : cs x = c :: r) (h : c ≠ 35) : ¬ Bang x := fun hb => by
  obtain ⟨r', e'⟩ := (starts_cs x).mp hb
  rw [e] at e'; cases e'; exact h rfl
theorem bang_not2 {x : Str} {c : Nat} {r : List Nat} (e : cs x = 35 :: c :: r) (h : c ≠ 33) : ¬ Bang x := fun hb => by
  obtain ⟨r', e'⟩ := (starts_cs x).mp hb
  rw [e] at e'; cases e'; exact h rfl
theorem cs_nl : cs (Str.ofString "\n") = [10] := by decide +kernel
theorem lines_one {x y : Str} (h : cs y = cs x ++ [10]) (hb : Nb (cs x)) : Txt.lines y = [x] := by
  have := lines_glue (xs := [cs x]) (y := y) (by rw [h]; simp [glue]) (by simp) (fun z hz => by rw [List.mem_singleton.mp hz]; exact hb)
  match e : Txt.lines y with
  | [] => rw [e] at this; exact absurd (congrArg List.length this) (by simp)
  | [z] => rw [e] at this; simp only [List.map_cons, List.map_nil, List.cons.injEq, and_true] at this; rw [cs_inj this]
  | _ :: _ :: _ => rw [e] at this; exact absurd (congrArg List.length this) (by simp)
theorem Ln.words {x : Str} {k l : Int} (h : Ln x k l) : ((Txt.words x).length : Int) = k ∧ (lastL (Txt.words x) : Int) = l := by
  obtain ⟨k', l', w, rfl, rfl⟩ := h.wl
  have := w.words
  exact ⟨by rw [this.1], by rw [this.2]⟩
/-- a remark's row between blanks -/
theorem Ln.pad {x y : Str} {k l : Int} {i j : Nat} (h : Ln x k l) (e : cs y = List.replicate i 32 ++ (cs x ++ List.replicate j 32)) : Ln y k l := by
  obtain ⟨k', l', w, e1, e2⟩ := h.wl
  exact ⟨⟨k', l', w.pad e, e1, e2⟩, by rw [e]; exact .app (.rep nb32) (.app h.nb (.rep nb32))⟩
theorem rep_due {x : Str} {k l : Int} (h : Ln x k l) (r0 most : Int) : repD 61 r0 most 1 0 x = dueD r0 x k l most := by
  obtain ⟨h1, h2⟩ := h.words
  unfold repD dueD
  rw [h2]
  by_cases c : k = 2 ∧ (x.length : Int) - l < 72
  · rw [if_pos ⟨rfl, by omega, c.2⟩, if_neg (fun q => q.2 c)]
  · rw [if_neg (fun q => c ⟨by omega, q.2.2⟩), if_neg (by omega)]
    by_cases d : (x.length : Int) > most
    · rw [if_pos d, if_pos ⟨d, c⟩]
      simp
    · rw [if_neg d, if_neg (fun q => d q.1)]
theorem reps_one {x y : Str} {k l : Int} (h : Ln x k l) (e : cs y = cs x ++ [10]) (r0 most : Int) : repsD 61 r0 most (Txt.lines y).length 0 (Txt.lines y) = dueD r0 x k l most := by
  rw [lines_one e h.nb]
  show repD 61 r0 most 1 0 x ++ [] = _
  rw [List.append_nil, rep_due h]

theorem Bl.ex {x : Str} (h : Bl x) : ∃ k, k ≤ 8 ∧ cs x = List.replicate k 32 := h
/-- a row of a text -/
structure Rw where
  x : Str
  k : Int
  l : Int
def Rw.dat (r : Rw) : Dat := rowD r.x r.k r.l
theorem RowsOk.typed : ∀ {ds : List Dat}, RowsOk ds → ∃ rs : List Rw, ds = rs.map Rw.dat ∧ ∀ (i : Nat) (r : Rw), rs[i]? = some r → RowOk r.x r.k r.l (i = 0) := by
  intro ds h
  have : ∀ (ds : List Dat) (b : Nat), (∀ (i : Nat) d, ds[i]? = some d → ∃ x k l, d = rowD x k l ∧ RowOk x k l (b + i = 0)) → ∃ rs : List Rw, ds = rs.map Rw.dat ∧ ∀ (i : Nat) (r : Rw), rs[i]? = some r → RowOk r.x r.k r.l (b + i = 0) := by
    intro ds
    induction ds with
    | nil => intro b _; exact ⟨[], rfl, fun i r e => by simp at e⟩
    | cons d ds ih =>
      intro b h
      obtain ⟨x, k, l, e, hx⟩ := h 0 d rfl
      obtain ⟨rs, e2, hr⟩ := ih (b + 1) fun i d' e' => by
        have := h (i + 1) d' (by simpa using e')
        rw [show b + (i + 1) = b + 1 + i by omega] at this
        exact this
      refine ⟨⟨x, k, l⟩ :: rs, by rw [e, e2]; rfl, fun i r e' => ?_⟩
      cases i with
      | zero =>
        obtain rfl := Option.some.inj e'
        exact hx
      | succ i =>
        have := hr i r (by simpa using e')
        rw [show b + 1 + i = b + (i + 1) by omega] at this
        exact this
  obtain ⟨rs, e, hr⟩ := this ds 0 (fun i d e => by simpa using h i d e)
  exact ⟨rs, e, fun i r e' => by simpa using hr i r e'⟩
def repR (row most : Int) (n i : Nat) (r : Rw) : List Dat := if ¬ (r.k = 1 ∧ i + 1 < n ∧ (r.x.length : Int) - r.l < 72) ∧ (r.x.length : Int) > most then [toldD (row + (i : Int)) r.x.length most] else []
def repsR (row most : Int) (n : Nat) : Nat → List Rw → List Dat
  | _, [] => []
  | i, x :: xs => repR row most n i x ++ repsR row most n (i + 1) xs
theorem repsR_snoc (row most : Int) (n : Nat) : ∀ (i : Nat) (rs : List Rw) (r : Rw), repsR row most n i (rs ++ [r]) = repsR row most n i rs ++ repR row most n (i + rs.length) r
  | i, [], r => by simp [repsR]
  | i, x :: xs, r => by
    simp only [List.cons_append, repsR, List.length_cons, List.append_assoc]
    rw [repsR_snoc row most n (i + 1) xs r, show i + 1 + xs.length = i + (xs.length + 1) by omega]
theorem rep_row {r : Rw} {f : Prop} (h : RowOk r.x r.k r.l f) (row most : Int) (n i : Nat) : repD 3 row most n i r.x = repR row most n i r := by
  obtain ⟨h1, h2⟩ := h.1.words
  unfold repD repR
  rw [if_neg (by omega), h2]
  by_cases c : r.k = 1 ∧ i + 1 < n ∧ (r.x.length : Int) - r.l < 72
  · rw [if_pos ⟨by omega, c.2⟩, if_neg (fun q => q.1 c)]
  · rw [if_neg (fun q => c ⟨by omega, q.2⟩)]
    by_cases d : (r.x.length : Int) > most
    · rw [if_pos d, if_pos ⟨c, d⟩]
    · rw [if_neg d, if_neg (fun q => d q.2)]
theorem reps_rows (row most : Int) (n : Nat) : ∀ (i : Nat) (rs : List Rw), (∀ r ∈ rs, ∃ f, RowOk r.x r.k r.l f) → repsD 3 row most n i (rs.map Rw.x) = repsR row most n i rs
  | _, [], _ => rfl
  | i, r :: rs, h => by
    obtain ⟨f, hf⟩ := h r (.head _)
    show repD 3 row most n i r.x ++ _ = repR row most n i r ++ _
    rw [rep_row hf, reps_rows row most n (i + 1) rs fun q hq => h q (.tail _ hq)]
theorem cs_join : ∀ (xs : List Str), xs ≠ [] → cs (Str.join (Str.ofString "\n") xs ++ Str.ofString "\n") = glue (xs.map cs)
  | [], h => absurd rfl h
  | [x], _ => by
    show cs (x ++ Str.ofString "\n") = _
    rw [cs_app, cs_nl]; simp [glue]
  | x :: y :: r, _ => by
    have ih := cs_join (y :: r) (by simp)
    show cs (x ++ Str.ofString "\n" ++ Str.join (Str.ofString "\n") (y :: r) ++ Str.ofString "\n") = _
    rw [cs_app] at ih
    rw [cs_app, cs_app, cs_app, cs_nl, List.append_assoc, ← cs_nl, ih, cs_nl]
    simp [glue]
theorem lines_join {xs : List Str} (h : xs ≠ []) (hb : ∀ x ∈ xs, Nb (cs x)) : Txt.lines (Str.join (Str.ofString "\n") xs ++ Str.ofString "\n") = xs := by
  have := lines_glue (cs_join xs h) (by simpa using h) (fun y hy => by
    obtain ⟨x, hx, rfl⟩ := List.mem_map.mp hy
    exact hb x hx)
  have inj : ∀ (a b : List Str), a.map cs = b.map cs → a = b := by
    intro a
    induction a with
    | nil => intro b e; cases b with
      | nil => rfl
      | cons _ _ => cases e
    | cons x a ih => intro b e; cases b with
      | nil => cases e
      | cons y b =>
        simp only [List.map_cons, List.cons.injEq] at e
        rw [cs_inj e.1, ih b e.2]
  exact inj _ _ this

-- the slice less the last sign
theorem slice_last {x y : Str} (h : cs y = cs x ++ [10]) : Txt.slice y none (some (-1)) = x := by
  have hl : y.length = x.length + 1 := by rw [cs_len, h]; simp [cs_len]
  have h2 := slice_closes_to_neg (x := y) (j := -1) (k := x.length) (by decide) (by omega) (by omega)
  rw [beq_iff_eq.mp h2]
  apply cs_inj
  unfold cs at h ⊢
  simp only [h]
  simp [Str.length]

-- the forms of a statement
theorem skip_no {ts : List Tk} (h : ∀ t ∈ ts, t.ty = 62 ∨ t.ty = 4 ∨ t.ty = 5 ∨ t.ty = 61 ∨ t.ty = 3) : ¬ Skip ts := by
  rintro ⟨t, ht, q⟩
  have := h t ht
  omega
theorem okPrev_none : OkPrev none := fun v e => by cases e
theorem okPrev_of {v : Int} (h : v = 62 ∨ v = 4 ∨ v = 5 ∨ v = 6) : OkPrev (some v) := fun u e => by cases e; exact h
theorem notPrev_of {v : Int} (h : v ≠ 62 ∧ v ≠ 4 ∧ v ≠ 5 ∧ v ≠ 6) : ¬ OkPrev (some v) := fun q => by
  have := q v rfl; omega
theorem RemOk.cons {x : Str} {k l : Int} (h : RemOk x k l) : ∃ c r, cs x = 35 :: c :: r ∧ c ≠ 33 := h.head
/-- a remark's line opens with no bang -/
theorem rem_nobang {x y mx : Str} {k l : Int} {z : List Nat} (h : RemOk x k l) (hm : Bl mx) (e : cs y = cs mx ++ (cs x ++ z)) : ¬ Bang y := by
  obtain ⟨c, r, hx, hc⟩ := h.head
  obtain ⟨j, _, hj⟩ := hm
  rw [hj, hx] at e
  cases j with
  | zero => exact bang_not2 (r := r ++ z) (by simpa using e) hc
  | succ j => exact bang_not (c := 32) (r := List.replicate j 32 ++ (35 :: c :: r ++ z)) (by rw [e, List.replicate_succ]; simp) (by decide)
theorem pad_ln {x mx px : Str} {k l : Int} (h : RemOk x k l) (hm : Bl mx) (hp : Bl px) : Ln (mx ++ x ++ px) k l := by
  obtain ⟨i, _, hi⟩ := hm
  obtain ⟨j, _, hj⟩ := hp
  exact h.ln.pad (i := i) (j := j) (by rw [cs_app, cs_app, hi, hj]; simp)
theorem run_rem {row most k l : Int} {x mx px : Str} {c0 c1 : Int} {skip : Prop} {p : Option Int} (hp : OkPrev p) (h : RemOk x k l) (hm : Bl mx) (hb : Bl px) {t2 : Tk} (h2 : t2.ty = 62) :
    Gen most skip p [⟨61, x, row, c0, row, c1, mx ++ x ++ px ++ Str.ofString "\n"⟩, t2] (dueD row (mx ++ x ++ px) k l most) := by
  have e : cs (mx ++ x ++ px ++ Str.ofString "\n") = cs (mx ++ x ++ px) ++ [10] := by rw [cs_app, cs_nl]
  have g := Gen.told (most := most) (skip := skip) (p := p) (t := ⟨61, x, row, c0, row, c1, mx ++ x ++ px ++ Str.ofString "\n"⟩) (ts := [t2]) (ds := []) (.inr rfl) hp (fun q => absurd (show (61 : Int) = 3 from q) (by decide))
    (fun q => rem_nobang h hm (z := cs px ++ [10]) (by rw [e, cs_app, cs_app]; simp) q.2) (.pass (by rw [h2]; decide) (by rw [h2]; decide) .nil)
  have r := reps_one (pad_ln h hm hb) e row most
  dsimp only at g
  rw [r, List.append_nil] at g
  exact g
/-- a remark of its own, no blank ahead -/
theorem form_0 {row most k l : Int} {x mx px : Str} {c0 c1 a0 a1 : Int} {y : Str} (h : RemOk x k l) (hm : Bl mx) (hb : Bl px) (hx : x.length ≤ 300) :
    StmtOk row most [⟨61, x, row, c0, row, c1, mx ++ x ++ px ++ Str.ofString "\n"⟩, ⟨62, y, row, a0, row, a1, mx ++ x ++ px ++ Str.ofString "\n"⟩] (dueD row (mx ++ x ++ px) k l most) := by
  have hl : (mx ++ x ++ px ++ Str.ofString "\n").length ≤ 2000 := by
    have h1 := hm.len; have h2 := hb.len
    rw [cs_len, cs_app, cs_app, cs_app, cs_nl]; rw [cs_len] at h1 h2 hx; simp; omega
  refine ⟨?_, by simp, ⟨[_], _, rfl⟩, run_rem okPrev_none h hm hb rfl⟩
  intro t ht
  simp only [List.mem_cons, List.not_mem_nil, or_false] at ht
  rcases ht with rfl | rfl <;> exact ⟨by (dsimp only; decide), by (dsimp only; decide), by show row ≤ row; omega, by show row ≤ row + 10; omega, hl⟩
theorem form_1 {row most k l : Int} {x mx px : Str} {c0 c1 a0 a1 b0 b1 : Int} {y z : Str} (h : RemOk x k l) (hm : Bl mx) (hb : Bl px) (hx : x.length ≤ 300) :
    StmtOk row most [⟨5, z, row, b0, row, b1, mx ++ x ++ px ++ Str.ofString "\n"⟩, ⟨61, x, row, c0, row, c1, mx ++ x ++ px ++ Str.ofString "\n"⟩, ⟨62, y, row, a0, row, a1, mx ++ x ++ px ++ Str.ofString "\n"⟩] (dueD row (mx ++ x ++ px) k l most) := by
  have hl : (mx ++ x ++ px ++ Str.ofString "\n").length ≤ 2000 := by
    have h1 := hm.len; have h2 := hb.len
    rw [cs_len, cs_app, cs_app, cs_app, cs_nl]; rw [cs_len] at h1 h2 hx; simp; omega
  refine ⟨?_, by simp, ⟨[_, _], _, rfl⟩, .pass (by show (5 : Int) ≠ 3; decide) (by show (5 : Int) ≠ 61; decide) (run_rem (okPrev_of (.inr (.inr (.inl rfl)))) h hm hb rfl)⟩
  intro t ht
  simp only [List.mem_cons, List.not_mem_nil, or_false] at ht
  rcases ht with rfl | rfl | rfl <;> exact ⟨by (dsimp only; decide), by (dsimp only; decide), by show row ≤ row; omega, by show row ≤ row + 10; omega, hl⟩
theorem glue_len : ∀ (rs : List Rw), (∀ r ∈ rs, r.x.length ≤ 300) → (glue ((rs.map Rw.x).map cs)).length ≤ 301 * rs.length
  | [], _ => by simp [glue]
  | r :: rs, h => by
    have ih := glue_len rs fun q hq => h q (.tail _ hq)
    have h1 := h r (.head _)
    rw [cs_len] at h1
    have e : (glue (((r :: rs).map Rw.x).map cs)).length = (cs r.x).length + 1 + (glue ((rs.map Rw.x).map cs)).length := by simp [glue]; omega
    rw [e, List.length_cons]; omega
theorem join_len {rs : List Rw} (hne : rs ≠ []) (h : ∀ r ∈ rs, r.x.length ≤ 300) (h3 : rs.length ≤ 3) : (Str.join (Str.ofString "\n") (rs.map Rw.x)).length ≤ 903 := by
  have h1 := glue_len rs h
  rw [← cs_join (rs.map Rw.x) (by simpa using hne), ← cs_len] at h1
  have h2 : (Str.join (Str.ofString "\n") (rs.map Rw.x)).length ≤ (Str.join (Str.ofString "\n") (rs.map Rw.x) ++ Str.ofString "\n").length := by
    rw [cs_len, cs_len, cs_app]; simp
  omega
theorem join_sum : ∀ (rs : List Rw), (∀ r ∈ rs, r.x.length ≤ 300) → ((rs.map Rw.x).map (·.length)).sum ≤ 300 * rs.length
  | [], _ => by simp
  | r :: rs, h => by
    have ih := join_sum rs fun q hq => h q (.tail _ hq)
    have h1 := h r (.head _)
    simp only [List.map_cons, List.sum_cons, List.length_cons]; omega
/-- a text of its own -/
theorem form_2 {row most : Int} {rs : List Rw} {x y z : Str} {a0 a1 a2 b0 b1 b2 b3 : Int} (hne : rs ≠ []) (h3 : rs.length ≤ 3) (hr : ∀ (i : Nat) (r : Rw), rs[i]? = some r → RowOk r.x r.k r.l (i = 0)) (hz : z.length ≤ 2000)
    (ha1 : row ≤ a1) (ha2 : a1 ≤ row + 10) :
    StmtOk row most [⟨3, x, row, a0, a1, a2, Str.join (Str.ofString "\n") (rs.map Rw.x) ++ Str.ofString "\n"⟩, ⟨4, y, a1, b1, b2, b3, z⟩] (repsR row most rs.length 0 rs) := by
  have hr' : ∀ r ∈ rs, ∃ f, RowOk r.x r.k r.l f := fun r hm => by
    obtain ⟨i, hi⟩ := List.getElem?_of_mem hm
    exact ⟨_, hr i r hi⟩
  have hnb : ∀ x ∈ rs.map Rw.x, Nb (cs x) := fun x hx => by
    obtain ⟨r, hm, rfl⟩ := List.mem_map.mp hx
    obtain ⟨f, h⟩ := hr' r hm
    exact h.1.nb
  have hls := lines_join (xs := rs.map Rw.x) (by simpa using hne) hnb
  have hcs := cs_join (rs.map Rw.x) (by simpa using hne)
  have hlen : (Str.join (Str.ofString "\n") (rs.map Rw.x) ++ Str.ofString "\n").length ≤ 2000 := by
    rw [cs_len, hcs]
    have := glue_len rs (fun r hm => (hr' r hm).elim fun _ h => h.2.1)
    omega
  have hnb0 : ¬ Bang (Str.join (Str.ofString "\n") (rs.map Rw.x) ++ Str.ofString "\n") := by
    match rs, hne, hr, hcs with
    | r :: rs, _, hr, hcs =>
      obtain ⟨q, hq⟩ := (hr 0 r rfl).2.2.2.2 rfl
      exact bang_not (c := 34) (r := q ++ [10] ++ glue ((rs.map Rw.x).map cs)) (by rw [hcs]; simp [glue, hq]) (by decide)
  have hl2 : ([⟨3, x, row, a0, a1, a2, Str.join (Str.ofString "\n") (rs.map Rw.x) ++ Str.ofString "\n"⟩, ⟨4, y, a1, b1, b2, b3, z⟩] : List Tk).length ≤ 9 := Nat.le_add_left 2 7
  refine StmtOk.mk ?_ hl2 ⟨[⟨3, x, row, a0, a1, a2, Str.join (Str.ofString "\n") (rs.map Rw.x) ++ Str.ofString "\n"⟩], ⟨4, y, a1, b1, b2, b3, z⟩, rfl⟩ ?_
  · intro t ht
    simp only [List.mem_cons, List.not_mem_nil, or_false] at ht
    rcases ht with rfl | rfl
    · exact ⟨by (dsimp only; decide), by (dsimp only; decide), by show row ≤ row; omega, by show row ≤ row + 10; omega, hlen⟩
    · exact ⟨by (dsimp only; decide), by (dsimp only; decide), ha1, ha2, hz⟩
  · have g := Gen.told (most := most) (skip := Skip [⟨3, x, row, a0, a1, a2, Str.join (Str.ofString "\n") (rs.map Rw.x) ++ Str.ofString "\n"⟩, ⟨4, y, a1, b1, b2, b3, z⟩]) (p := none) (t := ⟨3, x, row, a0, a1, a2, Str.join (Str.ofString "\n") (rs.map Rw.x) ++ Str.ofString "\n"⟩) (ts := [⟨4, y, a1, b1, b2, b3, z⟩]) (ds := []) (.inl rfl) okPrev_none
      (fun _ => skip_no fun t ht => by
        simp only [List.mem_cons, List.not_mem_nil, or_false] at ht
        rcases ht with rfl | rfl
        · exact .inr (.inr (.inr (.inr rfl)))
        · exact .inr (.inl rfl)) (fun q => hnb0 q.2) (.pass (by show (4 : Int) ≠ 3; decide) (by show (4 : Int) ≠ 61; decide) .nil)
    dsimp only at g
    rw [hls, List.length_map, reps_rows row most rs.length 0 rs hr', List.append_nil] at g
    exact g
/-- a remark behind code -/
theorem form_3 {row most : Int} {x1 x2 x3 x4 x5 y : Str} {a1 a2 b1 b2 d1 d2 e1 e2 f1 f2 : Int} (hy : y.length ≤ 2000) :
    StmtOk row most [⟨1, x1, row, a1, row, a2, y⟩, ⟨54, x2, row, b1, row, b2, y⟩, ⟨2, x3, row, d1, row, d2, y⟩, ⟨61, x4, row, e1, row, e2, y⟩, ⟨4, x5, row, f1, row, f2, y⟩] [] := by
  refine ⟨?_, by simp, ⟨[_, _, _, _], _, rfl⟩, ?_⟩
  · intro t ht
    simp only [List.mem_cons, List.not_mem_nil, or_false] at ht
    rcases ht with rfl | rfl | rfl | rfl | rfl <;> exact ⟨by (dsimp only; decide), by (dsimp only; decide), by show row ≤ row; omega, by show row ≤ row + 10; omega, hy⟩
  · exact .pass (by (dsimp only; decide)) (by (dsimp only; decide)) (.pass (by (dsimp only; decide)) (by (dsimp only; decide)) (.pass (by (dsimp only; decide)) (by (dsimp only; decide)) (.code (.inr rfl) (notPrev_of (by (dsimp only; decide))) (fun q => absurd (show (61 : Int) = 3 from q) (by decide)) (.pass (by (dsimp only; decide)) (by (dsimp only; decide)) .nil))))
/-- a call over three rows -/
theorem form_4 {row most k l : Int} {x mx y1 y3 x1 x2 x3 x4 x6 x7 x8 x9 : Str} {a1 a2 b1 b2 d1 d2 e1 e2 f1 f2 g1 g2 h1 h2 i1 i2 j1 j2 : Int} (h : RemOk x k l) (hm : Bl mx) (h1' : y1.length ≤ 2000) (h3' : y3.length ≤ 2000) (hrow : 1 ≤ row) :
    StmtOk row most [⟨1, x1, row, a1, row, a2, y1⟩, ⟨54, x2, row, b1, row, b2, y1⟩, ⟨61, x3, row, d1, row, d2, y1⟩, ⟨62, x4, row, e1, row, e2, y1⟩,
      ⟨61, x, row + 1, f1, row + 1, f2, mx ++ x ++ Str.ofString "\n"⟩, ⟨62, x6, row + 1, g1, row + 1, g2, mx ++ x ++ Str.ofString "\n"⟩,
      ⟨1, x7, row + 2, h1, row + 2, h2, y3⟩, ⟨54, x8, row + 2, i1, row + 2, i2, y3⟩, ⟨4, x9, row + 2, j1, row + 2, j2, y3⟩] (dueD (row + 1) (Txt.slice (mx ++ x ++ Str.ofString "\n") none (some (-1))) k l most) := by
  have e : cs (mx ++ x ++ Str.ofString "\n") = cs (mx ++ x) ++ [10] := by rw [cs_app, cs_nl]
  have hy : (mx ++ x ++ Str.ofString "\n").length ≤ 2000 := by
    have h1 := hm.len; have h2 := h.len
    rw [cs_len, cs_app, cs_app, cs_nl]; rw [cs_len] at h1 h2; simp; omega
  have hln : Ln (mx ++ x) k l := by
    obtain ⟨i, _, hi⟩ := hm
    exact h.ln.pad (i := i) (j := 0) (by rw [cs_app, hi]; simp)
  rw [slice_last e]
  refine ⟨?_, by simp, ⟨[_, _, _, _, _, _, _, _], _, rfl⟩, ?_⟩
  · intro t ht
    simp only [List.mem_cons, List.not_mem_nil, or_false] at ht
    rcases ht with rfl | rfl | rfl | rfl | rfl | rfl | rfl | rfl | rfl
    all_goals refine ⟨by (dsimp only; decide), by (dsimp only; decide), ?_, ?_, by first | exact hy | exact h1' | exact h3'⟩
    all_goals (dsimp only; omega)
  · refine .pass (by (dsimp only; decide)) (by (dsimp only; decide)) (.pass (by (dsimp only; decide)) (by (dsimp only; decide)) (.code (.inr rfl) (notPrev_of (by (dsimp only; decide))) (fun q => absurd (show (61 : Int) = 3 from q) (by decide)) (.pass (by (dsimp only; decide)) (by (dsimp only; decide)) ?_)))
    have g := Gen.told (most := most) (skip := Skip [⟨1, x1, row, a1, row, a2, y1⟩, ⟨54, x2, row, b1, row, b2, y1⟩, ⟨61, x3, row, d1, row, d2, y1⟩, ⟨62, x4, row, e1, row, e2, y1⟩,
      ⟨61, x, row + 1, f1, row + 1, f2, mx ++ x ++ Str.ofString "\n"⟩, ⟨62, x6, row + 1, g1, row + 1, g2, mx ++ x ++ Str.ofString "\n"⟩,
      ⟨1, x7, row + 2, h1, row + 2, h2, y3⟩, ⟨54, x8, row + 2, i1, row + 2, i2, y3⟩, ⟨4, x9, row + 2, j1, row + 2, j2, y3⟩]) (p := some 62) (t := ⟨61, x, row + 1, f1, row + 1, f2, mx ++ x ++ Str.ofString "\n"⟩) (.inr rfl) (okPrev_of (.inl rfl)) (fun q => absurd (show (61 : Int) = 3 from q) (by decide))
      (fun q => absurd (show row + 1 = 1 from q.1) (by omega))
      (.pass (t := ⟨62, x6, row + 1, g1, row + 1, g2, mx ++ x ++ Str.ofString "\n"⟩) (by (dsimp only; decide)) (by (dsimp only; decide)) (.pass (t := ⟨1, x7, row + 2, h1, row + 2, h2, y3⟩) (by (dsimp only; decide)) (by (dsimp only; decide)) (.pass (t := ⟨54, x8, row + 2, i1, row + 2, i2, y3⟩) (by (dsimp only; decide)) (by (dsimp only; decide)) (.pass (t := ⟨4, x9, row + 2, j1, row + 2, j2, y3⟩) (by (dsimp only; decide)) (by (dsimp only; decide)) .nil))))
    dsimp only at g
    rw [reps_one hln e (row + 1) most, List.append_nil] at g
    exact g
/-- a text behind code -/
theorem form_5 {row most : Int} {x1 x2 x3 x4 y z u : Str} {a1 a2 b1 b2 d1 d2 e1 e2 f1 : Int} (hy : y.length ≤ 2000) (hz : z.length ≤ 2000) (hu : u.length ≤ 2000) :
    StmtOk row most [⟨1, x1, row, a1, row, a2, y⟩, ⟨54, x2, row, b1, row, b2, y⟩, ⟨3, x3, row, d1, row + 1, d2, z⟩, ⟨4, x4, row + 1, e1, row + 1, e2, u⟩] [] := by
  refine ⟨?_, by simp, ⟨[_, _, _], _, rfl⟩, ?_⟩
  · intro t ht
    simp only [List.mem_cons, List.not_mem_nil, or_false] at ht
    rcases ht with rfl | rfl | rfl | rfl
    all_goals refine ⟨by (dsimp only; decide), by (dsimp only; decide), ?_, ?_, by first | exact hy | exact hz | exact hu⟩
    all_goals (dsimp only; omega)
  · exact .pass (by (dsimp only; decide)) (by (dsimp only; decide)) (.pass (by (dsimp only; decide)) (by (dsimp only; decide)) (.str rfl ⟨_, .head _, by (dsimp only; decide), by (dsimp only; decide), by (dsimp only; decide), by (dsimp only; decide), by (dsimp only; decide), by (dsimp only; decide), by (dsimp only; decide)⟩ (.pass (by (dsimp only; decide)) (by (dsimp only; decide)) .nil)))
theorem cs_bang : cs (Str.ofString "#!") = [35, 33] := by decide +kernel
theorem bang_ln {v : Int} (h : 1 ≤ v) : Ln (Str.ofString "#!" ++ Txt.mul (Str.ofString "f") v) 1 ((Str.ofString "#!" ++ Txt.mul (Str.ofString "f") v).length : Int) := by
  have e : cs (Str.ofString "#!" ++ Txt.mul (Str.ofString "f") v) = 35 :: 33 :: List.replicate v.toNat 102 := by rw [cs_app, cs_bang, one_f, cs_mul]; rfl
  refine ⟨⟨1, v.toNat + 2, ?_, rfl, ?_⟩, ?_⟩
  · unfold Wl
    rw [e, ab_cons_w sp35, ab_cons_w sp33, ab_word sp102]
    unfold afin
    rw [if_neg (by simp)]
    show ((0 : Nat) + 1, (0 : Nat) + 1 + 1 + v.toNat) = (1, v.toNat + 2)
    rw [show (0 : Nat) + 1 + 1 + v.toNat = v.toNat + 2 by omega]
  · rw [cs_len, e]; simp only [List.length_cons, List.length_replicate]
  · rw [e]; exact .cons nb35 (.cons nb33 (.rep nb102))
theorem bang_nobang {x : Str} (y : Str) (hx : ∃ r, cs x = 35 :: 33 :: r) : Bang (x ++ y) := by
  obtain ⟨r, hr⟩ := hx
  exact (starts_cs _).mpr ⟨r ++ cs y, by rw [cs_app, hr]; rfl⟩
/-- a line that names an interpreter -/
theorem form_6 {row most v : Int} {y : Str} {a1 a2 b1 b2 : Int} (h0 : 1 ≤ v) (h1 : v ≤ 80) (hr : row ≠ 1) :
    StmtOk row most [⟨61, Str.ofString "#!" ++ Txt.mul (Str.ofString "f") v, row, a1, row, a2, Str.ofString "#!" ++ Txt.mul (Str.ofString "f") v ++ Str.ofString "\n"⟩, ⟨62, y, row, b1, row, b2, Str.ofString "#!" ++ Txt.mul (Str.ofString "f") v ++ Str.ofString "\n"⟩]
      (dueD row (Str.ofString "#!" ++ Txt.mul (Str.ofString "f") v) 1 ((Str.ofString "#!" ++ Txt.mul (Str.ofString "f") v).length : Int) most) := by
  have e : cs (Str.ofString "#!" ++ Txt.mul (Str.ofString "f") v ++ Str.ofString "\n") = cs (Str.ofString "#!" ++ Txt.mul (Str.ofString "f") v) ++ [10] := by rw [cs_app, cs_nl]
  have hy : (Str.ofString "#!" ++ Txt.mul (Str.ofString "f") v ++ Str.ofString "\n").length ≤ 2000 := by
    rw [cs_len, e, cs_app, cs_bang, one_f, cs_mul]; simp; omega
  refine ⟨?_, by simp, ⟨[_], _, rfl⟩, ?_⟩
  · intro t ht
    simp only [List.mem_cons, List.not_mem_nil, or_false] at ht
    rcases ht with rfl | rfl <;> exact ⟨by (dsimp only; decide), by (dsimp only; decide), by show row ≤ row; omega, by show row ≤ row + 10; omega, hy⟩
  · have g := Gen.told (most := most) (skip := Skip [⟨61, Str.ofString "#!" ++ Txt.mul (Str.ofString "f") v, row, a1, row, a2, Str.ofString "#!" ++ Txt.mul (Str.ofString "f") v ++ Str.ofString "\n"⟩, ⟨62, y, row, b1, row, b2, Str.ofString "#!" ++ Txt.mul (Str.ofString "f") v ++ Str.ofString "\n"⟩])
      (p := none) (t := ⟨61, Str.ofString "#!" ++ Txt.mul (Str.ofString "f") v, row, a1, row, a2, Str.ofString "#!" ++ Txt.mul (Str.ofString "f") v ++ Str.ofString "\n"⟩) (.inr rfl) okPrev_none (fun q => absurd (show (61 : Int) = 3 from q) (by decide)) (fun q => hr q.1)
      (.pass (t := ⟨62, y, row, b1, row, b2, Str.ofString "#!" ++ Txt.mul (Str.ofString "f") v ++ Str.ofString "\n"⟩) (by (dsimp only; decide)) (by (dsimp only; decide)) .nil)
    dsimp only at g
    rw [reps_one (bang_ln h0) e row most, List.append_nil] at g
    exact g
theorem form_6' {row most v : Int} {y : Str} {a1 a2 b1 b2 : Int} (h0 : 1 ≤ v) (h1 : v ≤ 80) (hr : row = 1) :
    StmtOk row most [⟨61, Str.ofString "#!" ++ Txt.mul (Str.ofString "f") v, row, a1, row, a2, Str.ofString "#!" ++ Txt.mul (Str.ofString "f") v ++ Str.ofString "\n"⟩, ⟨62, y, row, b1, row, b2, Str.ofString "#!" ++ Txt.mul (Str.ofString "f") v ++ Str.ofString "\n"⟩] [] := by
  have e : cs (Str.ofString "#!" ++ Txt.mul (Str.ofString "f") v ++ Str.ofString "\n") = cs (Str.ofString "#!" ++ Txt.mul (Str.ofString "f") v) ++ [10] := by rw [cs_app, cs_nl]
  have hy : (Str.ofString "#!" ++ Txt.mul (Str.ofString "f") v ++ Str.ofString "\n").length ≤ 2000 := by
    rw [cs_len, e, cs_app, cs_bang, one_f, cs_mul]; simp; omega
  refine ⟨?_, by simp, ⟨[_], _, rfl⟩, ?_⟩
  · intro t ht
    simp only [List.mem_cons, List.not_mem_nil, or_false] at ht
    rcases ht with rfl | rfl <;> exact ⟨by (dsimp only; decide), by (dsimp only; decide), by show row ≤ row; omega, by show row ≤ row + 10; omega, hy⟩
  · refine .bang rfl okPrev_none hr (bang_nobang _ ⟨List.replicate v.toNat 102, by rw [cs_app, cs_bang, one_f, cs_mul]; rfl⟩) ?_
    dsimp only
    rw [lines_one e (bang_ln h0).nb]; simp

/-- tokens, in a ledger -/
def TksIn (led : List (Addr × Obj)) (vs : List Value) (ts : List Tk) : Prop := DatAll led vs (ts.map Tk.dat)
theorem TksIn.nil {led : List (Addr × Obj)} : TksIn led [] [] := DatAll.nil
theorem TksIn.cons {led : List (Addr × Obj)} {v : Value} {t : Tk} {vs : List Value} {ts : List Tk} (h : DatIn led v t.dat) (r : TksIn led vs ts) : TksIn led (v :: vs) (t :: ts) := DatAll.cons h r
theorem tk_in {led : List (Addr × Obj)} {r pa pb : Addr} {ty a0 a1 b0 b1 : Int} {tx y : Str} {t1 t2 t3 t4 t5 t6 t7 : Tok} {n1 n2 n3 : Nat} (h1 : (r, ({ cls := .type "tuple", data := .seq #[.int ty t1, .str tx t2, .ref pa, .ref pb, .str y t3] n1 } : Obj)) ∈ led)
    (h2 : (pa, ({ cls := .type "tuple", data := .seq #[.int a0 t4, .int a1 t5] n2 } : Obj)) ∈ led) (h3 : (pb, ({ cls := .type "tuple", data := .seq #[.int b0 t6, .int b1 t7] n3 } : Obj)) ∈ led) : DatIn led (.ref r) (Tk.dat ⟨ty, tx, a0, a1, b0, b1, y⟩) :=
  .tuple (vs := [.int ty t1, .str tx t2, .ref pa, .ref pb, .str y t3]) h1 (.cons (.int _ _) (.cons (.str _ _) (.cons (.tuple (vs := [.int a0 t4, .int a1 t5]) h2 (.cons (.int _ _) (.cons (.int _ _) .nil))) (.cons (.tuple (vs := [.int b0 t6, .int b1 t7]) h3 (.cons (.int _ _) (.cons (.int _ _) .nil))) (.cons (.str _ _) .nil)))))
/-- a ledger less the state -/
def stX (st : Addr) (news : List (Addr × Obj)) : List (Addr × Obj) := news.filter fun p => decide (p.1 ≠ st)
theorem stX_mem {st : Addr} {news : List (Addr × Obj)} {p : Addr × Obj} (h : p ∈ news) (hn : p.1 ≠ st) : p ∈ stX st news := List.mem_filter.mpr ⟨h, decide_eq_true hn⟩
theorem stX_of {st : Addr} {news : List (Addr × Obj)} {p : Addr × Obj} (h : p ∈ stX st news) : p ∈ news ∧ p.1 ≠ st := ⟨(List.mem_filter.mp h).1, of_decide_eq_true (List.mem_filter.mp h).2⟩
end Mine
-- part MStmtE
namespace Mine
abbrev tupO (vs : Array Value) (n : Nat) : Obj := { cls := .type "tuple", data := .seq vs n }
def StmtRet (h₀ : Heap) (L : Addr) (m : Str → Option Value) (a : Addr) (n : Nat) (ng : Obj → List (Addr × Obj)) (row most : Int) (s : Shared) (Q : Value → Shared → Prop) : Prop :=
  ∀ (r tk du : Addr) (X : List (Addr × Obj)) (vs : List Value) (n0 c1 : Nat) (ts : List Tk) (ds : List Dat) (o' : Obj) (h' : Heap) (tks : Nat),
    (r, tupO #[.ref tk, .ref du] n0) ∈ X → (tk, W.listOf vs.toArray c1) ∈ X → TksIn X vs ts → DatIn X (.ref du) (.list ds) → StmtOk row most ts ds → StO a n o' → (∀ p ∈ X, ∀ q ∈ ng o', q.1 ≠ p.1) →
    Fr h₀ L h' m → News h₀ L h' ((r, tupO #[.ref tk, .ref du] n0) :: (tk, W.listOf vs.toArray c1) :: (X ++ ng o')) → Q (.ref r) { s with heap := h', toks := tks }
theorem stX_mem' {st r : Addr} {o : Obj} {news : List (Addr × Obj)} (h : (r, o) ∈ news) (hn : r ≠ st) : (r, o) ∈ stX st news := stX_mem h hn
theorem due_mono {st : Addr} {tl B : List (Addr × Obj)} {p : Addr × Obj} {v : Value} {d : Dat} {o' : Obj} (h : DatIn tl v d) (O : ∀ p ∈ tl, ∀ q ∈ B, q.1 ≠ p.1) (hs : (st, o') ∈ B) : DatIn (stX st (p :: (tl ++ B))) v d :=
  h.mono fun q hq => stX_mem (.tail _ (List.mem_append.mpr (.inl hq))) (Ne.symm (O q hq _ hs))
theorem stO_ne {g h : Heap} {L st a r : Addr} {n : Nat} {news : List (Addr × Obj)} {o o' : Obj} (N : News g L h news) (hst : (st, o') ∈ news) (S : StO a n o') (hr : (r, o) ∈ news) (hc : o.cls = .type "tuple") : r ≠ st := by
  rintro rfl
  obtain ⟨_, _, _, _, _, rfl, _⟩ := S
  have h1 := (N _ hst).1
  have h2 := (N _ hr).1
  rw [h1] at h2
  obtain rfl := Option.some.inj h2
  exact absurd (Value.type.inj hc) (by decide)
def sndInt (vs : Array Value) : Bool := match vs.toList with | _ :: Value.int _ _ :: _ => true | _ => false
theorem stL_ne {g h : Heap} {L st a r : Addr} {n c : Nat} {news : List (Addr × Obj)} {vs : Array Value} {o' : Obj} (N : News g L h news) (hst : (st, o') ∈ news) (S : StO a n o') (hr : (r, W.listOf vs c) ∈ news) (hc : sndInt vs = false) : r ≠ st := by
  rintro rfl
  obtain ⟨_, _, _, _, _, rfl, _⟩ := S
  have h1 := (N _ hst).1
  have h2 := (N _ hr).1
  rw [h1] at h2
  have h3 := congrArg Obj.data (Option.some.inj h2)
  obtain ⟨rfl, _⟩ := Data.seq.inj h3
  exact absurd hc (by show ¬ (true = false); decide)
theorem tk_inS {g h : Heap} {L st a : Addr} {n : Nat} {news : List (Addr × Obj)} {o' : Obj} {r pa pb : Addr} {ty a0 a1 b0 b1 : Int} {tx y : Str} {t1 t2 t3 t4 t5 t6 t7 : Tok} {n1 n2 n3 : Nat} (N : News g L h news) (hst : (st, o') ∈ news) (S : StO a n o')
    (h1 : (r, tupO #[.int ty t1, .str tx t2, .ref pa, .ref pb, .str y t3] n1) ∈ news) (h2 : (pa, tupO #[.int a0 t4, .int a1 t5] n2) ∈ news) (h3 : (pb, tupO #[.int b0 t6, .int b1 t7] n3) ∈ news) : DatIn (stX st news) (.ref r) (Tk.dat ⟨ty, tx, a0, a1, b0, b1, y⟩) :=
  tk_in (stX_mem' h1 (stO_ne N hst S h1 rfl)) (stX_mem' h2 (stO_ne N hst S h2 rfl)) (stX_mem' h3 (stO_ne N hst S h3 rfl))
theorem nil_inS {g h : Heap} {L st a : Addr} {n c : Nat} {news : List (Addr × Obj)} {o' : Obj} {r : Addr} (N : News g L h news) (hst : (st, o') ∈ news) (S : StO a n o') (h1 : (r, W.listOf #[] c) ∈ news) : DatIn (stX st news) (.ref r) (.list []) :=
  .list (vs := []) (stX_mem' h1 (stL_ne N hst S h1 rfl)) .nil
theorem len_app (x y : Str) : (x ++ y).length = x.length + y.length := by rw [cs_len, cs_app, cs_len, cs_len, List.length_append]
theorem stmt_end {h₀ g h' : Heap} {L L' : Addr} {m m' : Str → Option Value} {st a : Addr} {n : Nat} {ng : Obj → List (Addr × Obj)} {Q : Value → Shared → Prop} {s : Shared} {news' : List (Addr × Obj)} {o' : Obj} {r tk du : Addr} {vs : List Value} {n0 c1 tks : Nat} {ts : List Tk} {ds : List Dat} {row most : Int}
    (F : Fr g L' h' m') (N : News g L' h' news') (hst : (st, o') ∈ news') (S : StO a n o') (hr : (r, tupO #[.ref tk, .ref du] n0) ∈ news') (htk : (tk, W.listOf vs.toArray c1) ∈ news') (hsn : sndInt vs.toArray = false)
    (ht : TksIn (stX st news') vs ts) (hd : DatIn (stX st news') (.ref du) (.list ds)) (ok : StmtOk row most ts ds) (ret : StmtRet h₀ L m a n ng row most s Q) :
    EndSt h₀ g L m st a n ng Q (.ref r) { s with heap := h', toks := tks } := by
  have hr := stX_mem' hr (stO_ne N hst S hr rfl)
  have htk := stX_mem' htk (stL_ne N hst S htk hsn)
  refine EndSt.intro F N S (stX st news') hst (fun p hp => stX_of hp) fun S2 O2 _ F2 N2 => ?_
  refine ret r tk du (stX st news') vs n0 c1 ts ds o' h' tks hr htk ht hd ok S2 O2 F2 ?_
  intro p hp
  rcases List.mem_cons.mp hp with rfl | hp
  · exact N2 _ (List.mem_append.mpr (.inl hr))
  · rcases List.mem_cons.mp hp with rfl | hp
    · exact N2 _ (List.mem_append.mpr (.inl htk))
    · exact N2 _ hp
end Mine
-- part MComp
namespace Mine
theorem row_inv {tl : List (Addr × Obj)} {v : Value} {r : Rw} (h : DatIn tl v r.dat) : ∃ a n t1 t2 t3, v = .ref a ∧ (a, W.listOf #[.str r.x t1, .int r.k t2, .int r.l t3] n) ∈ tl := by
  cases h with
  | list hm hd =>
    cases hd with
    | cons h1 hd =>
      cases hd with
      | cons h2 hd =>
        cases hd with
        | cons h3 hd =>
          cases hd
          cases h1; cases h2; cases h3
          exact ⟨_, _, _, _, _, rfl, hm⟩
theorem paired_strs {tl : List (Addr × Obj)} : ∀ {vs : List Value} {rs : List Rw} {ys : List Value}, DatAll tl vs (rs.map Rw.dat) → Paired (fun v y => ∀ r : Rw, DatIn tl v r.dat → ∃ t, y = Value.str r.x t) vs ys → StrsAre ys (rs.map Rw.x)
  | _, [], _, D, P => by cases D; cases P; exact .nil
  | _, r :: rs, _, D, P => by
    cases D with
    | cons h D =>
      cases P with
      | cons g P =>
        obtain ⟨t, rfl⟩ := g r h
        exact .cons _ _ (paired_strs D P)
section
variable {prog : Program} {w : World} {A : Around} {E : Value → Shared → Prop} {s₁ : Shared} {h₀ : Heap} {L : Addr} {m : Str → Option Value} {news : List (Addr × Obj)}
theorem comp_part {env : Env} {scope : Scope} {p1 p2 p3 : Pos} {k : Nat} {Q : Value → Shared → Prop} {l : Addr} {vs : List Value} {c : Nat} {rs : List Rw} {tl : List (Addr × Obj)}
    (hh : A.handled = none) (hk : scope.kind = .function) (hx : ∀ C, (compEnv scope C env).kindOf (Str.ofString "part") = some .local)
    (F : Fr h₀ L s₁.heap m) (N : News h₀ L s₁.heap news) (hm : (l, W.listOf vs.toArray c) ∈ news) (ht : ∀ p ∈ tl, p ∈ news) (D : DatAll tl vs (rs.map Rw.dat)) (h3 : rs.length ≤ 3)
    (h : ∀ D (ys : List Value) n h' tk, Fr h₀ L h' m → News h₀ L h' ((D, W.listOf ys.toArray n) :: news) → StrsAre ys (rs.map Rw.x) → (∀ p ∈ news, p.1 ≠ D) → Q (.ref D) { s₁ with heap := h', toks := tk }) :
    wpAny (model prog w) A (pyIter (.ref l)) (CompPost prog w A env scope (Str.ofString "part") [] (.Subscript (.Name (Str.ofString "part") p1) (.Constant (.int 0) k p2) p3) Q) E s₁ := by
  have hl : s₁.heap.IsList l vs.toArray := ⟨_, (N _ hm).1, rfl, c, rfl⟩
  have hlt : l < s₁.heap.objs.size := Heap.lt_size (N _ hm).1
  have hlen : vs.length = rs.length := D.length.trans (List.length_map ..)
  refine wpAny_pyIter_list hl ?_
  have up : ∀ (h' : Heap), (∀ b o', b ∉ [s₁.heap.objs.size] → (s₁.heap.push { cls := .type "list_iterator", data := .fields #[.ref l, .int 0 0] }).get? b = some o' → h'.get? b = some o') → ∀ b o', s₁.heap.get? b = some o' → h'.get? b = some o' :=
    fun h' hk b o' e => hk b o' (not_iter_of_old e) (Heap.get?_push_of_some _ e)
  refine ⟨fun _ => true, fun v y => ∀ r : Rw, DatIn tl v r.dat → ∃ t, y = Value.str r.x t, s₁.heap.objs.size, [s₁.heap.objs.size, l], [s₁.heap.objs.size], vs.toArray.size, _, _, rfl, Walks.list hh _ l (Nat.ne_of_lt hlt) vs.toArray, (by rw [List.size_toArray, hlen]; exact Nat.le_trans h3 (by decide +kernel)),
    ⟨⟨_, Heap.get?_push_size _ rfl, rfl, rfl⟩, hl.at fun o e => Heap.get?_push_of_some _ e⟩, ?_, ⟨?_, ?_⟩, ?_⟩
  · intro b hb
    show b < (s₁.heap.push _).objs.size
    rw [Heap.size_push]
    rcases List.mem_cons.mp hb with rfl | hb
    · exact Nat.lt_succ_self _
    · rw [List.mem_singleton.mp hb]; exact Nat.lt_succ_of_lt hlt
  · intro C i v s₃ m₃ E' hP hn hm' _ htk
    exact wpAny_pure ⟨rfl, ⟨_, _, rfl, fun b o e => e⟩⟩
  · intro C i v s₃ m₃ E' hP _ hn hm' hk' htk
    have hP' : vs[i]? = some v := by simpa using hP
    have hi : i < (rs.map Rw.dat).length := by
      rw [← D.length]; exact (List.getElem?_eq_some_iff.mp hP').1
    obtain ⟨v', e1, hd⟩ := D.get hi
    rw [hP'] at e1
    obtain rfl := Option.some.inj e1
    have hr : (rs.map Rw.dat)[i] = (rs[i]'(by simpa using hi)).dat := by simp
    rw [hr] at hd
    obtain ⟨a, n, t1, t2, t3, rfl, ha⟩ := row_inv hd
    have hg := hk' a _ (not_iter_of_old (N _ (ht _ ha)).1) (Heap.get?_push_of_some _ (N _ (ht _ ha)).1)
    have hla : s₃.heap.IsList a #[.str (rs[i]'(by simpa using hi)).x t1, .int (rs[i]'(by simpa using hi)).k t2, .int (rs[i]'(by simpa using hi)).l t3] := ⟨_, hg, rfl, n, rfl⟩
    refine Subscript_Constant (wpAny_Name (wpAny_loadName_local hk (hx C) hn hm' (wpAny_Constant_int ?_)))
    refine ⟨"list", _, slot_list_getitem.lookup, hla.typeIs, wpAny_getItem_list hla (by decide) (by decide) (x := .str (rs[i]'(by simpa using hi)).x t1) rfl ⟨fun r' hr' => ?_, ⟨_, _, rfl, fun b o e => e⟩⟩⟩
    obtain ⟨a', n', u1, u2, u3, e', ha'⟩ := row_inv hr'
    obtain rfl := Value.ref.inj e'
    have g1 := (N _ (ht _ ha)).1
    have g2 := (N _ (ht _ ha')).1
    rw [g1] at g2
    have g3 := congrArg Obj.data (Option.some.inj g2)
    obtain ⟨g4, _⟩ := Data.seq.inj g3
    have g5 := congrArg (fun z : Array Value => z[0]?) g4
    have g6 := Option.some.inj g5
    exact ⟨t1, by rw [(Value.str.inj g6).1]⟩
  · intro D' h' tk ys vs' hnew hlD hplD hlen' hP hF hk'
    have e' : vs' = vs := by simpa using walked_is hlen' hP
    subst e'
    have hF' := paired_strs D (by rw [List.filter_eq_self.mpr (fun _ _ => rfl)] at hF; exact hF)
    obtain ⟨n, hpl⟩ := hplD
    have hnews : ∀ p ∈ news, p.1 ≠ D' := fun p hp e => by
      rw [← e, Heap.get?_push_of_some _ (N p hp).1] at hnew; cases hnew
    have hold : h₀.get? D' = none := by
      cases e : h₀.get? D' with
      | none => rfl
      | some o' => rw [Heap.get?_push_of_some _ (F.keep _ _ e)] at hnew; cases hnew
    have hF2 := F.keeps (up h' hk')
    refine h D' ys.toList n h' tk hF2 ?_ hF' hnews
    intro p hp
    rcases List.mem_cons.mp hp with rfl | hp
    · refine ⟨by rw [Array.toArray_toList]; exact hpl, ?_, hold⟩
      rintro rfl
      obtain ⟨oL, _, _, hL, _⟩ := F.ns
      rw [Heap.get?_push_of_some _ hL] at hnew; cases hnew
    · exact N.grown (up h' hk') p hp
theorem join_rows {D : Addr} {ys : List Value} {rs : List Rw} {n : Nat} {t : Tok} {Q : Value → Shared → Prop} (N : News h₀ L s₁.heap news) (hm : (D, W.listOf ys.toArray n) ∈ news) (hs : StrsAre ys (rs.map Rw.x)) (hne : rs ≠ []) (hx : ∀ r ∈ rs, r.x.length ≤ 300) (h3 : rs.length ≤ 3)
    (h : ∀ t' k, (Str.join (Str.ofString "\n") (rs.map Rw.x)).length ≤ 903 → Q (.str (Str.join (Str.ofString "\n") (rs.map Rw.x)) t') { s₁ with toks := k }) : wpAny (model prog w) A (call (.builtin "str.join") [.str (Str.ofString "\n") t, .ref D]) Q E s₁ := by
  have hl : s₁.heap.IsList D ys.toArray := ⟨_, (N _ hm).1, rfl, n, rfl⟩
  have h1 := join_sum rs hx
  refine join_listW hl (ys := rs.map Rw.x) (by simpa using hs) (by decide +kernel) (by rw [List.length_map]; omega) fun t' k => ?_
  have e : Txt.join (Str.ofString "\n") (rs.map Rw.x) = Str.join (Str.ofString "\n") (rs.map Rw.x) := StrLaws.glued_eq_join _ _
  rw [e]
  exact h t' k (join_len hne hx h3)
/-- a row of the list of rows, taken by its number -/
theorem row_pick {value slice : PySem.Expr} {l : Addr} {vs : List Value} {c : Nat} {rs : List Rw} {tl B : List (Addr × Obj)} {k : Int} {uk : Tok} {Q : Value → Shared → Prop} (N : News h₀ L s₁.heap news) (hB : ∀ p ∈ B, p ∈ news) (hm : (l, W.listOf vs.toArray c) ∈ B) (ht : ∀ p ∈ tl, p ∈ B) (D : DatAll tl vs (rs.map Rw.dat)) (h3 : rs.length ≤ 3)
    {i : Nat} (hk : k = (i : Int) ∨ k = (i : Int) - (rs.length : Int)) (hi : i < rs.length)
    (hR : ∀ (i : Nat) (r : Rw), rs[i]? = some r → RowOk r.x r.k r.l (i = 0))
    (h : ∀ a n t1 t2 t3 (r : Rw), rs[i]? = some r → r.x.length ≤ 300 → 0 ≤ r.l → r.l ≤ 300 → (a, W.listOf #[.str r.x t1, .int r.k t2, .int r.l t3] n) ∈ tl → News h₀ L s₁.heap ((a, W.listOf #[.str r.x t1, .int r.k t2, .int r.l t3] n) :: news) → Q (.ref a) s₁)
    (hs : subscripted slice false (.ref l) (.int k uk) = operate [.ref l, .int k uk] (getItem (.ref l) (.int k uk))) :
    wpAny (model prog w) A (subscriptTail value slice (.ref l) (.int k uk)) Q E s₁ := by
  have hl : s₁.heap.IsList l vs.toArray := ⟨_, (N _ (hB _ hm)).1, rfl, c, rfl⟩
  have hlen : vs.length = rs.length := D.length.trans (List.length_map ..)
  have hi' : i < (rs.map Rw.dat).length := by simpa using hi
  obtain ⟨v, e1, hd⟩ := D.get hi'
  have hr : (rs.map Rw.dat)[i] = rs[i].dat := by simp
  rw [hr] at hd
  obtain ⟨a, n, t1, t2, t3, rfl, ha⟩ := row_inv hd
  refine tail_any hl.typeIs slot_list_getitem.lookup ?_ hs
  have hri : rs[i]? = some rs[i] := List.getElem?_eq_getElem hi
  have hro := hR i _ hri
  have hN : News h₀ L s₁.heap ((a, W.listOf #[.str rs[i].x t1, .int rs[i].k t2, .int rs[i].l t3] n) :: news) := fun p hp => by
    rcases List.mem_cons.mp hp with rfl | hp
    · exact N _ (hB _ (ht _ ha))
    · exact N _ hp
  rcases hk with rfl | rfl
  · exact wpAny_getItem_list hl (by omega) (by omega) (x := .ref a) (by simpa using e1) (h a n t1 t2 t3 _ hri hro.2.1 hro.2.2.1 hro.2.2.2.1 ha hN)
  · refine wpAny_getItem_list_neg hl (by omega) (by rw [List.size_toArray]; omega) (by omega) (x := .ref a) ?_ (h a n t1 t2 t3 _ hri hro.2.1 hro.2.2.1 hro.2.2.2.1 ha hN)
    have e2 : ((i : Int) - (rs.length : Int) + (vs.toArray.size : Int)).toNat = i := by rw [List.size_toArray]; omega
    rw [e2]; simpa using e1
theorem len_rows {l : Addr} {vs : List Value} {c : Nat} {rs : List Rw} {tl : List (Addr × Obj)} {Q : Value → Shared → Prop} (N : News h₀ L s₁.heap news) (hm : (l, W.listOf vs.toArray c) ∈ news) (D : DatAll tl vs (rs.map Rw.dat)) (h3 : rs.length ≤ 3)
    (h : Q (.int (rs.length : Int) (s₁.toks + 1)) { s₁ with toks := s₁.toks + 1 + 1 }) : wpAny (model prog w) A (call (.builtin "len") [.ref l]) Q E s₁ :=
  kd_len N hm D (by rw [List.length_map]; omega) (by rw [List.length_map]; exact h)
end
theorem abs_tail {P : Prop} {g h : Heap} {L : Addr} {x : Addr × Obj} {B : List (Addr × Obj)} (N : News g L h (x :: B)) (k : ∀ B' : List (Addr × Obj), (∀ p ∈ B', p ∈ B) → (∀ p ∈ B, p ∈ B') → News g L h (x :: B') → P) : P := k B (fun _ h => h) (fun _ h => h) N
theorem app_ne {X tl Z : List (Addr × Obj)} {du : Addr} {o : Obj} (h : ∀ p ∈ X, p.1 ≠ du) (O : ∀ p ∈ tl, ∀ q ∈ Z, q.1 ≠ p.1) (hd : (du, o) ∈ Z) : ∀ p ∈ X ++ tl, p.1 ≠ du := fun p hp => by
  rcases List.mem_append.mp hp with hp | hp
  · exact h p hp
  · exact (O p hp _ hd).symm
theorem news_swap {g h : Heap} {L : Addr} {tl B : List (Addr × Obj)} (N : News g L h (tl ++ B)) : News g L h (B ++ tl) := fun p hp => N p (List.mem_append.mpr (List.mem_append.mp hp).symm)
/-- the loop over a text's rows: the reports of the rows seen -/
def DueJ (st du rw tkA : Addr) (row most : Int) (B : List (Addr × Obj)) (rs : List Rw) (i : Nat) (m : Str → Option Value) (nx : List (Addr × Obj)) : Prop :=
  ∃ us c tl2 t1 t2, nx = (du, W.listOf us.toArray c) :: (tl2 ++ B) ∧ DatAll tl2 us (repsR row most rs.length 0 (rs.take i)) ∧ (∀ p ∈ tl2, p.1 ≠ du) ∧ (∀ p ∈ tl2, p.1 ≠ st) ∧ us.length ≤ i ∧
    m (Str.ofString "rows") = some (.ref rw) ∧ m (Str.ofString "row") = some (.int row t1) ∧ m (Str.ofString "most") = some (.int most t2) ∧ m (Str.ofString "due") = some (.ref du) ∧ m (Str.ofString "tokens") = some (.ref tkA)
theorem repsR_step {row most : Int} {rs : List Rw} {i : Nat} {r : Rw} (h : rs[i]? = some r) : repsR row most rs.length 0 (rs.take (i + 1)) = repsR row most rs.length 0 (rs.take i) ++ repR row most rs.length i r := by
  have hi : i < rs.length := (List.getElem?_eq_some_iff.mp h).1
  rw [List.take_add_one, h]
  show repsR row most rs.length 0 (rs.take i ++ [r]) = _
  rw [repsR_snoc, List.length_take, Nat.min_eq_left (Nat.le_of_lt hi), Nat.zero_add]
theorem due_end1 {g : Heap} {L : Addr} {h' : Heap} {m' : Str → Option Value} {st du rw tkA : Addr} {row most : Int} {B own tl2 : List (Addr × Obj)} {x y : Addr × Obj} {rs : List Rw} {r : Rw} {i tk c : Nat} {us : List Value} {t1 t2 : Tok} {s₁ : Shared}
    (F : Fr g L h' m') (N : News g L h' (x :: y :: (du, W.listOf us.toArray c) :: ((tl2 ++ B) ++ own))) (hm1 : m' (Str.ofString "rows") = some (.ref rw)) (hm2 : m' (Str.ofString "row") = some (.int row t1)) (hm3 : m' (Str.ofString "most") = some (.int most t2)) (hm4 : m' (Str.ofString "due") = some (.ref du)) (hm5 : m' (Str.ofString "tokens") = some (.ref tkA))
    (D : DatAll tl2 us (repsR row most rs.length 0 (rs.take i))) (hn2 : ∀ p ∈ tl2, p.1 ≠ du) (hn4 : ∀ p ∈ tl2, p.1 ≠ st) (hul : us.length ≤ i) (hoff : OwnOff own (du :: (tl2 ++ B).map (·.1))) (hr : rs[i]? = some r) (hc : repR row most rs.length i r = []) :
    InvEndG g L (DueJ st du rw tkA row most B rs (i + 1)) own s₁ { s₁ with heap := h', toks := tk } := by
  refine turn_end F N ((du, W.listOf us.toArray c) :: (tl2 ++ B)) (fun p hp => ?_) (fun p hp => .tail _ (.tail _ (.tail _ (List.mem_append.mpr (.inr hp))))) hoff ⟨us, c, tl2, t1, t2, rfl, ?_, hn2, hn4, by omega, hm1, hm2, hm3, hm4, hm5⟩
  · rcases List.mem_cons.mp hp with rfl | hp
    · exact .tail _ (.tail _ (.head _))
    · exact .tail _ (.tail _ (.tail _ (List.mem_append.mpr (.inl hp))))
  · rw [repsR_step hr, hc, List.append_nil]; exact D
theorem due_end2 {g : Heap} {L : Addr} {h' : Heap} {m' : Str → Option Value} {st du rw tkA a : Addr} {row most rr : Int} {B own tl2 tl3 : List (Addr × Obj)} {x y : Addr × Obj} {o os : Obj} {rs : List Rw} {r : Rw} {i tk c : Nat} {us : List Value} {t1 t2 : Tok} {s₁ : Shared} (hst : (st, os) ∈ B)
    (F : Fr g L h' m') (N : News g L h' (x :: y :: (du, W.listOf (us.toArray.push (.ref a)) c) :: (((tl2 ++ B) ++ own) ++ tl3))) (hm1 : m' (Str.ofString "rows") = some (.ref rw)) (hm2 : m' (Str.ofString "row") = some (.int row t1)) (hm3 : m' (Str.ofString "most") = some (.int most t2)) (hm4 : m' (Str.ofString "due") = some (.ref du)) (hm5 : m' (Str.ofString "tokens") = some (.ref tkA))
    (D : DatAll tl2 us (repsR row most rs.length 0 (rs.take i))) (hn2 : ∀ p ∈ tl2, p.1 ≠ du) (hn4 : ∀ p ∈ tl2, p.1 ≠ st) (hul : us.length ≤ i) (hoff : OwnOff own (du :: (tl2 ++ B).map (·.1))) (hr : rs[i]? = some r)
    (hd : DatIn tl3 (.ref a) (toldD rr r.x.length most)) (O : ∀ p ∈ tl3, ∀ q ∈ x :: y :: (du, o) :: ((tl2 ++ B) ++ own), q.1 ≠ p.1) (he : rr = row + (i : Int)) (hc : ¬ (r.k = 1 ∧ i + 1 < rs.length ∧ (r.x.length : Int) - r.l < 72) ∧ (r.x.length : Int) > most) :
    InvEndG g L (DueJ st du rw tkA row most B rs (i + 1)) own s₁ { s₁ with heap := h', toks := tk } := by
  subst he
  have hn3 : ∀ p ∈ tl3, p.1 ≠ du := fun p hp => (O p hp (du, o) (.tail _ (.tail _ (.head _)))).symm
  refine turn_end F N ((du, W.listOf (us ++ [Value.ref a]).toArray c) :: ((tl2 ++ tl3) ++ B)) (fun p hp => ?_) (fun p hp => .tail _ (.tail _ (.tail _ (List.mem_append.mpr (.inl (List.mem_append.mpr (.inr hp))))))) ?_ ⟨us ++ [Value.ref a], c, tl2 ++ tl3, t1, t2, rfl, ?_, ?_, ?_, ?_, hm1, hm2, hm3, hm4, hm5⟩
  · rcases List.mem_cons.mp hp with rfl | hp
    · have e : (us ++ [Value.ref a]).toArray = us.toArray.push (.ref a) := by simp
      rw [e]; exact .tail _ (.tail _ (.head _))
    · refine .tail _ (.tail _ (.tail _ ?_))
      rcases List.mem_append.mp hp with hp | hp
      · rcases List.mem_append.mp hp with hp | hp
        · exact List.mem_append.mpr (.inl (List.mem_append.mpr (.inl (List.mem_append.mpr (.inl hp)))))
        · exact List.mem_append.mpr (.inr hp)
      · exact List.mem_append.mpr (.inl (List.mem_append.mpr (.inl (List.mem_append.mpr (.inr hp)))))
  · intro p hp b hb
    simp only [List.map_cons, List.map_append, List.mem_cons, List.mem_append] at hb
    rcases hb with rfl | (hb | hb) | hb
    · exact hoff p hp _ (by simp)
    · exact hoff p hp _ (by simp only [List.map_append, List.mem_cons, List.mem_append]; exact .inr (.inl hb))
    · obtain ⟨q, hq, rfl⟩ := List.mem_map.mp hb
      exact O q hq p (.tail _ (.tail _ (.tail _ (List.mem_append.mpr (.inr hp)))))
    · exact hoff p hp _ (by simp only [List.map_append, List.mem_cons, List.mem_append]; exact .inr (.inr hb))
  · rw [repsR_step hr]
    refine (D.mono fun p hp => List.mem_append.mpr (.inl hp)).append ?_
    rw [show repR row most rs.length i r = [toldD (row + (i : Int)) r.x.length most] from if_pos hc]
    exact .one (hd.mono fun p hp => List.mem_append.mpr (.inr hp))
  · intro p hp
    rcases List.mem_append.mp hp with hp | hp
    · exact hn2 p hp
    · exact hn3 p hp
  · intro p hp
    rcases List.mem_append.mp hp with hp | hp
    · exact hn4 p hp
    · exact (O p hp (st, os) (.tail _ (.tail _ (.tail _ (List.mem_append.mpr (.inl (List.mem_append.mpr (.inr hst)))))))).symm
  · simp only [List.length_append, List.length_singleton]; omega
theorem lt_from {B2 Bc : List (Addr × Obj)} {du : Addr} (hs : ∀ p ∈ B2, p ∈ Bc) (l : AllLt du Bc) : ∀ p ∈ B2, p.1 ≠ du := fun p hp => Nat.ne_of_lt (ktn_ltOf l p (hs p hp))
theorem ne_in {tl : List (Addr × Obj)} {du a : Addr} {o : Obj} (h : ∀ p ∈ tl, p.1 ≠ du) (ha : (a, o) ∈ tl) : a ≠ du := h _ ha
theorem m_of {g h : Heap} {L : Addr} {m : Str → Option Value} {y : Str} {v : Option Value} (_F : Fr g L h m) (e : m y = v) : m y = v := e
theorem tok_fact {m : Str → Option Value} {B : List (Addr × Obj)} {st tk : Addr} {vs : List Value} {c1 : Nat} {ts : List Tk} {row most : Int} {ds : List Dat} (hm : m (Str.ofString "tokens") = some (.ref tk)) (hmem : (tk, W.listOf vs.toArray c1) ∈ B) (hsn : sndInt vs.toArray = false) (ht : TksIn (stX st B) vs ts) (ok : StmtOk row most ts ds) :
    ∃ tk vs c1 ts, m (Str.ofString "tokens") = some (.ref tk) ∧ (tk, W.listOf vs.toArray c1) ∈ B ∧ sndInt vs.toArray = false ∧ TksIn (stX st B) vs ts ∧ StmtOk row most ts ds := ⟨tk, vs, c1, ts, hm, hmem, hsn, ht, ok⟩
end Mine
-- part MLawC
namespace Mine
theorem enter_stH {w : World} {A : Around} {mean : ExcName → Option Value} {mg mb : Str → Option Value} {h₀ : Heap} {s : Shared} {L st a : Addr} {n : Nat} {m : Str → Option Value} {news : List (Addr × Obj)} {ng : Obj → List (Addr × Obj)} {o : Obj} {Q E : Value → Shared → Prop}
    {K : Frag} {name qual : Str} {params : Arguments} {body : List Stmt} {scope : Scope} {dV kV doc pm cdv ct oc : Value} {an od : Option Addr} {osl : Array (Option Value)} {f : Addr} {args : List Value} {binds : List (Str × Value)}
    (F : Fr h₀ L s.heap m) (N : News h₀ L s.heap news) (X : K.In h₀) (T : TopH mean mg mb h₀) (U : UpdF st o news ng) (SX : XsAt (s.heap.hide st) a n) (S : StO a n o)
    (ho : K.lookup f = some ⟨oc, od, .func (fnOf name qual params body scope dV kV doc pm an cdv ct), osl⟩) (hcd : codeIn K cdv qual = true) (hroom : A.depth < recursionLimit)
    (hbind : BindsTo s (fnOf name qual params body scope dV kV doc pm an cdv ct) ⟨args, []⟩ binds) (hloc : ∀ y ∈ binds, scope.names.lookup y.1 = some .local)
    (h : ∀ g L' h₁, Fr g L' h₁ (fun y => binds.reverse.lookup y) → News g L' h₁ [(st, o)] → K.In g → TopH mean mg mb g → XsAt g a n → (∀ b x, h₀.get? b = some x → g.get? b = some x) →
      wpAny (model pg w) (A.deeper (envOf qual scope L' f cdv)) (execs body (envOf qual scope L' f cdv))
        (fun fl s' => EndSt h₀ g L m st a n ng Q (match fl with | .ret v => v | _ => .none) s') (fun _ _ => False) { s with heap := h₁, toks := s.toks + binds.length })
    (hco : scope.isCoroutine = false) (hgen : scope.isGenerator = false) (hk : scope.kind = .function) (hcell : ∀ x ∈ scope.names, x.2 ≠ .cell) :
    wpAny (model pg w) A (call (.ref f) args) Q E s := by
  have G := fun h' o' => out_hide (h' := h') (o' := o') F N U
  obtain ⟨k1, k2, k3, _⟩ := G s.heap o
  refine wpAny_call ?_
  refine code_m (g := s.heap.hide st) (news := [(st, o)]) (fun a o e => k1 _ _ (X a o e)) (fun b o e => Heap.of_hide e) (Heap.hide_size _ _) (fun p hp => by rw [List.mem_singleton.mp hp]; exact ⟨k3, k2⟩) (T.keeps k1).nolimit ho hcd hroom hbind hloc ?_ hco hgen hk hcell
  intro L' h₁ F' N' _
  refine wpAny_mono (h _ L' h₁ F' N' (fun a o e => k1 _ _ (X a o e)) (T.keeps k1) SX k1) (fun fl s' x => ?_) fun _ _ x => x
  obtain ⟨L'', m'', news', o', tl, F'', N'', hst, S'', htl, k⟩ := x
  obtain ⟨F₂, N₂⟩ := (G s'.heap o').2.2.2 F''.keep (N'' _ hst).1
  have hn : ∀ p ∈ tl, h₀.get? p.1 = none := fun p hp => by
    cases e : h₀.get? p.1 with
    | none => rfl
    | some x => have := (N'' p (htl p hp).1).2.2; rw [k1 _ _ e] at this; cases this
  obtain ⟨pre, post, rfl, hg, ua, ub⟩ := U.split
  have live : ∀ q ∈ pre ++ (st, o) :: post, q.1 ≠ st → ∀ p ∈ tl, q.1 ≠ p.1 := fun q hq hqs p hp e => by
    have h1 := (N q hq).1
    have h2 := (N'' p (htl p hp).1).2.2
    rw [← e, Heap.hide_ne _ hqs, h1] at h2
    cases h2
  have hL : ∀ p ∈ tl, p.1 ≠ L := by
    rintro p hp e
    have hL : (s.heap.hide st).get? L ≠ none := by
      obtain ⟨oL, _, _, hL, _⟩ := F.ns
      have : L ≠ st := by
        rintro rfl
        exact (N (L, o) (by simp)).2.1 rfl
      rw [Heap.hide_ne _ this, hL]; nofun
    exact hL (e ▸ (N'' p (htl p hp).1).2.2)
  refine k S'' (fun p hp q hq => ?_) hL F₂ (fun p hp => ?_)
  · rw [hg] at hq
    rcases List.mem_append.mp hq with hq | hq
    · exact live q (List.mem_append.mpr (.inl hq)) (ua q hq) p hp
    · rcases List.mem_cons.mp hq with rfl | hq
      · exact (htl p hp).2.symm
      · exact live q (List.mem_append.mpr (.inr (List.mem_cons_of_mem _ hq))) (ub q hq) p hp
  · rcases List.mem_append.mp hp with hp | hp
    · exact ⟨(N'' p (htl p hp).1).1, hL p hp, hn p hp⟩
    · exact N₂ p hp

theorem draw_H {w : World} {A : Around} {mean : ExcName → Option Value} {mg mb : Str → Option Value} {h₀ : Heap} {s : Shared} {L st : Addr} {m : Str → Option Value} {news : List (Addr × Obj)} {ng : Obj → List (Addr × Obj)} {o : Obj} {many : Int} {tm : Tok} {Q E : Value → Shared → Prop} {a : Addr} {n : Nat}
    (F : Fr h₀ L s.heap m) (N : News h₀ L s.heap news) (X : (Tp.heap_39 w.params).In h₀) (T : TopH mean mg mb h₀) (U : UpdF st o news ng) (hx : XsAt (s.heap.hide st) a n) (hs : StO a n o) (hm0 : 0 < many) (hm1 : many ≤ 64)
    (hd : A.depth + 4 < recursionLimit) (hu : A.units + 40 < cLine)
    (ret : ∀ (v : Int) t o' h' tk, StO a n o' → 0 ≤ v → v < many → Fr h₀ L h' m → News h₀ L h' (ng o') → Q (.int v t) { s with heap := h', toks := tk }) :
    wpAny (model pg w) A (call (.ref 52) [.ref st, .int many tm]) Q E s := by
  obtain ⟨i, ti, e, te, c, rfl, h2, h3, h4, h5⟩ := hs
  obtain ⟨vs, ns, hL, hI, rfl, h1⟩ := hx
  obtain ⟨k1, k2, k3, _⟩ := out_hide (h' := s.heap) (o' := stObj a i ti e te c) F N U
  refine next_body (g := s.heap.hide st) (fun a o e => k1 _ _ (X a o e)) (T.keeps k1) (fun b o e => Heap.of_hide e) (Heap.hide_size _ _) k3 k2 hL hI h1 h2 h3 h4 h5 hm0 hm1 hd hu ?_
  intro v t L' m' i' ti' e' te' c' h' tk hv0 hv1 a1 a2 a3 a4 F' N'
  obtain ⟨F₂, N₂⟩ := (out_hide (h' := h') (o' := stObj a i' ti' e' te' c') F N U).2.2.2 F'.keep (N' _ (List.mem_singleton.mpr rfl)).1
  exact ret v t _ h' tk ⟨i', ti', e', te', c', rfl, a1, a2, a3, a4⟩ hv0 hv1 F₂ N₂

theorem hid_of {h₀ h : Heap} {L st a : Addr} {news : List (Addr × Obj)} {vs : List Value} {ns : List Int} {n c : Nat} (N : News h₀ L h news) (hm : (a, W.listOf vs.toArray c) ∈ news) (hne : a ≠ st) (hI : IntsAre vs ns) (hl : ns.length = n) (hn : n ≤ 100) : XsAt (h.hide st) a n :=
  ⟨vs, ns, ⟨_, by rw [Heap.hide_ne _ hne]; exact (N _ hm).1, rfl, c, rfl⟩, hI, hl, hn⟩
end Mine
-- part MStmt
namespace Mine
structure StopTok : Prop where
  mk ::
theorem stop_tok {P : Prop} (_ : StopTok) (h : Stop P) : P := h
local macro_rules | `(tactic| walk_at "call ref") => `(tactic| (k_here; (with_reducible show wpAny _ _ (call (Value.ref 52) _) _ _ _); k_dflt ((refine' draw_K ?k1 ?k2 ?k3 ?k4 ?k5 ?kX ?k6 ?e0 ?e1 ?k9 ?kA ?_; (case k1 => k_asm); (case k2 => k_asm); (case k3 => k_asm); (case k4 => k_asm); (case k5 => k_updF); (case kX => assumption); (case k6 => assumption); (case e0 => decide); (case e1 => decide); (case k9 => (simp only [depth_deeper]; omega)); (case kA => (simp only [units_deeper]; omega)); k_whole); intro v' t' o' h' tk' S' v0' v1' F' N'; (try dsimp only at N'))))
local macro_rules | `(tactic| walk_at "call ref") => `(tactic| (k_here; (with_reducible show wpAny _ _ (call (Value.ref 59) _) _ _ _); k_dflt ((refine' size_K ?k1 ?k2 ?k3 ?k4 ?k5 ?kX ?k6 ?k9 ?kA ?_; (case k1 => k_asm); (case k2 => k_asm); (case k3 => k_asm); (case k4 => k_asm); (case k5 => k_updF); (case kX => assumption); (case k6 => assumption); (case k9 => (simp only [depth_deeper]; omega)); (case kA => (simp only [units_deeper]; omega)); k_whole); intro v' t' o' h' tk' S' v0' v1' F' N'; (try dsimp only at N'))))
local macro_rules | `(tactic| walk_at "call type:range") => `(tactic| (k_here; (rename Fr _ _ _ _ => fX); (rename News _ _ _ _ => nX); with_unfolding_all refine range1_rows fX nX ?_; intro hR tkR tR1 tR2 tR3 rngR fR nR kR))
local macro_rules | `(tactic| k_all) => `(tactic| assumption)
local macro_rules | `(tactic| walk_at "call ref") => `(tactic| (k_here; (with_reducible show wpAny _ _ (call (Value.ref 73) _) _ _ _); k_dflt ((refine' remark_K ?k1 ?k2 ?k3 ?k4 ?k5 ?kX ?k6 ?k9 ?kA ?_; (case k1 => k_asm); (case k2 => k_asm); (case k3 => k_asm); (case k4 => k_asm); (case k5 => k_updF); (case kX => assumption); (case k6 => assumption); (case k9 => (simp only [depth_deeper]; omega)); (case kA => (simp only [units_deeper]; omega)); k_whole); intro rr' rx' rk' rl' rt1' rt2' rt3' o' h' tk' RO' rl0' rl1' S' rn' F' N'; (try dsimp only at N'); (have rlen' := RemOk.len RO'); (have rnst := neN (rn' (_, o') (by k_mem))); (dsimp only at rnst))))
local macro_rules | `(tactic| walk_at "call ref") => `(tactic| (k_here; (with_reducible show wpAny _ _ (call (Value.ref 66) _) _ _ _); k_dflt ((refine' told_K ?k1 ?k2 ?k3 ?k4 ?k9 ?kA ?e1 ?e2 ?e3 ?e4 ?e5 ?e6 ?_; (case k1 => k_asm); (case k2 => k_asm); (case k3 => k_asm); (case k4 => k_asm); (case k9 => (simp only [depth_deeper]; omega)); (case kA => (simp only [units_deeper]; omega)); (case e1 => omega); (case e2 => omega); (case e3 => omega); (case e4 => omega); (case e5 => omega); (case e6 => omega); k_whole); intro r' tl' h' tk' R' O' F' N'; have nSw' := news_swap N'; clear N'; (simp only [List.cons_append] at nSw'))))
local macro_rules | `(tactic| k_all) => `(tactic| refine app_ne (by assumption) (by assumption) (by k_mem))
local macro_rules | `(tactic| walk_at "call ref") => `(tactic| (k_here; (with_reducible show wpAny _ _ (call (Value.ref 80) _) _ _ _); k_dflt ((refine' due_K ?k1 ?k2 ?k3 ?k4 ?k9 ?kA ?e1 ?e2 ?e3 ?e4 ?e5 ?e6 ?e7 ?_; (case k1 => k_asm); (case k2 => k_asm); (case k3 => k_asm); (case k4 => k_asm); (case k9 => (simp only [depth_deeper]; omega)); (case kA => (simp only [units_deeper]; omega)); (case e1 => omega); (case e2 => omega); (case e3 => omega); (case e4 => omega); (case e5 => omega); (case e6 => omega); (case e7 => omega); k_whole); intro r' tl' h' tk' R' O' F' N')))
local macro_rules | `(tactic| walk_at "call ref") => `(tactic| (k_here; (with_reducible show wpAny _ _ (call (Value.ref 87) _) _ _ _); k_dflt ((refine' rows_K ?k1 ?k2 ?k3 ?k4 ?k5 ?kX ?k6 ?k9 ?kA ?kH ?_; (case k1 => k_asm); (case k2 => k_asm); (case k3 => k_asm); (case k4 => k_asm); (case k5 => k_updF); (case kX => assumption); (case k6 => assumption); (case k9 => (simp only [depth_deeper]; omega)); (case kA => (simp only [units_deeper]; omega)); (case kH => assumption); k_whole); intro r' vs' c' ds' tl' o' h' tk' D' ln1' ln3' RO' S' rn' on' tn' F' N'; (try dsimp only at N'))))
local macro_rules | `(tactic| walk_at "assign Tuple") => `(tactic| (k_here; (with_reducible show wpAny _ _ (assign (Expr.Tuple _ _ _) _ (Value.ref _)) _ _ _); k_dflt (refine' unpackN_ ?k1 ?k2 ?k3 ?k4 ?k5 ?k6 ?_; (case k1 => k_asm); (case k2 => k_asm); (case k3 => (refine News.isTup (by k_asm) (by k_mem))); (case k4 => assumption); (case k5 => exact rfl); (case k6 => exact rfl); k_whole); intro h' F' N'))
local macro_rules | `(tactic| walk_at "assign Tuple") => `(tactic| (k_here; (with_reducible show wpAny _ _ (assign (Expr.Tuple _ _ _) _ (Value.ref _)) _ _ _); k_dflt (refine' kun_list ?k1 ?k2 ?k3 ?k4 ?k5 ?k6 ?_; (case k1 => k_asm); (case k2 => k_asm); (case k3 => (refine News.isList (by k_asm) (by k_mem))); (case k4 => assumption); (case k5 => exact rfl); (case k6 => exact rfl); k_whole); intro h' F' N'))
local macro_rules | `(tactic| walk_at "subscriptTail") => `(tactic| (k_here; (with_reducible show wpAny _ _ (subscriptTail _ _ (Value.ref _) (Value.int _ _)) _ _ _); k_dflt (refine' blank_pick ?k1 ?k2 ?k3 ?k4 ?_ ?k6 (Or.inl rfl); (case k1 => k_asm); (case k2 => k_mem); (case k3 => assumption); (case k4 => assumption); (case k6 => with_unfolding_all rfl); k_whole); intro bx' bt' bb'; (have blen' := Bl.len bb')))
local macro_rules | `(tactic| walk_at "subscriptTail") => `(tactic| (k_here; (with_reducible show wpAny _ _ (subscriptTail _ _ (Value.ref _) (Value.int _ _)) _ _ _); k_dflt (refine' blank_pick ?k1 ?k2 ?k3 ?k4 ?_ ?k6 (Or.inr rfl); (case k1 => k_asm); (case k2 => k_mem); (case k3 => assumption); (case k4 => assumption); (case k6 => with_unfolding_all rfl); k_whole); intro bx' bt' bb'; (have blen' := Bl.len bb')))
local macro_rules | `(tactic| walk_at "exec If") => `(tactic| (refine stop_tok (by with_reducible assumption) ?_))
local macro_rules | `(tactic| walk_at "pyIter ref") => `(tactic| ((with_reducible show wpAny _ _ (pyIter (Value.ref _)) _ _ _); refine stop_here ?_))
local macro_rules | `(tactic| walk_at "call builtin:len") => `(tactic| (k_here; (with_reducible show wpAny _ _ (call (Value.builtin "len") [Value.ref _]) _ _ _); k_dflt (refine' len_rows ?k1 ?k2 ?k3 ?k4 ?_; (case k1 => k_asm); (case k2 => k_mem); (case k3 => assumption); (case k4 => assumption); k_whole)))
local macro_rules | `(tactic| walk_at "call builtin:str.join") => `(tactic| (k_here; k_dflt (refine' join_rows ?k1 ?k2 ?k3 ?k4 ?k5 ?k6 ?_; (case k1 => k_asm); (case k2 => k_mem); (case k3 => assumption); (case k4 => assumption); (case k5 => assumption); (case k6 => assumption); k_whole); intro jt' jk' jl'))
local macro_rules | `(tactic| walk_at "subscriptTail Name UnaryOp ref int") => `(tactic| (k_here; (with_reducible show wpAny _ _ (subscriptTail _ _ (Value.ref _) (Value.int _ _)) _ _ _); k_dflt (refine' row_pick ?k1 ?k2 ?k3 ?k4 ?k5 ?k6 ?k7 ?k8 ?k9 ?_ ?kS; (case k1 => k_asm); (case k3 => assumption); (case k4 => assumption); (case k5 => assumption); (case k6 => assumption); (case k8 => assumption); (case k7 => omega); (case k9 => assumption); (case k2 => (intro p hp; (repeat (first | exact hp | exact List.mem_append.mpr (.inl (List.mem_append.mpr (.inr hp))) | refine List.Mem.tail _ ?_)))); (case kS => with_unfolding_all rfl); k_whole); intro ra' rn' rt1' rt2' rt3' rr' rhr' rl1' rl2' rl3' rha' rN'; (try (have rne' := neN (ne_in (by assumption) rha')))))
local macro_rules | `(tactic| walk_at "subscriptTail Name Name ref int") => `(tactic| (k_here; (with_reducible show wpAny _ _ (subscriptTail _ _ (Value.ref _) (Value.int _ _)) _ _ _); k_dflt (refine' row_pick ?k1 ?k2 ?k3 ?k4 ?k5 ?k6 ?k7 ?k8 ?k9 ?_ ?kS; (case k1 => k_asm); (case k3 => assumption); (case k4 => assumption); (case k5 => assumption); (case k6 => assumption); (case k8 => assumption); (case k7 => omega); (case k9 => assumption); (case k2 => (intro p hp; (repeat (first | exact hp | exact List.mem_append.mpr (.inl (List.mem_append.mpr (.inr hp))) | refine List.Mem.tail _ ?_)))); (case kS => with_unfolding_all rfl); k_whole); intro ra' rn' rt1' rt2' rt3' rr' rhr' rl1' rl2' rl3' rha' rN'; (try (have rne' := neN (ne_in (by assumption) rha')))))
local macro_rules | `(tactic| walk_at "eval ListComp") => `(tactic| ((with_reducible apply ListComp_rowsP); (case hfree => decide); (case hcell => decide); (case hkind => with_unfolding_all rfl); (case hnames => decide); (case hx => with_unfolding_all rfl); (case hs => (intro _; with_unfolding_all rfl))))

theorem stmt_H {w : World} {A : Around} {mean : ExcName → Option Value} {mg mb : Str → Option Value} {h₀ : Heap} {s : Shared} {L st a : Addr} {n : Nat} {m : Str → Option Value} {news : List (Addr × Obj)} {ng : Obj → List (Addr × Obj)} {o : Obj} {Q E : Value → Shared → Prop} {row most : Int} {ta tb : Tok}
    (F : Fr h₀ L s.heap m) (N : News h₀ L s.heap news) (X : (Tp.heap_39 w.params).In h₀) (T : TopH mean mg mb h₀) (U : UpdF st o news ng) (SX : XsAt (s.heap.hide st) a n) (S : StO a n o)
    (hd : A.depth + 20 < recursionLimit) (hu : A.units + 200 < cLine) (hh : A.handled = none) (hr0 : 1 ≤ row) (hr1 : row < 100000) (hm0 : 0 ≤ most) (hm1 : most < 200)
    (ret : StmtRet h₀ L m a n ng row most s Q) :
    wpAny (model pg w) A (call (.ref 92) [.ref st, .int row ta, .int most tb]) Q E s := by
  have _ : (fun (_ : OpenLaw) (_ : Frag) => True) PySem.Challenge.rw_et5024_01 (Tp.heap_39 w.params) := by (k_fill; trivial)
  (refine' enter_stH (K := Tp.heap_39 w.params) F N X T U SX S ?k6 ?k7 ?k8 ?k9 ?kB ?_ ?c2 ?c3 ?c4 ?c5; (case k6 => k_is); (case k7 => k_is); (case k8 => omega); (case k9 => exact BindsTo.of_eq rfl); (case c5 => decide); (case kB => exact locs rfl); (case c2 => exact rfl); (case c3 => exact rfl); (case c4 => exact rfl))
  clear F N X T U SX
  intro g L' h₁ F' N' KX' T' SX' hkp
  (try dsimp only)
  k_fold
  have tok : StopTok := ⟨⟩
  k_steps
  refine Stop.out ?_
  clear tok
  rename_i fv t1 o1 h1 tk1 S1 fv0 fv1 h2 tk2 l' h3 l1 mv t2 o2 h4 tk4 S2 mv0 mv1 mx mt mb mlen h5 F5 N5
  have lb2 : (Str.ofString "#!").length = 2 := by decide +kernel
  have lb1 : (Str.ofString "\n").length = 1 := by decide +kernel
  have lb7 : (Str.ofString "x = 1  ").length = 7 := by decide +kernel
  have lb4 : (Str.ofString "f(  ").length = 4 := by decide +kernel
  have lbx : (Str.ofString "x = \"\"\"").length = 7 := by decide +kernel
  have lbq : (Str.ofString "\"\"\"\n").length = 4 := by decide +kernel
  have lb3 : (Str.ofString "    a)\n").length = 7 := by decide +kernel
  show wpAny _ _ _ _ _ _
  k_fold
  k_steps
  · show EndSt _ _ _ _ _ _ _ _ _ _ _
    refine' stmt_end ?F ?N ?st ?S ?r ?tk ?sn ?ht ?hd ?ok ret
    case F => assumption
    case N => assumption
    case st => first | exact List.Mem.head _ | exact List.Mem.tail _ (List.mem_append.mpr (.inr (by k_mem)))
    case S => assumption
    case r => first | exact List.Mem.head _ | exact List.Mem.tail _ (List.mem_append.mpr (.inr (by k_mem)))
    case tk => first | exact List.Mem.head _ | exact List.Mem.tail _ (List.mem_append.mpr (.inr (by k_mem)))
    case sn => exact rfl
    case ht =>
      rename News _ _ _ _ => NX
      rename StO _ _ _ => SX
      exact TksIn.cons (tk_inS NX (by first | exact List.Mem.head _ | exact List.Mem.tail _ (List.mem_append.mpr (.inr (by k_mem)))) SX (by first | exact List.Mem.head _ | exact List.Mem.tail _ (List.mem_append.mpr (.inr (by k_mem)))) (by first | exact List.Mem.head _ | exact List.Mem.tail _ (List.mem_append.mpr (.inr (by k_mem)))) (by first | exact List.Mem.head _ | exact List.Mem.tail _ (List.mem_append.mpr (.inr (by k_mem))))) (TksIn.cons (tk_inS NX (by first | exact List.Mem.head _ | exact List.Mem.tail _ (List.mem_append.mpr (.inr (by k_mem)))) SX (by first | exact List.Mem.head _ | exact List.Mem.tail _ (List.mem_append.mpr (.inr (by k_mem)))) (by first | exact List.Mem.head _ | exact List.Mem.tail _ (List.mem_append.mpr (.inr (by k_mem)))) (by first | exact List.Mem.head _ | exact List.Mem.tail _ (List.mem_append.mpr (.inr (by k_mem))))) (TksIn.nil))
    case hd => (rename DatIn _ (Value.ref _) (Dat.list (dueD _ _ _ _ _)) => RX; rename (∀ (p : Addr × Obj), p ∈ _ → ∀ (q : Addr × Obj), q ∈ _ → q.fst ≠ p.fst) => OX; exact due_mono RX OX (by k_mem))
    case ok => (rename RemOk _ _ _ => RO; rename_i bx' bt' bb' _; with_reducible exact form_0 RO mb (by assumption) RO.len)
  · show EndSt _ _ _ _ _ _ _ _ _ _ _
    refine' stmt_end ?F ?N ?st ?S ?r ?tk ?sn ?ht ?hd ?ok ret
    case F => assumption
    case N => assumption
    case st => first | exact List.Mem.head _ | exact List.Mem.tail _ (List.mem_append.mpr (.inr (by k_mem)))
    case S => assumption
    case r => first | exact List.Mem.head _ | exact List.Mem.tail _ (List.mem_append.mpr (.inr (by k_mem)))
    case tk => first | exact List.Mem.head _ | exact List.Mem.tail _ (List.mem_append.mpr (.inr (by k_mem)))
    case sn => exact rfl
    case ht =>
      rename News _ _ _ _ => NX
      rename StO _ _ _ => SX
      exact TksIn.cons (tk_inS NX (by first | exact List.Mem.head _ | exact List.Mem.tail _ (List.mem_append.mpr (.inr (by k_mem)))) SX (by first | exact List.Mem.head _ | exact List.Mem.tail _ (List.mem_append.mpr (.inr (by k_mem)))) (by first | exact List.Mem.head _ | exact List.Mem.tail _ (List.mem_append.mpr (.inr (by k_mem)))) (by first | exact List.Mem.head _ | exact List.Mem.tail _ (List.mem_append.mpr (.inr (by k_mem))))) (TksIn.cons (tk_inS NX (by first | exact List.Mem.head _ | exact List.Mem.tail _ (List.mem_append.mpr (.inr (by k_mem)))) SX (by first | exact List.Mem.head _ | exact List.Mem.tail _ (List.mem_append.mpr (.inr (by k_mem)))) (by first | exact List.Mem.head _ | exact List.Mem.tail _ (List.mem_append.mpr (.inr (by k_mem)))) (by first | exact List.Mem.head _ | exact List.Mem.tail _ (List.mem_append.mpr (.inr (by k_mem))))) (TksIn.cons (tk_inS NX (by first | exact List.Mem.head _ | exact List.Mem.tail _ (List.mem_append.mpr (.inr (by k_mem)))) SX (by first | exact List.Mem.head _ | exact List.Mem.tail _ (List.mem_append.mpr (.inr (by k_mem)))) (by first | exact List.Mem.head _ | exact List.Mem.tail _ (List.mem_append.mpr (.inr (by k_mem)))) (by first | exact List.Mem.head _ | exact List.Mem.tail _ (List.mem_append.mpr (.inr (by k_mem))))) (TksIn.nil)))
    case hd => (rename DatIn _ (Value.ref _) (Dat.list (dueD _ _ _ _ _)) => RX; rename (∀ (p : Addr × Obj), p ∈ _ → ∀ (q : Addr × Obj), q ∈ _ → q.fst ≠ p.fst) => OX; exact due_mono RX OX (by k_mem))
    case ok => (rename RemOk _ _ _ => RO; with_reducible exact form_1 RO mb (by assumption) RO.len)
  · rename_i nf2 tkA ef2 tkB r1 vs1 c1 ds1 tl1 o' h1' tk1' D1 ln1 ln3 RO S' rn on tn h2' F' N'
    obtain ⟨rs, rfl, hrs⟩ := RO.typed
    clear RO
    rw [List.length_map] at ln1 ln3
    have hvl : vs1.length = rs.length := D1.length.trans (List.length_map ..)
    have hne : rs ≠ [] := by rintro rfl; exact absurd ln1 (by decide)
    have hrx : ∀ r ∈ rs, r.x.length ≤ 300 := fun r hr => by
      obtain ⟨i, hi⟩ := List.getElem?_of_mem hr
      exact (hrs i r hi).2.1
    have hlast : rs.length - 1 < rs.length := by omega
    refine comp_part hh rfl (fun C => rfl) F' N' (.head _) (fun p hp => .tail _ (List.mem_append.mpr (.inl hp))) D1 ln3 ?_
    intro Dp ys nD h3' tkD F3 N3 SD hnD
    refine abs_tail N3 ?_
    intro B hs1 hs2 N4
    have hB1 : (r1, W.listOf vs1.toArray c1) ∈ B := hs2 _ (.head _)
    have hB2 : ∀ p ∈ tl1, p ∈ B := fun p hp => hs2 _ (.tail _ (List.mem_append.mpr (.inl hp)))
    have hB3 : (st, o') ∈ B := hs2 _ (.tail _ (List.mem_append.mpr (.inr (by k_mem))))
    have N5 : News g L' h3' ((Dp, W.listOf ys.toArray nD) :: (r1, W.listOf vs1.toArray c1) :: B) := fun p hp => by
      rcases List.mem_cons.mp hp with rfl | hp
      · exact N4 _ (.head _)
      · rcases List.mem_cons.mp hp with rfl | hp
        · exact N4 _ (.tail _ hB1)
        · exact N4 _ (.tail _ hp)
    clear N3 N4 F' N' hnD hs1 hs2 rn on tn
    dsimp only
    show wpAny _ _ _ _ _ _
    k_fold
    k_steps
    rename_i du hd1 l1d hd2 fX nX hR tkR tR1 tR2 tR3 rngR fR nR kR
    refine Stop.out ?_
    refine abs_tail nR ?_
    intro B2 hs1 hs2 nB
    have hb1 : (r1, W.listOf vs1.toArray c1) ∈ B2 := hs2 _ (by repeat (first | exact hB1 | refine List.Mem.tail _ ?_))
    have hb2 : ∀ p ∈ tl1, p ∈ B2 := fun p hp => hs2 _ (by repeat (first | exact hB2 p hp | refine List.Mem.tail _ ?_))
    have hb3 : (st, o') ∈ B2 := hs2 _ (by repeat (first | exact hB3 | refine List.Mem.tail _ ?_))
    have NB : News g L' hR B2 := fun p hp => nB p (.tail _ hp)
    obtain ⟨tkL, tvs, tc, ts, hm5, tm1, tm2, tm3, ok⟩ := tok_fact (st := st) (B := B2) (row := row) (most := most) (m_of fR rfl) (hs2 _ (by k_mem)) (by exact rfl)
      (TksIn.cons (tk_inS NB hb3 S' (hs2 _ (by k_mem)) (hs2 _ (by k_mem)) (hs2 _ (by k_mem))) (TksIn.cons (tk_inS NB hb3 S' (hs2 _ (by k_mem)) (hs2 _ (by k_mem)) (hs2 _ (by k_mem))) TksIn.nil))
      (form_2 (b0 := 0) hne ln3 hrs (by simp only [len_app]; omega) (by omega) (by omega))
    have hdn := lt_from hs1 l1d
    have htne : ∀ p ∈ tl1, p.1 ≠ du := fun p hp => hdn p (hb2 p hp)
    have hrd := neN (hdn _ hb1)
    dsimp only at hrd
    clear hB1 hB2 hB3 hs1 hs2 nR fX nX kR NB
    refine range_loop (n := rs.length) (DueJ st du r1 tkL row most B2 rs) hh rngR (small_one (by omega) (by omega) (by omega) (by omega)) (by rw [rangeSize_nat]; omega) fR nB ⟨[], 0, [], _, _, rfl, (by rw [List.take_zero]; exact .nil), (fun p h => nomatch h), (fun p h => nomatch h), Nat.le_refl _, rfl, rfl, rfl, rfl, hm5⟩ ?_ ?_
    · rintro i t m₁ nx h tk own hi hoff ⟨us, c, tl2, tr, tm, rfl, D2, hn2, hn4, hul, hm1, hm2, hm3, hm4, hm5⟩ F₁ N₁
      clear fR nB rngR ret
      have F' := fr_as (m' := fun y => if y = Str.ofString "at" then some (.int (0 + (i : Int)) t) else if y = Str.ofString "rows" then some (.ref r1) else if y = Str.ofString "row" then some (.int row tr) else if y = Str.ofString "most" then some (.int most tm) else if y = Str.ofString "due" then some (.ref du) else if y = Str.ofString "tokens" then some (.ref tkL) else m₁ y) F₁
        (fun y => by (try dsimp only)
                     split; · rfl
                     split; · rename_i e; rw [e, hm1]
                     split; · rename_i e; rw [e, hm2]
                     split; · rename_i e; rw [e, hm3]
                     split; · rename_i e; rw [e, hm4]
                     split; · rename_i e; rw [e, hm5]
                     rfl)
      clear F₁
      have ha1 : ∀ p ∈ (tl2 ++ B2) ++ own, p.1 ≠ du := fun p hp => by
        rcases List.mem_append.mp hp with hp | hp
        · rcases List.mem_append.mp hp with hp | hp
          · exact hn2 p hp
          · exact hdn p hp
        · exact hoff p hp du (by simp)
      have N2 : News g L' h ((r1, W.listOf vs1.toArray c1) :: (du, W.listOf us.toArray c) :: ((tl2 ++ B2) ++ own)) := fun p hp => by
        rcases List.mem_cons.mp hp with rfl | hp
        · exact N₁ _ (.tail _ (List.mem_append.mpr (.inl (List.mem_append.mpr (.inr hb1)))))
        · exact N₁ _ hp
      clear N₁
      show wpAny _ _ _ _ _ _
      k_fold
      k_steps
      all_goals first
        | (refine' due_end1 ?F ?N ?m1 ?m2 ?m3 ?m4 ?m5 D2 hn2 hn4 hul hoff ?hr ?hc; (case F => assumption); (case N => assumption); (case m1 => exact rfl); (case m2 => exact rfl); (case m3 => exact rfl); (case m4 => exact rfl); (case m5 => exact rfl); (case hr => assumption); (case hc => exact if_neg (by omega)))
        | (refine' due_end2 hb3 ?F ?N ?m1 ?m2 ?m3 ?m4 ?m5 D2 hn2 hn4 hul hoff ?hr ?hd ?hO ?he ?hc; (case F => assumption); (case N => assumption); (case m1 => exact rfl); (case m2 => exact rfl); (case m3 => exact rfl); (case m4 => exact rfl); (case m5 => exact rfl); (case hr => assumption); (case hd => assumption); (case hO => assumption); (case he => omega); (case hc => omega))
    · rintro m₁ nx h tk ⟨us, c, tl2, tr, tm, rfl, D2, hn2, hn4, hul, hm1, hm2, hm3, hm4, hm5⟩ F₁ N₁
      clear fR nB rngR
      have F' := fr_as (m' := fun y => if y = Str.ofString "due" then some (.ref du) else if y = Str.ofString "tokens" then some (.ref tkL) else m₁ y) F₁
        (fun y => by (try dsimp only)
                     split; · rename_i e; rw [e, hm4]
                     split; · rename_i e; rw [e, hm5]
                     rfl)
      clear F₁
      dsimp only
      k_steps
      show EndSt _ _ _ _ _ _ _ _ _ _ _
      have hin : ∀ p ∈ B2, ∀ x : Addr × Obj, p ∈ x :: (du, W.listOf us.toArray c) :: (tl2 ++ B2) := fun p hp x => .tail _ (.tail _ (List.mem_append.mpr (.inr hp)))
      refine' stmt_end ?F ?N (hin _ hb3 _) S' (.head _) (hin _ tm1 _) tm2 ?ht ?hd ok ret
      case F => assumption
      case N => assumption
      case ht => exact DatAll.mono (fun p hp => stX_mem (hin _ (stX_of hp).1 _) (stX_of hp).2) tm3
      case hd =>
        rw [List.take_length] at D2
        exact .list (stX_mem' (.tail _ (.head _)) (hdn _ hb3).symm) (D2.mono fun p hp => stX_mem (.tail _ (.tail _ (List.mem_append.mpr (.inl hp)))) (hn4 p hp))
  · show EndSt _ _ _ _ _ _ _ _ _ _ _
    refine' stmt_end ?F ?N ?st ?S ?r ?tk ?sn ?ht ?hd ?ok ret
    case F => assumption
    case N => assumption
    case st => k_mem
    case S => assumption
    case r => k_mem
    case tk => k_mem
    case sn => exact rfl
    case ht =>
      rename News _ _ _ _ => NX
      rename StO _ _ _ => SX
      exact TksIn.cons (tk_inS NX (by k_mem) SX (by k_mem) (by k_mem) (by k_mem)) (TksIn.cons (tk_inS NX (by k_mem) SX (by k_mem) (by k_mem) (by k_mem)) (TksIn.cons (tk_inS NX (by k_mem) SX (by k_mem) (by k_mem) (by k_mem)) (TksIn.cons (tk_inS NX (by k_mem) SX (by k_mem) (by k_mem) (by k_mem)) (TksIn.cons (tk_inS NX (by k_mem) SX (by k_mem) (by k_mem) (by k_mem)) (TksIn.nil)))))
    case hd => exact nil_inS (by assumption) (by k_mem) (by assumption) (by k_mem)
    case ok => (rename RemOk _ _ _ => RO; with_reducible refine form_3 ?_; have := RO.len; (try simp only [len_app]); omega)
  · show EndSt _ _ _ _ _ _ _ _ _ _ _
    refine' stmt_end ?F ?N ?st ?S ?r ?tk ?sn ?ht ?hd ?ok ret
    case F => assumption
    case N => assumption
    case st => first | exact List.Mem.head _ | exact List.Mem.tail _ (List.mem_append.mpr (.inr (by k_mem)))
    case S => assumption
    case r => first | exact List.Mem.head _ | exact List.Mem.tail _ (List.mem_append.mpr (.inr (by k_mem)))
    case tk => first | exact List.Mem.head _ | exact List.Mem.tail _ (List.mem_append.mpr (.inr (by k_mem)))
    case sn => exact rfl
    case ht =>
      rename News _ _ _ _ => NX
      rename StO _ _ _ => SX
      exact TksIn.cons (tk_inS NX (by first | exact List.Mem.head _ | exact List.Mem.tail _ (List.mem_append.mpr (.inr (by k_mem)))) SX (by first | exact List.Mem.head _ | exact List.Mem.tail _ (List.mem_append.mpr (.inr (by k_mem)))) (by first | exact List.Mem.head _ | exact List.Mem.tail _ (List.mem_append.mpr (.inr (by k_mem)))) (by first | exact List.Mem.head _ | exact List.Mem.tail _ (List.mem_append.mpr (.inr (by k_mem))))) (TksIn.cons (tk_inS NX (by first | exact List.Mem.head _ | exact List.Mem.tail _ (List.mem_append.mpr (.inr (by k_mem)))) SX (by first | exact List.Mem.head _ | exact List.Mem.tail _ (List.mem_append.mpr (.inr (by k_mem)))) (by first | exact List.Mem.head _ | exact List.Mem.tail _ (List.mem_append.mpr (.inr (by k_mem)))) (by first | exact List.Mem.head _ | exact List.Mem.tail _ (List.mem_append.mpr (.inr (by k_mem))))) (TksIn.cons (tk_inS NX (by first | exact List.Mem.head _ | exact List.Mem.tail _ (List.mem_append.mpr (.inr (by k_mem)))) SX (by first | exact List.Mem.head _ | exact List.Mem.tail _ (List.mem_append.mpr (.inr (by k_mem)))) (by first | exact List.Mem.head _ | exact List.Mem.tail _ (List.mem_append.mpr (.inr (by k_mem)))) (by first | exact List.Mem.head _ | exact List.Mem.tail _ (List.mem_append.mpr (.inr (by k_mem))))) (TksIn.cons (tk_inS NX (by first | exact List.Mem.head _ | exact List.Mem.tail _ (List.mem_append.mpr (.inr (by k_mem)))) SX (by first | exact List.Mem.head _ | exact List.Mem.tail _ (List.mem_append.mpr (.inr (by k_mem)))) (by first | exact List.Mem.head _ | exact List.Mem.tail _ (List.mem_append.mpr (.inr (by k_mem)))) (by first | exact List.Mem.head _ | exact List.Mem.tail _ (List.mem_append.mpr (.inr (by k_mem))))) (TksIn.cons (tk_inS NX (by first | exact List.Mem.head _ | exact List.Mem.tail _ (List.mem_append.mpr (.inr (by k_mem)))) SX (by first | exact List.Mem.head _ | exact List.Mem.tail _ (List.mem_append.mpr (.inr (by k_mem)))) (by first | exact List.Mem.head _ | exact List.Mem.tail _ (List.mem_append.mpr (.inr (by k_mem)))) (by first | exact List.Mem.head _ | exact List.Mem.tail _ (List.mem_append.mpr (.inr (by k_mem))))) (TksIn.cons (tk_inS NX (by first | exact List.Mem.head _ | exact List.Mem.tail _ (List.mem_append.mpr (.inr (by k_mem)))) SX (by first | exact List.Mem.head _ | exact List.Mem.tail _ (List.mem_append.mpr (.inr (by k_mem)))) (by first | exact List.Mem.head _ | exact List.Mem.tail _ (List.mem_append.mpr (.inr (by k_mem)))) (by first | exact List.Mem.head _ | exact List.Mem.tail _ (List.mem_append.mpr (.inr (by k_mem))))) (TksIn.cons (tk_inS NX (by first | exact List.Mem.head _ | exact List.Mem.tail _ (List.mem_append.mpr (.inr (by k_mem)))) SX (by first | exact List.Mem.head _ | exact List.Mem.tail _ (List.mem_append.mpr (.inr (by k_mem)))) (by first | exact List.Mem.head _ | exact List.Mem.tail _ (List.mem_append.mpr (.inr (by k_mem)))) (by first | exact List.Mem.head _ | exact List.Mem.tail _ (List.mem_append.mpr (.inr (by k_mem))))) (TksIn.cons (tk_inS NX (by first | exact List.Mem.head _ | exact List.Mem.tail _ (List.mem_append.mpr (.inr (by k_mem)))) SX (by first | exact List.Mem.head _ | exact List.Mem.tail _ (List.mem_append.mpr (.inr (by k_mem)))) (by first | exact List.Mem.head _ | exact List.Mem.tail _ (List.mem_append.mpr (.inr (by k_mem)))) (by first | exact List.Mem.head _ | exact List.Mem.tail _ (List.mem_append.mpr (.inr (by k_mem))))) (TksIn.cons (tk_inS NX (by first | exact List.Mem.head _ | exact List.Mem.tail _ (List.mem_append.mpr (.inr (by k_mem)))) SX (by first | exact List.Mem.head _ | exact List.Mem.tail _ (List.mem_append.mpr (.inr (by k_mem)))) (by first | exact List.Mem.head _ | exact List.Mem.tail _ (List.mem_append.mpr (.inr (by k_mem)))) (by first | exact List.Mem.head _ | exact List.Mem.tail _ (List.mem_append.mpr (.inr (by k_mem))))) (TksIn.nil)))))))))
    case hd => (rename DatIn _ (Value.ref _) (Dat.list (dueD _ _ _ _ _)) => RX; rename (∀ (p : Addr × Obj), p ∈ _ → ∀ (q : Addr × Obj), q ∈ _ → q.fst ≠ p.fst) => OX; exact due_mono RX OX (by k_mem))
    case ok => (rename RemOk _ _ _ => RO; have := RO.len; with_reducible refine form_4 RO mb ?_ ?_ hr0 <;> ((try simp only [len_app]); omega))
  · show EndSt _ _ _ _ _ _ _ _ _ _ _
    refine' stmt_end ?F ?N ?st ?S ?r ?tk ?sn ?ht ?hd ?ok ret
    case F => assumption
    case N => assumption
    case st => k_mem
    case S => assumption
    case r => k_mem
    case tk => k_mem
    case sn => exact rfl
    case ht =>
      rename News _ _ _ _ => NX
      rename StO _ _ _ => SX
      exact TksIn.cons (tk_inS NX (by k_mem) SX (by k_mem) (by k_mem) (by k_mem)) (TksIn.cons (tk_inS NX (by k_mem) SX (by k_mem) (by k_mem) (by k_mem)) (TksIn.cons (tk_inS NX (by k_mem) SX (by k_mem) (by k_mem) (by k_mem)) (TksIn.cons (tk_inS NX (by k_mem) SX (by k_mem) (by k_mem) (by k_mem)) (TksIn.nil))))
    case hd => exact nil_inS (by assumption) (by k_mem) (by assumption) (by k_mem)
    case ok => (have := len_le one_e (v := _) (by assumption); with_reducible refine form_5 (f1 := 0) ?_ ?_ ?_ <;> ((try simp only [len_app]); omega))
  · show EndSt _ _ _ _ _ _ _ _ _ _ _
    refine' stmt_end ?F ?N ?st ?S ?r ?tk ?sn ?ht ?hd ?ok ret
    case F => assumption
    case N => assumption
    case st => k_mem
    case S => assumption
    case r => k_mem
    case tk => k_mem
    case sn => exact rfl
    case ht =>
      rename News _ _ _ _ => NX
      rename StO _ _ _ => SX
      exact TksIn.cons (tk_inS NX (by k_mem) SX (by k_mem) (by k_mem) (by k_mem)) (TksIn.cons (tk_inS NX (by k_mem) SX (by k_mem) (by k_mem) (by k_mem)) (TksIn.nil))
    case hd => exact nil_inS (by assumption) (by k_mem) (by assumption) (by k_mem)
    case ok => with_reducible exact form_6' (by assumption) (by assumption) (by assumption)
  · show EndSt _ _ _ _ _ _ _ _ _ _ _
    refine' stmt_end ?F ?N ?st ?S ?r ?tk ?sn ?ht ?hd ?ok ret
    case F => assumption
    case N => assumption
    case st => first | exact List.Mem.head _ | exact List.Mem.tail _ (List.mem_append.mpr (.inr (by k_mem)))
    case S => assumption
    case r => first | exact List.Mem.head _ | exact List.Mem.tail _ (List.mem_append.mpr (.inr (by k_mem)))
    case tk => first | exact List.Mem.head _ | exact List.Mem.tail _ (List.mem_append.mpr (.inr (by k_mem)))
    case sn => exact rfl
    case ht =>
      rename News _ _ _ _ => NX
      rename StO _ _ _ => SX
      exact TksIn.cons (tk_inS NX (by first | exact List.Mem.head _ | exact List.Mem.tail _ (List.mem_append.mpr (.inr (by k_mem)))) SX (by first | exact List.Mem.head _ | exact List.Mem.tail _ (List.mem_append.mpr (.inr (by k_mem)))) (by first | exact List.Mem.head _ | exact List.Mem.tail _ (List.mem_append.mpr (.inr (by k_mem)))) (by first | exact List.Mem.head _ | exact List.Mem.tail _ (List.mem_append.mpr (.inr (by k_mem))))) (TksIn.cons (tk_inS NX (by first | exact List.Mem.head _ | exact List.Mem.tail _ (List.mem_append.mpr (.inr (by k_mem)))) SX (by first | exact List.Mem.head _ | exact List.Mem.tail _ (List.mem_append.mpr (.inr (by k_mem)))) (by first | exact List.Mem.head _ | exact List.Mem.tail _ (List.mem_append.mpr (.inr (by k_mem)))) (by first | exact List.Mem.head _ | exact List.Mem.tail _ (List.mem_append.mpr (.inr (by k_mem))))) (TksIn.nil))
    case hd => (rename DatIn _ (Value.ref _) (Dat.list (dueD _ _ _ _ _)) => RX; rename (∀ (p : Addr × Obj), p ∈ _ → ∀ (q : Addr × Obj), q ∈ _ → q.fst ≠ p.fst) => OX; exact due_mono RX OX (by k_mem))
    case ok => with_reducible exact form_6 (by assumption) (by assumption) (by assumption)
end Mine
-- part MSeg
namespace Mine
open PySem.Sem (wrap)
section
variable {M : Model} {A : Around} {R : GenEnd} {Y : Protocol} {n : Nat} {s₀ : Shared} {c : Code} {fs : List Frame} {s : Shared} {env : Env}
  {K : Flow → Sem Fin} {H : Value → Sem Fin} {gd : Bool → Bool} {lv : List Value → List Value}
/-- nothing is raised -/
abbrev noE : Value → Shared → Prop := fun _ _ => False
theorem seg_stmt {st : Stmt} {rest : List Stmt}
    (h : wpAny M (A.over c fs) (exec st env) (fun f s' => match f with
      | .next => Seg M A R Y n s₀ c ((execs rest env).wrap K H gd lv) fs s'
      | f => Seg M A R Y n s₀ c (K f) fs s') noE s) :
    Seg M A R Y n s₀ c ((execs (st :: rest) env).wrap K H gd lv) fs s := by
  refine seg_execs_cons (seg_wrap (wpAny_mono h (fun f s' hf => ?_) fun _ _ x => x.elim))
  cases f <;> exact hf
theorem seg_last {f : Flow} (h : Seg M A R Y n s₀ c (K f) fs s) : Seg M A R Y n s₀ c ((match f with | .next => (execs [] env).wrap K H gd lv | f => K f)) fs s := by
  cases f <;> exact h
theorem seg_If {test : Expr} {body orelse rest : List Stmt} {pos : Pos}
    (h : wpAny M (A.over c fs) (isTrue test env (eval test env)) (fun b s' => if b = true
      then Seg M A R Y n s₀ c ((execs body env).wrap (fun f => match f with | .next => (execs rest env).wrap K H gd lv | f => K f) H gd lv) fs s'
      else Seg M A R Y n s₀ c ((execs orelse env).wrap (fun f => match f with | .next => (execs rest env).wrap K H gd lv | f => K f) H gd lv) fs s') noE s) :
    Seg M A R Y n s₀ c ((execs (.If test body orelse pos :: rest) env).wrap K H gd lv) fs s := by
  refine seg_execs_cons ?_
  show Seg M A R Y n s₀ c (.at pos fun _ => ((isTrue test env (eval test env) >>= fun b => if b = true then execs body env else execs orelse env)).wrap _ H gd lv) fs s
  refine seg_at ?_
  rw [Sem.bind_eq_wrap', Sem.wrap_wrap]
  refine seg_wrap (wpAny_mono h (fun b s' hb => ?_) fun _ _ x => x.elim)
  cases b <;> exact hb
def ownK (env : Env) (K : Flow → Sem Fin) (H : Value → Sem Fin) (gd : Bool → Bool) (lv : List Value → List Value) : Result → Sem Fin := fun r =>
  ((match r with | .ok f => (.pure f : Sem Flow) | .error e => .raise e).onRaise fun (x : Value) => do
        if (← field x 1) == Value.none then unsupported "frame.own-activation:exception-without-traceback"
        setFlight x env.frame).wrap K H gd lv
theorem seg_For {target iter : Expr} {body orelse rest : List Stmt} {pos : Pos}
    (h : wpAny M (A.over c fs) (eval iter env) (fun x s₁ => wpAny M (A.over c fs) (pyIter x) (fun it s₂ =>
      ∀ p, Seg M A R Y n s₀ (.forLoop target it body orelse env) (M.den (.forLoop target it body orelse env))
        (.ret (ownK env (fun f => match f with | .next => (execs rest env).wrap K H gd lv | f => K f) H gd lv) none (gd false) (lv []) c p [] :: fs) s₂) noE s₁) noE s)
    (hs : ∀ x, foldedSetIterable iter env x = pure x := by intro _; rfl) :
    Seg M A R Y n s₀ c ((execs (.For target iter body orelse pos :: rest) env).wrap K H gd lv) fs s := by
  refine seg_execs_cons ?_
  rw [exec_For]
  refine seg_at ?_
  show Seg M A R Y n s₀ c ((eval iter env >>= fun v => foldedSetIterable iter env v >>= fun x => standAt iter.pos >>= fun _ => holding [x] (pyIter x) >>= fun it => runOwn (.forLoop target it body orelse env) env).wrap _ H gd lv) fs s
  rw [Sem.bind_eq_wrap', Sem.wrap_wrap]
  refine seg_wrap (wpAny_mono h (fun x s₁ h₁ => ?_) fun _ _ x => x.elim)
  rw [hs x]
  show Seg M A R Y n s₀ c ((standAt iter.pos >>= fun _ => holding [x] (pyIter x) >>= fun it => runOwn (.forLoop target it body orelse env) env).wrap _ H gd lv) fs s₁
  refine seg_at ?_
  show Seg M A R Y n s₀ c ((holding [x] (pyIter x) >>= fun it => runOwn (.forLoop target it body orelse env) env).wrap _ H gd lv) fs s₁
  rw [Sem.bind_eq_wrap', Sem.wrap_wrap]
  refine seg_wrap (wpAny_mono (wpAny_holding h₁) (fun it s₂ h₂ => ?_) fun _ _ x => x.elim)
  exact seg_call h₂
end
section
variable {prog : Program} {w : World} {A : Around} {R : GenEnd} {Y : Protocol} {n : Nat} {s₀ : Shared} {fs : List Frame} {s : Shared} {env : Env}
/-- what a loop's body ends in -/
def turnK (target : Expr) (it : Value) (body orelse : List Stmt) (env : Env) : Flow → Sem Fin := fun f => match f with
  | .next | .cont => .pure (.again (.forLoop target it body orelse env))
  | .brk => .pure (.done .next)
  | .ret v => .pure (.done (.ret v))
def turnH (env : Env) : Value → Sem Fin := fun e => (do noteFrame e env; theTreesLotGoes e : Sem Unit).wrap (fun _ => .raise e) .raise id id
theorem seg_forLoop {target : Expr} {it : Value} {body orelse : List Stmt}
    (h : wpAny (model prog w) (A.over (.forLoop target it body orelse env) fs) (pyNext it) (fun o s₁ => match o with
      | none => Seg (model prog w) A R Y n s₀ (.forLoop target it body orelse env) (.pure (.again (.block orelse env))) fs s₁
      | some v => wpAny (model prog w) (A.over (.forLoop target it body orelse env) fs) (letOwnedTupleGo target it v) (fun _ s₂ =>
          wpAny (model prog w) (A.over (.forLoop target it body orelse env) fs) (assign target env v) (fun _ s₃ =>
            Seg (model prog w) A R Y n s₀ (.forLoop target it body orelse env) ((execs body env).wrap (turnK target it body orelse env) (turnH env) id id) fs s₃) noE s₂) noE s₁) noE s) :
    Seg (model prog w) A R Y n s₀ (.forLoop target it body orelse env) ((model prog w).den (.forLoop target it body orelse env)) fs s := by
  show Seg _ A R Y n s₀ _ ((forTurn target it body orelse env).onRaise (fun x => do noteFrame x env; theTreesLotGoes x)) fs s
  unfold forTurn
  rw [Sem.onRaise_eq_wrap]
  refine seg_at ?_
  show Seg _ A R Y n s₀ _ (Sem.wrap _ _ _ _ ((pyNext it).onRaise _ >>= _)) fs s
  rw [Sem.bind_eq_wrap', Sem.wrap_wrap]
  refine seg_wrap (wpAny_onRaise (wpAny_mono h (fun o s₁ h₁ => ?_) fun _ _ x => x.elim))
  cases o with
  | none => exact h₁
  | some v =>
    show Seg _ A R Y n s₀ _ (Sem.wrap _ _ _ _ (letOwnedTupleGo target it v >>= _)) fs s₁
    rw [Sem.bind_eq_wrap', Sem.wrap_wrap]
    refine seg_wrap (wpAny_mono h₁ (fun _ s₂ h₂ => ?_) fun _ _ x => x.elim)
    show Seg _ A R Y n s₀ _ (Sem.wrap _ _ _ _ (assign target env v >>= _)) fs s₂
    rw [Sem.bind_eq_wrap', Sem.wrap_wrap]
    refine seg_wrap (wpAny_mono h₂ (fun _ s₃ h₃ => ?_) fun _ _ x => x.elim)
    show Seg _ A R Y n s₀ _ (Sem.wrap _ _ _ _ (execs body env >>= _)) fs s₃
    rw [Sem.bind_eq_wrap', Sem.wrap_wrap]
    rw [Sem.wrap_congr (execs body env) _ _ (K' := turnK target it body orelse env) (H' := turnH env) (fun f => by cases f <;> rfl)
      (fun e => by unfold turnH; first | exact Sem.bind_eq_wrap _ _ | (show (do noteFrame e env; theTreesLotGoes e : Sem Unit).bind (fun _ => .raise e) = _; rw [Sem.bind_eq_wrap]) | rfl)]
    exact h₃
theorem seg_block_nil {k hd g l c₁ p₁ kp} (h : Seg (model prog w) A R Y n s₀ c₁ (k (.ok .next)) fs s) {c : Code} :
    Seg (model prog w) A R Y n s₀ c (.pure (.again (.block [] env))) (.ret k hd g l c₁ p₁ kp :: fs) s := by
  refine seg_again rfl ?_
  exact seg_leaf (.ok .next) h
end
end Mine
-- part MList
namespace Mine
abbrev lstO (acc : Array Value) (c : Nat) : Obj := { cls := .type "list", dict := none, data := .seq acc c, slots := #[] }
section
variable {prog : Program} {w : World} {A : Around} {R : Result → Shared → Prop}
/-- what a drain needs: an item, the end -/
structure Drain (prog : Program) (w : World) (A : Around) (I S : Addr) (n : Nat) (St : Nat → Shared → Prop) (Fin : Shared → Prop) : Prop where
  small : n < 100000
  item : ∀ i s (Q : Option Value → Shared → Prop), i < n → St i s → (∀ v s₁ acc c, s₁.heap.get? S = some (lstO acc c) → acc.size = i →
      (∀ h₂ c₂, h₂.get? S = some (lstO (acc.push v) c₂) → (∀ b o, b ≠ S → s₁.heap.get? b = some o → h₂.get? b = some o) → St (i + 1) { s₁ with heap := h₂ }) → Q (some v) s₁) →
    wpAny (model prog w) A (pyNext (.ref I)) Q noE s
  done : ∀ s (Q : Option Value → Shared → Prop), St n s → (∀ s₁, Fin s₁ → Q none s₁) → wpAny (model prog w) A (pyNext (.ref I)) Q noE s
variable {I S : Addr} {n : Nat} {St : Nat → Shared → Prop} {Fin : Shared → Prop}
theorem extend_own (D : Drain prog w A.in1 I S n St Fin) (res : Value) (hR : ∀ s₁, Fin s₁ → R (.ok (.ret res)) s₁) :
    ∀ (k i : Nat) (s : Shared), n - i = k → i ≤ n → St i s → codeAny (model prog w) A (.builtin "list.extend.loop" ⟨[.ref S, .ref I, res], []⟩) R s := by
  intro k
  have hsz : 100000 < sizeLine := by rw [sizeLine_eq]; decide
  have hsm := D.small
  induction k with
  | zero =>
    intro i s hk hi hst
    obtain rfl : i = n := by omega
    refine codeAny_builtin F.entry_extend_loop ?_
    rw [Around.under_plainId F.plain_extend_loop _]
    show wpAny _ A.in1 (pyNext (.ref I) >>= _) _ _ s
    exact wpAny_bind (wpAny_mono (D.done s (fun o s₁ => o = none ∧ Fin s₁) hst fun s₁ hf => ⟨rfl, hf⟩) (fun o s₁ h => by
      obtain ⟨rfl, hf⟩ := h
      exact wpAny_pure (hR s₁ hf)) fun _ _ x => x.elim)
  | succ k ih =>
    intro i s hk hi hst
    have hlt : i < n := by omega
    refine codeAny_builtin F.entry_extend_loop ?_
    rw [Around.under_plainId F.plain_extend_loop _]
    show wpAny _ A.in1 (pyNext (.ref I) >>= _) _ _ s
    refine wpAny_bind (wpAny_mono (D.item i s (fun o s₁ => ∃ v acc c, o = some v ∧ s₁.heap.get? S = some (lstO acc c) ∧ acc.size = i ∧
      (∀ h₂ c₂, h₂.get? S = some (lstO (acc.push v) c₂) → (∀ b o, b ≠ S → s₁.heap.get? b = some o → h₂.get? b = some o) → St (i + 1) { s₁ with heap := h₂ })) hlt hst
      fun v s₁ acc c hS ha hn => ⟨v, acc, c, rfl, hS, ha, hn⟩) (fun o s₁ h => ?_) fun _ _ x => x.elim)
    obtain ⟨v, acc, c, rfl, hS, ha, hn⟩ := h
    show wpAny _ A.in1 (updateSeq S (·.push v) >>= _) _ _ _
    refine wpAny_bind ?_
    refine wpAny_updateSeq hS rfl (wpAny_pure ⟨plainId_quiet F.plain_extend_loop _, ih (i + 1) _ (by omega) hlt (hn _ _ (Heap.get?_update_self _ hS rfl) fun b o hb e => (Heap.get?_update_other _ _ (Ne.symm hb)).trans e)⟩)
      (by rw [ha]; omega) (by show (acc.push v).size ≤ sizeLine + 1; rw [Array.size_push, ha]; omega)
theorem list_init_own (D : Drain prog w A.in1 I S n St Fin) {s : Shared} {g : Nat} (hg : s.heap.IsGen I g) (hSI : S ≠ I) (res : Value)
    (hS : s.heap.get? S = some { cls := .type "list", data := .seq #[] })
    (start : ∀ h₁ c₁, h₁.get? S = some (lstO #[] c₁) → (∀ b o, b ≠ S → s.heap.get? b = some o → h₁.get? b = some o) → St 0 { s with heap := h₁ })
    (hR : ∀ s₁, Fin s₁ → R (.ok (.ret .none)) s₁) :
    wpAny (model prog w) A.in1 (Builtin.«list.__init__» ⟨[.ref S, .ref I], []⟩)
      (fun fin s' => match fin with | .done f => R (.ok f) s' | .again c' => c'.quiet = true ∧ codeAny (model prog w) A c' R s') (fun e s' => R (.error e) s') s := by
  show wpAny _ A.in1 (do let old ← Builtin.List.listItems (.ref S); Builtin.List.listUpdate (.ref S) (fun _ => #[]); letGo old.toList.reverse; Builtin.List.listExtendWith (.ref S) (.ref I) .none) _ _ s
  refine wpAny_bind ?_
  unfold Builtin.List.listItems
  refine wpAny_bind (wpAny_seqItems hS rfl (wpAny_pure ?_))
  show wpAny _ A.in1 (updateSeq S (fun _ => #[]) >>= fun _ => letGo (#[] : Array Value).toList.reverse >>= fun _ => Builtin.List.listExtendWith (.ref S) (.ref I) .none) _ _ s
  refine wpAny_bind (wpAny_updateSeq hS rfl ?_)
  have hS₁ := Heap.get?_update_self (Obj.mapSeq (fun _ => (#[] : Array Value))) hS rfl
  have oth : ∀ b o, b ≠ S → s.heap.get? b = some o → (s.heap.update S (Obj.mapSeq (fun _ => (#[] : Array Value)))).get? b = some o :=
    fun b o hb e => (Heap.get?_update_other _ _ (Ne.symm hb)).trans e
  refine wpAny_bind (wpAny_letGo ?_)
  have hg₁ : (s.heap.update S (Obj.mapSeq (fun _ => (#[] : Array Value)))).IsGen I g := by
    obtain ⟨o, nm, qn, ho, r⟩ := hg
    exact ⟨o, nm, qn, oth I o (Ne.symm hSI) ho, r⟩
  unfold Builtin.List.listExtendWith
  refine wpAny_bind (wpAny_typeOf hg₁.typeIs ?_)
  have h1 : Builtin.List.listSameRef (.ref S) (.ref I) = false := by simp [Builtin.List.listSameRef, hSI]
  have h2 : (Value.type "generator" == Value.type "list") = false := by decide
  have h3 : (Value.type "generator" == Value.type "tuple") = false := by decide
  simp only [h1, h2, h3, Bool.or_false, Bool.false_eq_true, if_false]
  refine wpAny_bind (wpAny_pyIter_gen hg₁ ?_)
  refine wpAny_bind (wpAny_holding ?_)
  unfold Builtin.List.listLengthHint
  refine wpAny_bind (wpAny_specialOf hg₁.typeIs F.gen_no_len ?_)
  show wpAny _ A.in1 (specialOf (Value.ref I) (Str.ofString "__length_hint__") >>= _) _ _ _
  refine wpAny_bind (wpAny_specialOf hg₁.typeIs F.gen_no_hint ?_)
  refine wpAny_pure ?_
  show wpAny _ A.in1 (rule "list.extend.makes-room" >>= fun _ => Builtin.List.listTouch (.ref S) >>= fun _ =>
    again (.builtin "list.extend.loop" ⟨[.ref S, .ref I, .none], []⟩)) _ _ _
  refine wpAny_bind (wpAny_rule ?_)
  refine wpAny_bind ?_
  show wpAny _ A.in1 (updateSeq S (·.push .none) >>= fun _ => updateSeq S (·.pop)) _ _ _
  refine wpAny_bind (wpAny_updateSeq hS₁ rfl ?_)
  have hS₂ := Heap.get?_update_self (Obj.mapSeq (·.push Value.none)) hS₁ rfl
  refine wpAny_updateSeq (hz := by seq_fits) hS₂ rfl ?_
  have hS₃ := Heap.get?_update_self (Obj.mapSeq (·.pop)) hS₂ rfl
  refine wpAny_pure ⟨plainId_quiet F.plain_extend_loop _, extend_own D .none hR n 0 _ rfl (Nat.zero_le _) (start _ _ hS₃ fun b o hb e => ?_)⟩
  exact (Heap.get?_update_other _ _ (Ne.symm hb)).trans ((Heap.get?_update_other _ _ (Ne.symm hb)).trans (oth b o hb e))
end
section
variable {prog : Program} {w : World} {A : Around} {E : Value → Shared → Prop} {s : Shared} {I : Addr} {n : Nat} {St : Nat → Shared → Prop} {Fin : Shared → Prop}
theorem call_list_own {Q : Value → Shared → Prop} (D : Drain prog w A.in1.in1 I s.heap.objs.size n St Fin) {g : Nat} (hg : s.heap.IsGen I g)
    (start : ∀ h₁ c₁, h₁.get? s.heap.objs.size = some (lstO #[] c₁) → (∀ b o, b ≠ s.heap.objs.size → s.heap.get? b = some o → h₁.get? b = some o) → St 0 { s with heap := h₁ })
    (hQ : ∀ s₁, Fin s₁ → Q (.ref s.heap.objs.size) s₁) :
    wpAny (model prog w) A (call (.type "list") [.ref I]) Q E s := by
  have hSI : s.heap.objs.size ≠ I := by
    obtain ⟨o, _, _, ho, _⟩ := hg
    exact fun e => Nat.lt_irrefl _ (e ▸ Heap.lt_size ho)
  refine callType_codes (Q₁ := fun obj s₁ => obj = .ref s.heap.objs.size ∧ s₁ = { s with heap := s.heap.push { cls := .type "list", data := .seq #[] } }) F.called_list (F.typeCall_list_1 _) F.entry_list_init
    (code_list_new _ ⟨rfl, rfl⟩) fun obj s₁ h₁ => ?_
  obtain ⟨rfl, rfl⟩ := h₁
  have hS : (s.heap.push { cls := .type "list", data := .seq #[] }).get? s.heap.objs.size = some { cls := .type "list", data := .seq #[] } := Heap.get?_push_size _ rfl
  refine ⟨⟨_, hS, rfl⟩, F.args_list_init_2 _ _, list_init_own D (hg.push _) hSI .none hS (fun h₁ c₁ h2 h3 => ?_) fun s₁ hf => ⟨rfl, hQ s₁ hf⟩⟩
  exact start h₁ c₁ h2 fun b o hb e => h3 b o hb (Heap.get?_push_of_some _ e)
end
end Mine
-- part MGen
namespace Mine
/-- what stays the same while a generator runs: its number, the other generators, what the world gave -/
structure Same (gi : Nat) (z s : Shared) : Prop where
  size : s.gens.size = z.gens.size
  gens : ∀ k, k ≠ gi → s.gens[k]? = z.gens[k]?
  drawn : s.drawn = z.drawn
  os : s.os = z.os
theorem Same.refl (gi : Nat) (z : Shared) : Same gi z z := ⟨rfl, fun _ _ => rfl, rfl, rfl⟩
theorem Same.heap {gi : Nat} {z s : Shared} (h : Same gi z s) (h' : Heap) (tk : Nat) : Same gi z { s with heap := h', toks := tk } := ⟨h.size, h.gens, h.drawn, h.os⟩
theorem Same.set {gi : Nat} {z s : Shared} (h : Same gi z s) (x : GenState) : Same gi z (s.setGen gi x) :=
  ⟨by simp [Shared.setGen, h.size], fun k hk => by simp [Shared.setGen, Ne.symm hk, h.gens k hk], h.drawn, h.os⟩
/-- the list under way holds what has been yielded -/
structure Held (g : Heap) (L S a gi : Nat) (z : Shared) (acc : List Value) (ds : List Dat) (tl : List (Addr × Obj)) (m : Str → Option Value) (c : Nat) (s : Shared) : Prop where
  fr : Fr g L s.heap m
  news : News g L s.heap ((S, lstO acc.toArray c) :: tl)
  off : ∀ p ∈ tl, p.1 ≠ S
  dat : DatAll tl acc ds
  gen : s.heap.IsGen a gi
  ne : a ≠ S
  same : Same gi z s
def HeldAt (g : Heap) (L S a gi : Nat) (z : Shared) (ds : List Dat) (s : Shared) : Prop := ∃ acc tl m c, Held g L S a gi z acc ds tl m c s
/-- the state from which a generator goes on after a yield: the list has taken the value -/
structure After (gi S : Nat) (s : Shared) (acc : List Value) (v : Value) (s' : Shared) : Prop where
  list : ∃ c₂, s'.heap.get? S = some (lstO (acc ++ [v]).toArray c₂)
  keep : ∀ b o, b ≠ S → s.heap.get? b = some o → s'.heap.get? b = some o
  same : Same gi s s'
  toks : s'.toks = s.toks
def genR (g : Heap) (L S a gi : Nat) (z : Shared) (D : List Dat) : GenEnd := fun k _ r s₁ => r = .ok (.ret .none) ∧ (k = 0 ∧ HeldAt g L S a gi z D s₁)
def genY (g : Heap) (L S a gi : Nat) (z : Shared) (D : List Dat) : Protocol := fun k _ v s kap =>
  ∃ acc tl m c d, Held g L S a gi z acc (D.take (D.length - 1 - k)) tl m c s ∧ D[D.length - 1 - k]? = some d ∧ DatIn tl v d ∧ ∀ s', After gi S s acc v s' → kap (.send .none) s'
theorem Held.after {g : Heap} {L S a gi : Nat} {z s s' : Shared} {acc : List Value} {ds : List Dat} {tl : List (Addr × Obj)} {m : Str → Option Value} {c : Nat} {v : Value} {d : Dat} (H : Held g L S a gi z acc ds tl m c s) (hd : DatIn tl v d) (ha : After gi S s acc v s') :
    ∃ c₂, Held g L S a gi z (acc ++ [v]) (ds ++ [d]) tl m c₂ s' := by
  obtain ⟨c₂, h2⟩ := ha.list
  have hS := H.news _ (.head _)
  have hgS : ∀ b o, g.get? b = some o → b ≠ S := fun b o e => by
    rintro rfl; rw [hS.2.2] at e; cases e
  refine ⟨c₂, ⟨⟨H.fr.ns.at' fun o e => ha.keep _ o (Ne.symm hS.2.1) e, fun b o e => ha.keep b o (hgS b o e) (H.fr.keep b o e), H.fr.above⟩, ?_, H.off, H.dat.append (.one hd), ?_, H.ne, ⟨ha.same.size.trans H.same.size, fun k hk => (ha.same.gens k hk).trans (H.same.gens k hk), ha.same.drawn.trans H.same.drawn, ha.same.os.trans H.same.os⟩⟩⟩
  · intro p hp
    rcases List.mem_cons.mp hp with rfl | hp
    · exact ⟨h2, hS.2⟩
    · have := H.news p (.tail _ hp)
      exact ⟨ha.keep _ _ (H.off p hp) this.1, this.2⟩
  · obtain ⟨o, nm, qn, ho, r⟩ := H.gen
    exact ⟨o, nm, qn, ha.keep _ _ H.ne ho, r⟩
section
variable {prog : Program} {w : World} {A : Around}
def DrSt (prog : Program) (w : World) (A : Around) (g : Heap) (L S a gi : Nat) (z : Shared) (D : List Dat) (i : Nat) (s : Shared) : Prop :=
  HeldAt g L S a gi z (D.take i) s ∧ ∃ gs, s.gens[gi]? = some gs ∧ gs.Goes (model prog w) A.in1 (genR g L S a gi z D) (genY g L S a gi z D) (D.length - i) (.send .none) (s.setGen gi .running)
theorem drain_gen {g : Heap} {L S a gi : Nat} {z : Shared} {D : List Dat} (hh : A.handled = none) (hl : g.NoLimit) (hroom : A.depth < recursionLimit) (hn : D.length < 100000) :
    Drain prog w A a S D.length (DrSt prog w A g L S a gi z D) (fun s => HeldAt g L S a gi z D s ∧ s.gens[gi]? = some .finished) where
  small := hn
  item := fun i s Q hi hst hQ => by
    obtain ⟨⟨acc, tl, m, c, H⟩, gs, hgs, hgo⟩ := hst
    have hlt : gi < s.gens.size := by
      rcases Nat.lt_or_ge gi s.gens.size with h' | h'
      · exact h'
      · rw [Array.getElem?_eq_none h'] at hgs; cases hgs
    obtain ⟨k, hk⟩ : ∃ k, D.length - i = k + 1 := ⟨D.length - i - 1, by omega⟩
    rw [hk] at hgo
    refine wpAny_pyNext_gen (n := k + 1) (P := fun k _ s₁ => k = 0 ∧ HeldAt g L S a gi z D s₁) hh (hl.keeps H.fr.keep) hroom H.gen hgs hgo (fun v s₁ gs' hv => ?_) (fun s₁ hp h' hk' => absurd hp.1 (Nat.succ_ne_zero k))
    obtain ⟨acc', tl', m', c', d, H', hd, hdi, hkap⟩ := hv
    have hidx : D.length - 1 - (k + 1 - 1) = i := by omega
    rw [hidx] at hd H'
    have hlen : acc'.length = i := by rw [H'.dat.length, List.length_take]; omega
    have hS := H'.news _ (.head _)
    have hlt1 : gi < s₁.gens.size := by rw [H'.same.size, ← H.same.size]; exact hlt
    refine hQ v _ acc'.toArray c' hS.1 (by simpa using hlen) fun h₂ c₂ h2 h3 => ?_
    have ha : After gi S s₁ acc' v { s₁.setGen gi gs' with heap := h₂ } := ⟨⟨c₂, by rw [h2]; simp⟩, h3, ((Same.refl gi s₁).set gs').heap h₂ s₁.toks, rfl⟩
    obtain ⟨c₃, H2⟩ := H'.after hdi ha
    have hds : D.take i ++ [d] = D.take (i + 1) := by rw [List.take_add_one, hd]; rfl
    rw [hds] at H2
    have ha2 : After gi S s₁ acc' v ({ s₁.setGen gi gs' with heap := h₂ }.setGen gi .running) := ⟨⟨c₂, by show h₂.get? S = _; rw [h2]; simp⟩, fun b o hb e => h3 b o hb e, (((Same.refl gi s₁).set gs').heap h₂ s₁.toks).set .running, rfl⟩
    have hfin := hkap _ ha2
    refine ⟨⟨_, _, _, _, H2⟩, gs', ?_, ?_⟩
    · show (s₁.setGen gi gs').gens[gi]? = _
      simp [Shared.setGen, hlt1]
    · have e : D.length - (i + 1) = k := by omega
      rw [e]
      exact hfin
  done := fun s Q hst hQ => by
    obtain ⟨⟨acc, tl, m, c, H⟩, gs, hgs, hgo⟩ := hst
    have hlt : gi < s.gens.size := by
      rcases Nat.lt_or_ge gi s.gens.size with h' | h'
      · exact h'
      · rw [Array.getElem?_eq_none h'] at hgs; cases hgs
    rw [Nat.sub_self] at hgo
    refine wpAny_pyNext_gen (n := 0) (P := fun k _ s₁ => k = 0 ∧ HeldAt g L S a gi z D s₁) hh (hl.keeps H.fr.keep) hroom H.gen hgs hgo (fun v s₁ gs' hv => ?_) (fun s₁ hp h' hk' => ?_)
    · obtain ⟨acc', tl', m', c', d, H', hd, hdi, hkap⟩ := hv
      have ha : After gi S s₁ acc' v { s₁ with heap := s₁.heap.update S (Obj.mapSeq (·.push v)) } :=
        ⟨⟨_, by rw [Heap.get?_update_self _ (H'.news _ (.head _)).1 rfl]; simp [Obj.mapSeq]; rfl⟩, fun b o hb e => (Heap.get?_update_other _ _ (Ne.symm hb)).trans e, ⟨rfl, fun _ _ => rfl, rfl, rfl⟩, rfl⟩
      exact (hkap _ ha).elim
    · obtain ⟨_, acc', tl', m', c', H'⟩ := hp
      have hlt1 : gi < s₁.gens.size := by rw [H'.same.size, ← H.same.size]; exact hlt
      refine hQ _ ⟨⟨acc', tl', m', c', ⟨H'.fr.keeps hk', H'.news.grown hk', H'.off, H'.dat, H'.gen.keeps hk', H'.ne, (H'.same.set .finished).heap h' s₁.toks⟩⟩, ?_⟩
      show (s₁.setGen gi .finished).gens[gi]? = _
      simp [Shared.setGen, hlt1]
end
end Mine
-- part MGCall
namespace Mine
abbrev genO (k : Nat) (x y : Str) (t u : Tok) : Obj := { cls := .type "generator", data := .fields #[.int k 0, .str x t, .str y u] }
/-- a call of a def that yields: a generator that has not begun -/
theorem code_gen {w : World} {A : Around} {s : Shared} {R : Result → Shared → Prop} {K : Frag} {name qual : Str} {params : Arguments} {body : List Stmt} {scope : Scope}
    {dV kV doc pm cdv ct oc : Value} {an od : Option Addr} {osl : Array (Option Value)} {f : Addr} {args : Args} {binds : List (Str × Value)}
    (X : K.In s.heap) (hlim : s.heap.NoLimit)
    (ho : K.lookup f = some ⟨oc, od, .func (fnOf name qual params body scope dV kV doc pm an cdv ct), osl⟩) (hcd : codeIn K cdv qual = true) (hroom : A.depth < recursionLimit)
    (hbind : BindsTo s (fnOf name qual params body scope dV kV doc pm an cdv ct) args binds) (hloc : ∀ y ∈ binds, scope.names.lookup y.1 = some .local)
    (h : ∀ h₁ tk t u, Fr s.heap s.heap.objs.size h₁ (fun y => binds.reverse.lookup y) →
      R (.ok (.ret (.ref h₁.objs.size))) { s with heap := h₁.push (genO s.gens.size name qual t u), gens := s.gens.push (.fresh (.func body (envOf qual scope s.heap.objs.size f cdv))), toks := tk })
    (hco : scope.isCoroutine = false) (hgen : scope.isGenerator = true) (hk : scope.kind = .function) (hcell : ∀ x ∈ scope.names, x.2 ≠ .cell) :
    codeAny (model pg w) A (.call (.ref f) args) R s := by
  refine codeAny_call_generator (fd := fnOf name qual params body scope dV kV doc pm an cdv ct) (body := body) hroom (X _ _ ho) rfl hco hgen rfl (codeRec_of X hcd) (hbind _ _ _ _ ?_)
  refine wpAny_newFunctionEnv hcell hloc (fun h₀ hns₀ hsb₀ => ⟨hlim.fresh _ hsb₀, ?_⟩) hk
  have hk₁ : ∀ b o, s.heap.get? b = some o → h₀.get? b = some o := fun b o e => hsb₀.extBut b o (Nat.ne_of_lt (Heap.lt_size e)) (Heap.get?_push_of_some _ e)
  exact h h₀ _ _ _ ⟨hns₀, hk₁, Nat.le_refl _⟩
end Mine
-- part MTurn
namespace Mine
/-- the object of a list's iterator -/
def IsIt (o : Obj) (l i : Nat) : Prop := o.cls = .type "list_iterator" ∧ o.data = .fields #[.ref l, .int i 0]
section
variable {prog : Program} {w : World} {A : Around} {s : Shared} {g : Heap} {L : Addr} {m : Str → Option Value}
theorem iter_list {l : Addr} {items : Array Value} {news : List (Addr × Obj)} {Q E : Value → Shared → Prop} (F : Fr g L s.heap m) (N : News g L s.heap news) (hl : s.heap.IsList l items)
    (h : ∀ I oI h', IsIt oI l 0 → Fr g L h' m → News g L h' ((I, oI) :: news) → (∀ p ∈ news, p.1 ≠ I) → Q (.ref I) { s with heap := h' }) :
    wpAny (model prog w) A (pyIter (.ref l)) Q E s := by
  refine wpAny_pyIter_list hl ?_
  have hne : ∀ p ∈ news, p.1 ≠ s.heap.objs.size := fun p hp => Nat.ne_of_lt (Heap.lt_size (N p hp).1)
  refine h s.heap.objs.size { cls := .type "list_iterator", data := .fields #[.ref l, .int 0 0] } _ ⟨rfl, rfl⟩ (F.push _) (fun p hp => ?_) hne
  rcases List.mem_cons.mp hp with rfl | hp
  · refine ⟨Heap.get?_push_size _ rfl, Nat.ne_of_gt F.ns.lt, ?_⟩
    cases e : g.get? s.heap.objs.size with
    | none => rfl
    | some o => exact absurd (Heap.lt_size (F.keep _ _ e)) (Nat.lt_irrefl _)
  · exact ⟨Heap.get?_push_of_some _ (N p hp).1, (N p hp).2⟩
theorem next_list {I l : Addr} {oI : Obj} {i : Nat} {items : Array Value} {rest : List (Addr × Obj)} {Q : Option Value → Shared → Prop} {E : Value → Shared → Prop} (hh : A.handled = none) (F : Fr g L s.heap m) (N : News g L s.heap ((I, oI) :: rest)) (hoff : ∀ p ∈ rest, p.1 ≠ I) (hI : IsIt oI l i) (hl : s.heap.IsList l items)
    (some : ∀ v h' oI', items[i]? = some v → IsIt oI' l (i + 1) → Fr g L h' m → News g L h' ((I, oI') :: rest) → Q (some v) { s with heap := h' })
    (none : ∀ h', items[i]? = none → Fr g L h' m → News g L h' rest → Q none { s with heap := h' }) :
    wpAny (model prog w) A (pyNext (.ref I)) Q E s := by
  have hi := N _ (.head _)
  have hit : s.heap.IsListIter I l i := ⟨oI, hi.1, hI.1, hI.2⟩
  have nI : ∀ b o, g.get? b = .some o → b ≠ I := fun b o e => by
    rintro rfl
    have := hi.2.2
    rw [e] at this; cases this
  have fr : ∀ h', Heap.ExtBut I s.heap h' → Fr g L h' m := fun h' he => ⟨F.ns.at' fun o e => he _ o (Ne.symm hi.2.1) e, fun b o e => he b o (nI b o e) (F.keep b o e), F.above⟩
  have nr : ∀ h', Heap.ExtBut I s.heap h' → News g L h' rest := fun h' he p hp => ⟨he _ _ (hoff p hp) (N p (.tail _ hp)).1, (N p (.tail _ hp)).2⟩
  cases e : items[i]? with
  | some v =>
    refine wpAny_pyNext_list_item hit hl e fun h' hit' hs => ?_
    obtain ⟨oI', ho', hc, hd⟩ := hit'
    refine some v h' oI' e ⟨hc, hd⟩ (fr h' hs.extBut) fun p hp => ?_
    rcases List.mem_cons.mp hp with rfl | hp
    · exact ⟨ho', hi.2⟩
    · exact nr h' hs.extBut p hp
  | none => exact wpAny_pyNext_list_end hh hit hl e fun h' he => none h' e (fr h' he) (nr h' he)
theorem owned_list {I l T : Addr} {oI : Obj} {i : Nat} {elts : List PySem.Expr} {x1} {pos : Pos} {rest : List (Addr × Obj)} {Q : Unit → Shared → Prop} {E : Value → Shared → Prop} (N : News g L s.heap ((I, oI) :: rest)) (hI : IsIt oI l i) (h : Q () s) :
    wpAny (model prog w) A (letOwnedTupleGo (.Tuple elts x1 pos) (.ref I) (.ref T)) Q E s :=
  wpAny_letOwnedTupleGo_listiter (l := l) (i := i) ⟨oI, (N _ (.head _)).1, hI.1, hI.2⟩ h
end
end Mine
-- part MLoopS
namespace Mine
section
variable {prog : Program} {w : World} {A : Around} {R : GenEnd} {Y : Protocol} {fs : List Frame} {env : Env} {g : Heap}
/-- a loop over a list, each item unpacked, in a generator's run; J: the turn's number, the yields to come, the names, the ledger, the state -/
theorem seg_tokens {elts : List PySem.Expr} {x1 : Nat} {tp : Pos} {body : List Stmt} {I l : Addr} {items : Array Value} (J : Nat → Nat → (Str → Option Value) → List (Addr × Obj) → Shared → Prop)
    (hh : (A.over (.forLoop (.Tuple elts x1 tp) (.ref I) body [] env) fs).handled = none) (hl : g.IsList l items) (hv : ∀ (i : Nat) (v : Value), items[i]? = some v → ∃ T, v = .ref T)
    (hJ : ∀ i n m nx s h', J i n m nx s → J i n m nx { s with heap := h' })
    (turn : ∀ i n s₀ v m₁ nx s₁ oI, items[i]? = some v → J i n m₁ nx s₁ → IsIt oI l (i + 1) → (∀ p ∈ nx, p.1 ≠ I) → Fr g env.locals s₁.heap m₁ → News g env.locals s₁.heap ((I, oI) :: nx) →
      (∀ n₂ s₀₂ m₂ nx₂ s₂, J (i + 1) n₂ m₂ nx₂ s₂ → (∀ p ∈ nx₂, p.1 ≠ I) → Fr g env.locals s₂.heap m₂ → News g env.locals s₂.heap ((I, oI) :: nx₂) →
        Seg (model prog w) A R Y n₂ s₀₂ (.forLoop (.Tuple elts x1 tp) (.ref I) body [] env) (.pure (.again (.forLoop (.Tuple elts x1 tp) (.ref I) body [] env))) fs s₂) →
      wpAny (model prog w) (A.over (.forLoop (.Tuple elts x1 tp) (.ref I) body [] env) fs) (assign (.Tuple elts x1 tp) env v) (fun _ s₃ =>
        Seg (model prog w) A R Y n s₀ (.forLoop (.Tuple elts x1 tp) (.ref I) body [] env) ((execs body env).wrap (turnK (.Tuple elts x1 tp) (.ref I) body [] env) (turnH env) id id) fs s₃) noE s₁)
    (done : ∀ n s₀ m₁ nx s₁, J items.size n m₁ nx s₁ → Fr g env.locals s₁.heap m₁ → News g env.locals s₁.heap nx →
      Seg (model prog w) A R Y n s₀ (.forLoop (.Tuple elts x1 tp) (.ref I) body [] env) (.pure (.again (.block [] env))) fs s₁) :
    ∀ (k i n : Nat) (s₀ : Shared) (m₁ : Str → Option Value) (nx : List (Addr × Obj)) (s : Shared) (oI : Obj), items.size - i = k → i ≤ items.size → J i n m₁ nx s → IsIt oI l i → (∀ p ∈ nx, p.1 ≠ I) → Fr g env.locals s.heap m₁ → News g env.locals s.heap ((I, oI) :: nx) →
      Seg (model prog w) A R Y n s₀ (.forLoop (.Tuple elts x1 tp) (.ref I) body [] env) ((model prog w).den (.forLoop (.Tuple elts x1 tp) (.ref I) body [] env)) fs s := by
  intro k
  induction k with
  | zero =>
    intro i n s₀ m₁ nx s oI hk hi hj hI hoff F N
    obtain rfl : i = items.size := by omega
    refine seg_forLoop (next_list hh F N hoff hI (hl.at fun o e => F.keep _ o e) (fun v h' oI' e => ?_) fun h' _ F' N' => done n s₀ m₁ nx _ (hJ _ _ _ _ _ _ hj) F' N')
    rw [Array.getElem?_eq_none (Nat.le_refl _)] at e; cases e
  | succ k ih =>
    intro i n s₀ m₁ nx s oI hk hi hj hI hoff F N
    refine seg_forLoop (next_list hh F N hoff hI (hl.at fun o e => F.keep _ o e) (fun v h' oI' e hI' F' N' => ?_) fun h' e _ _ => ?_)
    · obtain ⟨T, rfl⟩ := hv i v e
      refine owned_list N' hI' (turn i n s₀ _ m₁ nx _ oI' e (hJ _ _ _ _ _ _ hj) hI' hoff F' N' fun n₂ s₀₂ m₂ nx₂ s₂ hj₂ hoff₂ F₂ N₂ => ?_)
      exact seg_again rfl (ih (i + 1) n₂ s₀₂ m₂ nx₂ s₂ oI' (by omega) (by omega) hj₂ hI' hoff₂ F₂ N₂)
    · have : items.size ≤ i := by simpa using e
      omega
end
end Mine
-- part MEnum
namespace Mine
/-- the object of an enumerate -/
def IsEn (o : Obj) (it : Addr) (i : Int) : Prop := ∃ old, o = { cls := .type "enumerate", dict := none, data := .fields #[.none, .bool false, .ref it, rawInt i, .none, old], slots := #[] }
abbrev enO (it : Addr) (i : Int) (old : Value) : Obj := { cls := .type "enumerate", dict := none, data := .fields #[.none, .bool false, .ref it, rawInt i, .none, old], slots := #[] }
def IsEnOut (o : Obj) (it : Addr) (i : Int) (item : Value) (a : Addr) : Prop := o = { cls := .type "enumerate", dict := none, data := .fields #[rawInt a, .bool false, .ref it, rawInt i, .none, item], slots := #[] }
section
variable {prog : Program} {w : World} {A : Around} {s : Shared} {g : Heap} {L : Addr} {m : Str → Option Value}
theorem new_none {h : Heap} {b : Addr} (F : Fr g L h m) (hb : h.objs.size ≤ b) : g.get? b = none ∧ b ≠ L := by
  refine ⟨?_, fun e => ?_⟩
  · cases e : g.get? b with
    | none => rfl
    | some o => exact absurd (Heap.lt_size (F.keep _ _ e)) (Nat.not_lt.mpr hb)
  · have := F.ns.lt
    rw [← e] at this
    exact absurd this (Nat.not_lt.mpr hb)
theorem enum_list {l : Addr} {items : Array Value} {news : List (Addr × Obj)} {Q E : Value → Shared → Prop} (F : Fr g L s.heap m) (N : News g L s.heap news) (hl : s.heap.IsList l items)
    (h : ∀ En It oE oI h', IsEn oE It 0 → IsIt oI l 0 → Fr g L h' m → News g L h' ((En, oE) :: (It, oI) :: news) → En ≠ It → (∀ p ∈ news, p.1 ≠ En ∧ p.1 ≠ It) → Q (.ref En) { s with heap := h' }) :
    wpAny (model prog w) A (call (.type "enumerate") [.ref l]) Q E s := by
  refine call_enumerate_list hl fun h' he hi hz hk => ?_
  obtain ⟨oI, hoI, hc, hd⟩ := hi
  have n1 := new_none F (b := s.heap.objs.size + 1) (Nat.le_succ _)
  have n0 := new_none F (b := s.heap.objs.size) (Nat.le_refl _)
  refine h (s.heap.objs.size + 1) s.heap.objs.size (enO s.heap.objs.size 0 .none) oI h' ⟨_, rfl⟩ ⟨hc, hd⟩ (F.keeps hk) (fun p hp => ?_) (Nat.succ_ne_self _) fun p hp => ?_
  · rcases List.mem_cons.mp hp with rfl | hp
    · exact ⟨he, n1.2, n1.1⟩
    · rcases List.mem_cons.mp hp with rfl | hp
      · exact ⟨hoI, n0.2, n0.1⟩
      · exact ⟨hk _ _ (N p hp).1, (N p hp).2⟩
  · have := Heap.lt_size (N p hp).1
    exact ⟨Nat.ne_of_lt (Nat.lt_succ_of_lt this), Nat.ne_of_lt this⟩
theorem iter_enum {En It : Addr} {oE : Obj} {i : Int} {rest : List (Addr × Obj)} {Q E : Value → Shared → Prop} (N : News g L s.heap ((En, oE) :: rest)) (hE : IsEn oE It i) (h : Q (.ref En) s) :
    wpAny (model prog w) A (pyIter (.ref En)) Q E s := by
  obtain ⟨old, rfl⟩ := hE
  exact wpAny_pyIter_enum (N _ (.head _)).1 h
theorem next_enum {En It l : Addr} {oE oI : Obj} {i : Nat} {items : Array Value} {rest : List (Addr × Obj)} {Q : Option Value → Shared → Prop} {E : Value → Shared → Prop} (hh : A.handled = none) (F : Fr g L s.heap m) (N : News g L s.heap ((En, oE) :: (It, oI) :: rest))
    (hne : En ≠ It) (hoff : ∀ p ∈ rest, p.1 ≠ En ∧ p.1 ≠ It) (hE : IsEn oE It i) (hI : IsIt oI l i) (hl : s.heap.IsList l items)
    (some : ∀ v h' tk T oE' oI', items[i]? = some v → IsEnOut oE' It ((i : Int) + 1) v T → IsIt oI' l (i + 1) → T ≠ En → Fr g L h' m → News g L h' ((En, oE') :: (It, oI') :: (T, tupO #[.int i s.toks, v] 0) :: rest) → (∀ p ∈ rest, p.1 ≠ T) → Q (some (.ref T)) { s with heap := h', toks := tk })
    (none : ∀ h', items[i]? = none → Fr g L h' m → News g L h' rest → Q none { s with heap := h' }) :
    wpAny (model prog w) A (pyNext (.ref En)) Q E s := by
  have he := N _ (.head _)
  have hi := N _ (.tail _ (.head _))
  obtain ⟨old, rfl⟩ := hE
  have hit : s.heap.IsListIter It l i := ⟨oI, hi.1, hI.1, hI.2⟩
  have nE : ∀ b o, g.get? b = .some o → b ≠ En := fun b o e => by
    rintro rfl
    have := he.2.2
    rw [e] at this; cases this
  have nI : ∀ b o, g.get? b = .some o → b ≠ It := fun b o e => by
    rintro rfl
    have := hi.2.2
    rw [e] at this; cases this
  cases e : items[i]? with
  | some v =>
    refine wpAny_pyNext_enum_item he.1 hit hl e hne fun h' heo hit' ht hz hk => ?_
    obtain ⟨oI', ho', hc, hd⟩ := hit'
    have F' : Fr g L h' m := ⟨F.ns.at' fun o e => hk _ o (Ne.symm he.2.1) (Ne.symm hi.2.1) e, fun b o e => hk b o (nE b o e) (nI b o e) (F.keep b o e), F.above⟩
    have n0 := new_none F (b := s.heap.objs.size) (Nat.le_refl _)
    refine some v h' _ s.heap.objs.size _ oI' e rfl ⟨hc, hd⟩ (Nat.ne_of_gt (Heap.lt_size he.1)) F' (fun p hp => ?_) fun p hp => Nat.ne_of_lt (Heap.lt_size (N p (.tail _ (.tail _ hp))).1)
    rcases List.mem_cons.mp hp with rfl | hp
    · exact ⟨heo, he.2⟩
    · rcases List.mem_cons.mp hp with rfl | hp
      · exact ⟨ho', hi.2⟩
      · rcases List.mem_cons.mp hp with rfl | hp
        · exact ⟨ht, n0.2, n0.1⟩
        · exact ⟨hk _ _ (hoff p hp).1 (hoff p hp).2 (N p (.tail _ (.tail _ hp))).1, (N p (.tail _ (.tail _ hp))).2⟩
  | none =>
    refine wpAny_pyNext_enum_end hh he.1 hit hl e fun h' hk => none h' e ⟨F.ns.at' fun o e => hk _ o (Ne.symm hi.2.1) e, fun b o e => hk b o (nI b o e) (F.keep b o e), F.above⟩ fun p hp => ⟨hk _ _ (hoff p hp).2 (N p (.tail _ (.tail _ hp))).1, (N p (.tail _ (.tail _ hp))).2⟩
theorem owned_enum {En It T : Addr} {oE : Obj} {i : Int} {item : Value} {elts : List PySem.Expr} {x1} {pos : Pos} {rest : List (Addr × Obj)} {Q : Unit → Shared → Prop} {E : Value → Shared → Prop} (F : Fr g L s.heap m) (N : News g L s.heap ((En, oE) :: rest)) (hoff : ∀ p ∈ rest, p.1 ≠ En) (hE : IsEnOut oE It i item T)
    (h : ∀ h' oE', IsEn oE' It i → Fr g L h' m → News g L h' ((En, oE') :: rest) → Q () { s with heap := h' }) :
    wpAny (model prog w) A (letOwnedTupleGo (.Tuple elts x1 pos) (.ref En) (.ref T)) Q E s := by
  have he := N _ (.head _)
  obtain rfl := hE
  have nE : ∀ b o, g.get? b = .some o → b ≠ En := fun b o e => by
    rintro rfl
    have := he.2.2
    rw [e] at this; cases this
  refine wpAny_letOwnedTupleGo_enum he.1 fun h' he' hs => ?_
  have hk := hs.extBut
  refine h h' (enO It i item) ⟨_, rfl⟩ ⟨F.ns.at' fun o e => hk _ o (Ne.symm he.2.1) e, fun b o e => hk b o (nE b o e) (F.keep b o e), F.above⟩ fun p hp => ?_
  rcases List.mem_cons.mp hp with rfl | hp
  · exact ⟨he', he.2⟩
  · exact ⟨hk _ _ (hoff p hp) (N p (.tail _ hp)).1, (N p (.tail _ hp)).2⟩
end
section
variable {prog : Program} {w : World} {A : Around} {R : GenEnd} {Y : Protocol} {fs : List Frame} {env : Env} {g : Heap}
/-- a loop over an enumerate of a list, in a generator's run -/
theorem seg_enum {elts : List PySem.Expr} {x1 : Nat} {tp : Pos} {body : List Stmt} {En It l : Addr} {items : Array Value} (J : Nat → Nat → (Str → Option Value) → List (Addr × Obj) → Shared → Prop)
    (hh : (A.over (.forLoop (.Tuple elts x1 tp) (.ref En) body [] env) fs).handled = none) (hne : En ≠ It)
    (hJ : ∀ i n m nx s h' tk, J i n m nx s → J i n m nx { s with heap := h', toks := tk })
    (hJl : ∀ i n m nx s, J i n m nx s → ∀ h, News g env.locals h nx → h.IsList l items)
    (turn : ∀ i n s₀ v m₁ nx s₁ oE oI T tk, items[i]? = some v → J i n m₁ nx s₁ → IsEn oE It ((i : Int) + 1) → IsIt oI l (i + 1) → (∀ p ∈ nx, p.1 ≠ En ∧ p.1 ≠ It) → (∀ p ∈ nx, p.1 ≠ T) → Fr g env.locals s₁.heap m₁ → News g env.locals s₁.heap ((T, tupO #[.int i tk, v] 0) :: (En, oE) :: (It, oI) :: nx) →
      (∀ n₂ s₀₂ m₂ nx₂ s₂, J (i + 1) n₂ m₂ nx₂ s₂ → (∀ p ∈ nx₂, p.1 ≠ En ∧ p.1 ≠ It) → Fr g env.locals s₂.heap m₂ → News g env.locals s₂.heap ((En, oE) :: (It, oI) :: nx₂) →
        Seg (model prog w) A R Y n₂ s₀₂ (.forLoop (.Tuple elts x1 tp) (.ref En) body [] env) (.pure (.again (.forLoop (.Tuple elts x1 tp) (.ref En) body [] env))) fs s₂) →
      wpAny (model prog w) (A.over (.forLoop (.Tuple elts x1 tp) (.ref En) body [] env) fs) (assign (.Tuple elts x1 tp) env (.ref T)) (fun _ s₃ =>
        Seg (model prog w) A R Y n s₀ (.forLoop (.Tuple elts x1 tp) (.ref En) body [] env) ((execs body env).wrap (turnK (.Tuple elts x1 tp) (.ref En) body [] env) (turnH env) id id) fs s₃) noE s₁)
    (done : ∀ n s₀ m₁ nx s₁, J items.size n m₁ nx s₁ → Fr g env.locals s₁.heap m₁ → News g env.locals s₁.heap nx →
      Seg (model prog w) A R Y n s₀ (.forLoop (.Tuple elts x1 tp) (.ref En) body [] env) (.pure (.again (.block [] env))) fs s₁) :
    ∀ (k i n : Nat) (s₀ : Shared) (m₁ : Str → Option Value) (nx : List (Addr × Obj)) (s : Shared) (oE oI : Obj), items.size - i = k → i ≤ items.size → J i n m₁ nx s → IsEn oE It i → IsIt oI l i → (∀ p ∈ nx, p.1 ≠ En ∧ p.1 ≠ It) → Fr g env.locals s.heap m₁ → News g env.locals s.heap ((En, oE) :: (It, oI) :: nx) →
      Seg (model prog w) A R Y n s₀ (.forLoop (.Tuple elts x1 tp) (.ref En) body [] env) ((model prog w).den (.forLoop (.Tuple elts x1 tp) (.ref En) body [] env)) fs s := by
  intro k
  induction k with
  | zero =>
    intro i n s₀ m₁ nx s oE oI hk hi hj hE hI hoff F N
    obtain rfl : i = items.size := by omega
    have hl := hJl _ _ _ _ _ hj s.heap fun p hp => N p (.tail _ (.tail _ hp))
    refine seg_forLoop (next_enum hh F N hne hoff hE hI hl (fun v h' tk T oE' oI' e => ?_) fun h' _ F' N' => ?_)
    · rw [Array.getElem?_eq_none (Nat.le_refl _)] at e; cases e
    · exact done n s₀ m₁ nx _ (hJ _ _ _ _ _ _ _ hj) F' N'
  | succ k ih =>
    intro i n s₀ m₁ nx s oE oI hk hi hj hE hI hoff F N
    have hl := hJl _ _ _ _ _ hj s.heap fun p hp => N p (.tail _ (.tail _ hp))
    refine seg_forLoop (next_enum hh F N hne hoff hE hI hl (fun v h' tk T oE' oI' e hE' hI' hT F' N' hoffT => ?_) fun h' e _ _ => ?_)
    · refine owned_enum F' N' (fun p hp => ?_) hE' fun h₂ oE₂ hE₂ F₂ N₂ => ?_
      · rcases List.mem_cons.mp hp with rfl | hp
        · exact Ne.symm hne
        · rcases List.mem_cons.mp hp with rfl | hp
          · exact hT
          · exact (hoff p hp).1
      refine turn i n s₀ v m₁ nx _ oE₂ oI' T s.toks e (hJ _ _ _ _ s h₂ tk hj) hE₂ hI' hoff hoffT F₂ (fun p hp => ?_) fun n₂ s₀₂ m₂ nx₂ s₂ hj₂ hoff₂ F₃ N₃ => ?_
      · rcases List.mem_cons.mp hp with rfl | hp
        · exact N₂ _ (.tail _ (.tail _ (.head _)))
        · rcases List.mem_cons.mp hp with rfl | hp
          · exact N₂ _ (.head _)
          · rcases List.mem_cons.mp hp with rfl | hp
            · exact N₂ _ (.tail _ (.head _))
            · exact N₂ _ (.tail _ (.tail _ (.tail _ hp)))
      · exact seg_again rfl (ih (i + 1) n₂ s₀₂ m₂ nx₂ s₂ oE₂ oI' (by omega) (by omega) hj₂ (by rw [Int.natCast_succ]; exact hE₂) hI' hoff₂ F₃ N₃)
    · have : items.size ≤ i := by simpa using e
      omega
end
end Mine
-- part MGenP
namespace Mine
section
variable {most : Int} {sk : Prop} {p : Option Int} {t : Tk} {ts : List Tk} {ds : List Dat}
theorem Gen.skip' (h : Gen most sk p (t :: ts) ds) (h3 : t.ty = 3) (hs : sk) : Gen most sk p ts ds := by
  cases h with
  | str _ _ r => exact r
  | pass n _ _ => exact absurd h3 n
  | code _ _ n _ => exact absurd hs (n h3)
  | bang n => rw [h3] at n; cases n
  | told _ _ n _ _ => exact absurd hs (n h3)
theorem Gen.pass' (h : Gen most sk p (t :: ts) ds) (h3 : t.ty ≠ 3) (h6 : t.ty ≠ 61) : Gen most sk (some t.ty) ts ds := by
  cases h with
  | str n _ _ => exact absurd n h3
  | pass _ _ r => exact r
  | code n _ _ _ => exact absurd n (by omega)
  | bang n => exact absurd n h6
  | told n _ _ _ _ => exact absurd n (by omega)
theorem Gen.code' (h : Gen most sk p (t :: ts) ds) (h1 : t.ty = 3 ∨ t.ty = 61) (hs : t.ty = 3 → ¬ sk) (hp : ¬ OkPrev p) : Gen most sk (some t.ty) ts ds := by
  cases h with
  | str n q _ => exact absurd q (hs n)
  | pass _ _ r => exact r
  | code _ _ _ r => exact r
  | bang _ q => exact absurd q hp
  | told _ q _ _ _ => exact absurd q hp
theorem Gen.told' (h : Gen most sk p (t :: ts) ds) (h1 : t.ty = 3 ∨ t.ty = 61) (hs : t.ty = 3 → ¬ sk) (hp : OkPrev p) :
    (t.r0 = 1 ∧ Bang t.line ∧ Txt.lines t.line ≠ [] ∧ ds = []) ∨ (¬ (t.r0 = 1 ∧ Bang t.line) ∧ ∃ r, Gen most sk (some t.ty) ts r ∧ ds = repsD t.ty t.r0 most (Txt.lines t.line).length 0 (Txt.lines t.line) ++ r) := by
  cases h with
  | str n q _ => exact absurd q (hs n)
  | pass n q r => exact absurd h1 (by omega)
  | code _ n _ r => exact absurd hp n
  | bang _ _ e b l => exact .inl ⟨e, b, l, rfl⟩
  | told _ _ _ b r => exact .inr ⟨b, _, r, rfl⟩
theorem Gen.nil' (h : Gen most sk p [] ds) : ds = [] := by cases h; rfl
theorem drop_cons {D : List Dat} {d : Dat} {r : List Dat} {n : Nat} (h : n ≤ D.length) (e : D.drop (D.length - n) = d :: r) :
    ∃ n', n = n' + 1 ∧ D.length - 1 - n' = D.length - n ∧ D[D.length - n]? = some d ∧ D.drop (D.length - n') = r ∧ D.take (D.length - n') = D.take (D.length - n) ++ [d] := by
  have hlen := congrArg List.length e
  rw [List.length_drop, List.length_cons] at hlen
  obtain ⟨n', rfl⟩ : ∃ n', n = n' + 1 := ⟨n - 1, by omega⟩
  have hd : D[D.length - (n' + 1)]? = some d := by
    have := List.getElem?_drop (xs := D) (i := D.length - (n' + 1)) (j := 0)
    rw [e, Nat.add_zero] at this
    exact this.symm
  have hs : D.length - n' = D.length - (n' + 1) + 1 := by omega
  refine ⟨n', rfl, by omega, hd, ?_, ?_⟩
  · rw [hs, ← List.drop_drop, e]; rfl
  · rw [hs, List.take_add_one, hd]; rfl
theorem drop_nil {D : List Dat} {n : Nat} (h : n ≤ D.length) (e : D.drop (D.length - n) = []) : n = 0 := by
  have hlen := congrArg List.length e
  rw [List.length_drop] at hlen
  simp at hlen
  omega
theorem repsD_drop {ty r0 most : Int} {n j : Nat} {xs : List Str} {x : Str} (h : xs[j]? = some x) : repsD ty r0 most n j (xs.drop j) = repD ty r0 most n j x ++ repsD ty r0 most n (j + 1) (xs.drop (j + 1)) := by
  have : xs.drop j = x :: xs.drop (j + 1) := by
    obtain ⟨hj, rfl⟩ := List.getElem?_eq_some_iff.mp h
    exact List.drop_eq_getElem_cons hj
  rw [this]; rfl
theorem toks_drop {ts : List Tk} {i : Nat} {t : Tk} (h : ts[i]? = some t) : ts.drop i = t :: ts.drop (i + 1) := by
  obtain ⟨hj, rfl⟩ := List.getElem?_eq_some_iff.mp h
  exact List.drop_eq_getElem_cons hj
end
section
variable {ty r0 most : Int} {n j : Nat} {x : Str}
def C1 (ty : Int) (x : Str) : Prop := ty = 61 ∧ (Txt.words x).length = 2 ∧ (x.length : Int) - lastL (Txt.words x) < 72
def C2 (n j : Nat) (x : Str) : Prop := (Txt.words x).length = 1 ∧ j + 1 < n ∧ (x.length : Int) - lastL (Txt.words x) < 72
theorem repD_1 (h : C1 ty x) : repD ty r0 most n j x = [] := if_pos h
theorem repD_2 (h : C2 n j x) : repD ty r0 most n j x = [] := by
  by_cases c : C1 ty x
  · exact if_pos c
  · exact (if_neg c).trans (if_pos h)
theorem repD_3 (h1 : ¬ C1 ty x) (h2 : ¬ C2 n j x) (h : ¬ (x.length : Int) > most) : repD ty r0 most n j x = [] := by
  exact (if_neg h1).trans ((if_neg h2).trans (if_neg h))
theorem repD_4 (h1 : ¬ C1 ty x) (h2 : ¬ C2 n j x) (h : (x.length : Int) > most) : repD ty r0 most n j x = [toldD (r0 + (j : Int)) x.length most] := by
  exact (if_neg h1).trans ((if_neg h2).trans (if_pos h))
end
/-- names that hold what they are said to hold -/
def Has (m : Str → Option Value) (ats : List (Str × Value)) : Prop := ∀ p ∈ ats, m p.1 = some p.2
theorem ats_nil {m : Str → Option Value} : Has m [] := fun p hp => nomatch hp
theorem ats_cons {m : Str → Option Value} {x : Str} {v : Value} {r : List (Str × Value)} (h : m x = some v) (hr : Has m r) : Has m ((x, v) :: r) := fun p hp => by
  rcases List.mem_cons.mp hp with rfl | hp
  · exact h
  · exact hr p hp
theorem Has.tail {m : Str → Option Value} {q : Str × Value} {r : List (Str × Value)} (h : Has m (q :: r)) : Has m r := fun p hp => h p (.tail _ hp)
/-- a state of the walk: the heap, the names, the ledger -/
def Cut (g : Heap) (L : Addr) (s₁ : Shared) (nx : List (Addr × Obj)) (ats : List (Str × Value)) (s' : Shared) : Prop :=
  ∃ h tk m', s' = { s₁ with heap := h, toks := tk } ∧ Fr g L h m' ∧ News g L h nx ∧ Has m' ats
theorem Cut.mk {g : Heap} {L : Addr} {s₁ : Shared} {nx nx' : List (Addr × Obj)} {ats : List (Str × Value)} {h : Heap} {tk : Nat} {m' : Str → Option Value} (F : Fr g L h m') (N : News g L h nx') (hs : ∀ p ∈ nx, p ∈ nx') (ha : Has m' ats) :
    Cut g L s₁ nx ats { s₁ with heap := h, toks := tk } := ⟨h, tk, m', rfl, F, fun p hp => N p (hs p hp), ha⟩
def asNames : List (Str × Value) → (Str → Option Value) → Str → Option Value
  | [], m, y => m y
  | (x, v) :: r, m, y => if y = x then some v else asNames r m y
theorem asNames_eq : ∀ (ats : List (Str × Value)) (m : Str → Option Value), Has m ats → ∀ y, asNames ats m y = m y
  | [], m, _, y => rfl
  | (x, v) :: r, m, h, y => by
    show (if y = x then some v else asNames r m y) = m y
    split
    · rename_i e; subst e; exact (h _ (.head _)).symm
    · exact asNames_eq r m (fun p hp => h p (.tail _ hp)) y
theorem After.led {g : Heap} {L gi S : Nat} {s s' : Shared} {acc : List Value} {v : Value} {m : Str → Option Value} {R : List (Addr × Obj)} {c : Nat} (ha : After gi S s acc v s') (F : Fr g L s.heap m) (hS : (S, lstO acc.toArray c) ∈ R) {R' : List (Addr × Obj)} (N : News g L s.heap R) (hR : ∀ p ∈ R', p ∈ R) (hn : ∀ p ∈ R', p.1 ≠ S) :
    ∃ c₂, Fr g L s'.heap m ∧ News g L s'.heap ((S, lstO (acc ++ [v]).toArray c₂) :: R') := by
  obtain ⟨c₂, h2⟩ := ha.list
  have hs := N _ hS
  have hgS : ∀ b o, g.get? b = some o → b ≠ S := fun b o e => by
    rintro rfl; rw [hs.2.2] at e; cases e
  refine ⟨c₂, ⟨F.ns.at' fun o e => ha.keep _ o (Ne.symm hs.2.1) e, fun b o e => ha.keep b o (hgS b o e) (F.keep b o e), F.above⟩, fun p hp => ?_⟩
  rcases List.mem_cons.mp hp with rfl | hp
  · exact ⟨h2, hs.2⟩
  · exact ⟨ha.keep _ _ (hn p hp) (N _ (hR p hp)).1, (N _ (hR p hp)).2⟩
theorem fr_names {g : Heap} {L : Addr} {h : Heap} {m : Str → Option Value} (ats : List (Str × Value)) (F : Fr g L h m) (ha : Has m ats) : Fr g L h (fun y => asNames ats m y) := fr_as F fun y => (asNames_eq ats m ha y).symm
end Mine
-- part MSetT
namespace Mine
theorem truthy_setK {prog : Program} {w : World} {K : Type} [DecidableEq K] {knd : KeyKind prog w K} {A : Around} {E : Value → Shared → Prop} {s : Shared} {g : Heap} {L d : Addr} {news : List (Addr × Obj)} {o : Obj} {S : K → Bool} {n : Nat} {Q : Bool → Shared → Prop}
    (N : News g L s.heap news) (hm : (d, o) ∈ news) (hso : o.SetObjOf knd S n) (hb : n < 1000) (h : Q (decide (0 < n)) { s with toks := s.toks + 1 + 1 }) : wpAny (model prog w) A (truthy (.ref d)) Q E s := by
  obtain ⟨hex, es, ep, t, hd, _, _, hn, hf⟩ := hso
  subst hn
  have ho := (N _ hm).1
  have hT : s.TypeIs (.ref d) "set" := ⟨o, ho, hex.1⟩
  have hne : ((es.size : Int) != 0) = decide (0 < es.size) := by
    rcases Nat.eq_zero_or_pos es.size with e | e
    · rw [e]; rfl
    · rw [decide_eq_true e, bne_iff_ne]; omega
  have key : wpAny (model prog w) A (runValue (.builtin "len" ⟨[.ref d], []⟩)) (fun r s' => r = .int es.size (s.toks + 1) ∧ Q (decide (0 < es.size)) s') E s := by
    refine wpAny_runValue (codeAny_builtin entry_len ?_)
    rw [Around.under_plainId plain_len _]
    exact wpAny_mono (wpAny_len_body_set (Q := fun r s' => r = .int es.size (s.toks + 1) ∧ Q (decide (0 < es.size)) s') ho hex hd hf (by omega) ⟨rfl, h⟩)
      (fun fin s' h' => by obtain ⟨r, rfl, hq⟩ := h'; exact hq) fun _ _ e => e
  unfold truthy
  first
    | refine wpAny_bind (wpAny_callSpecial?_none (name := Str.ofString "__bool__") hT noBool_set ?_)
    | refine wpAny_bind (wpAny_pure (wpAny_bind (wpAny_callSpecial?_none (name := Str.ofString "__bool__") hT noBool_set ?_)))
  first
    | refine wpAny_bind (wpAny_specialOf (name := Str.ofString "__len__") hT F.slot_set_len.lookup ?_)
    | refine wpAny_bind (wpAny_pure (wpAny_bind (wpAny_specialOf (name := Str.ofString "__len__") hT F.slot_set_len.lookup ?_)))
  first
    | exact wpAny_bind (wpAny_mono key (fun r s' h' => by obtain ⟨rfl, hq⟩ := h'; exact wpAny_pure (hne ▸ hq)) fun _ _ e => e)
    | exact wpAny_bind (wpAny_pure (wpAny_bind (wpAny_mono key (fun r s' h' => by obtain ⟨rfl, hq⟩ := h'; exact wpAny_pure (hne ▸ hq)) fun _ _ e => e)))
theorem truthy_setS {prog : Program} {w : World} {A : Around} {E : Value → Shared → Prop} {s : Shared} {g : Heap} {L d : Addr} {news : List (Addr × Obj)} {o : Obj} {S : Str → Bool} {n : Nat} {Q : Bool → Shared → Prop}
    (N : News g L s.heap news) (hm : (d, o) ∈ news) (hso : o.SetObjOf (strKind prog w) S n) (hb : n < 1000) (h : Q (decide (0 < n)) { s with toks := s.toks + 1 + 1 }) : wpAny (model prog w) A (truthy (.ref d)) Q E s := truthy_setK N hm hso hb h
end Mine
-- part MWords
namespace Mine
theorem strs_at {l : List (Str × Tok)} {xs : List Str} (e : List.map Prod.fst l = xs) {j : Nat} {v : Value} (hv : (strValues l).toArray[j]? = some v) : ∃ x t, v = .str x t ∧ xs[j]? = some x := by
  have hv' : (strValues l)[j]? = some v := by simpa using hv
  unfold strValues at hv'
  rw [List.getElem?_map] at hv'
  cases hl : l[j]? with
  | none => rw [hl] at hv'; cases hv'
  | some p =>
    rw [hl] at hv'
    obtain rfl := Option.some.inj hv'
    exact ⟨p.1, p.2, rfl, by rw [← e, List.getElem?_map, hl]; rfl⟩
theorem strs_size {l : List (Str × Tok)} {xs : List Str} (e : List.map Prod.fst l = xs) : (strValues l).toArray.size = xs.length := by
  rw [← e]; simp [strValues]
section
variable {prog : Program} {w : World} {A : Around} {E : Value → Shared → Prop} {s : Shared} {h₀ : Heap} {L : Addr} {m : Str → Option Value} {news : List (Addr × Obj)}
theorem lines_K {x : Str} {t : Tok} {Q : Value → Shared → Prop} (F : Fr h₀ L s.heap m) (N : News h₀ L s.heap news) (hsz : x.length ≤ 2000)
    (h : ∀ D l h' k, List.map Prod.fst l = Txt.lines x → Fr h₀ L h' m → News h₀ L h' ((D, W.listOf (strValues l).toArray 0) :: news) → (∀ p ∈ news, p.1 < D) → (∀ y ∈ Txt.lines x, y.length ≤ 2000) → (Txt.lines x).length ≤ 2001 → Q (.ref D) { s with heap := h', toks := k }) :
    wpAny (model prog w) A (call (.builtin "str.splitlines") [.str x t]) Q E s := by
  have hz : x.length + 2 ≤ sizeLine := by rw [sizeLine_eq]; omega
  have hw := StrLaws.lines_weight x
  exact splitlinesNA F N (fun l h' k e _ hs _ F' N' => h _ l h' k e F' N' (fun p hp => Heap.lt_size (N p hp).1) (fun y hy => Nat.le_trans (hs y (e ▸ hy)) hsz) (by omega)) hz
theorem words_K {x : Str} {t : Tok} {Q : Value → Shared → Prop} (F : Fr h₀ L s.heap m) (N : News h₀ L s.heap news) (hsz : x.length ≤ 2000)
    (h : ∀ D l h' k, List.map Prod.fst l = Txt.words x → Fr h₀ L h' m → News h₀ L h' ((D, W.listOf (strValues l).toArray 0) :: news) → (∀ p ∈ news, p.1 < D) → (∀ y ∈ Txt.words x, y.length ≤ 2000) → (Txt.words x).length ≤ 2001 → Q (.ref D) { s with heap := h', toks := k }) :
    wpAny (model prog w) A (call (.builtin "str.split") [.str x t]) Q E s := by
  have hz : x.length + 2 ≤ sizeLine := by rw [sizeLine_eq]; omega
  have hw := StrLaws.words_weight x
  exact splitN0A F N (fun l h' k e _ hs _ F' N' => h _ l h' k e F' N' (fun p hp => Heap.lt_size (N p hp).1) (fun y hy => Nat.le_trans (hs y (e ▸ hy)) hsz) (by omega)) hz
theorem len_strs {l : Addr} {vs : List (Str × Tok)} {c : Nat} {xs : List Str} {Q : Value → Shared → Prop} (N : News h₀ L s.heap news) (hm : (l, W.listOf (strValues vs).toArray c) ∈ news) (e : List.map Prod.fst vs = xs) (hb : xs.length ≤ 2001)
    (h : Q (.int (xs.length : Int) (s.toks + 1)) { s with toks := s.toks + 1 + 1 }) : wpAny (model prog w) A (call (.builtin "len") [.ref l]) Q E s := by
  have hs := strs_size e
  refine call_len_list (News.isList N hm) ?_ ?_
  · rw [hs]; omega
  · rw [hs]; exact h
theorem words_last {value slice : PySem.Expr} {l : Addr} {vs : List (Str × Tok)} {c : Nat} {xs : List Str} {k : Int} {uk : Tok} {Q : Value → Shared → Prop} (hk : k = -1) (N : News h₀ L s.heap news) (hm : (l, W.listOf (strValues vs).toArray c) ∈ news) (e : List.map Prod.fst vs = xs) (hb : xs.length ≤ 2001) (h0 : 0 < xs.length)
    (hx : ∀ y ∈ xs, y.length ≤ 2000)
    (h : ∀ y t, y.length = lastL xs → y.length ≤ 2000 → Q (.str y t) s)
    (hs : subscripted slice false (.ref l) (.int k uk) = operate [.ref l, .int (-1) uk] (getItem (.ref l) (.int k uk))) :
    wpAny (model prog w) A (subscriptTail value slice (.ref l) (.int k uk)) Q E s := by
  subst hk
  have hl := News.isList N hm
  have hsz := strs_size e
  refine tail_any hl.typeIs slot_list_getitem.lookup ?_ hs
  obtain ⟨v, hv⟩ : ∃ v, (strValues vs).toArray[xs.length - 1]? = some v := ⟨_, Array.getElem?_eq_getElem (by rw [hsz]; omega)⟩
  obtain ⟨y, t, rfl, hy⟩ := strs_at e hv
  refine wpAny_getItem_list_neg hl (by omega) (by first | (rw [hsz]; omega) | omega) (by first | (rw [hsz]; omega) | omega) (x := .str y t) ?_ (h y t ?_ (hx y (List.mem_of_getElem? hy)))
  · have e2 : ((-1 : Int) + ((strValues vs).toArray.size : Int)).toNat = xs.length - 1 := by rw [hsz]; omega
    rw [e2]; exact hv
  · unfold lastL
    rw [List.getLast?_eq_getElem?, hy]; rfl
end
end Mine
-- part MMod
namespace Mine
theorem mod_msg {prog : Program} {w : World} {A : Around} {E : Value → Shared → Prop} {s : Shared} {h₀ : Heap} {L b : Addr} {news : List (Addr × Obj)} {len most : Int} {t1 t2 t : Tok} {Q : Value → Shared → Prop} (N : News h₀ L s.heap news) (hb : (b, tupO #[.int len t1, .int most t2] 0) ∈ news)
    (hl0 : 0 ≤ len) (hl1 : len < 1000000) (hm0 : 0 ≤ most) (hm1 : most < 1000000) (h : ∀ t' k, Q (.str (msgW len most) t') { s with toks := k }) :
    wpAny (model prog w) A (binaryOp .Mod (.str (Str.ofString "W505 doc line too long (%d > %d characters)") t) (.ref b)) Q E s := by
  have T : ∃ T, T = msgW len most := ⟨_, rfl⟩
  (refine' KPt.mod_tuple ?kptN ?kptb ?kptF ?kptm ?_; (case kptN => k_asm); (case kptb => exact hb); (case kptF => kpt_eq); (case kptm => kpt_run))
  intro t' k
  exact h t' k
end Mine
-- part MGNew
namespace Mine
/-- a generator that has not begun, and what it will yield -/
def GenNew (w : World) (A : Around) (a : Addr) (ds : List Dat) (h₀ : Heap) (L₀ : Addr) (m₀ : Str → Option Value) (news : List (Addr × Obj)) (gens₀ : Array GenState) (h : Heap) (gens : Array GenState) : Prop :=
  ∃ (g : Heap) (L : Nat) (m : Str → Option Value) (body : List Stmt) (env : Env), h.IsGen a gens₀.size ∧ gens = gens₀.push (.fresh (.func body env)) ∧ g.NoLimit ∧ Fr g L h m ∧ g.get? a = none ∧ a ≠ L ∧ Fr h₀ L₀ g m₀ ∧ News h₀ L₀ g news ∧
    ∀ (S c : Nat) (z s' : Shared), Held g L S a gens₀.size z [] [] [] m c s' → Seg (model pg w) A.in1.in1.in1 (genR g L S a gens₀.size z ds) (genY g L S a gens₀.size z ds) ds.length s' (.func body env) ((model pg w).den (.func body env)) [] s'
theorem list_K {w : World} {A : Around} {Q E : Value → Shared → Prop} {s : Shared} {a : Addr} {ds : List Dat} {h₀ : Heap} {L₀ : Addr} {m₀ : Str → Option Value} {news : List (Addr × Obj)} {gens₀ : Array GenState} (G : GenNew w A a ds h₀ L₀ m₀ news gens₀ s.heap s.gens) (hh : A.handled = none) (hroom : A.depth + 10 < recursionLimit) (hn : ds.length < 100000) (hb : AllBare gens₀)
    (ret : ∀ (S : Addr) c tl (acc : List Value) h' gens' tk, DatAll tl acc ds → Fr h₀ L₀ h' m₀ → News h₀ L₀ h' ((S, W.listOf acc.toArray c) :: (tl ++ news)) → (∀ p ∈ tl, ∀ q ∈ news, q.1 ≠ p.1) → (∀ q ∈ news, q.1 ≠ S) → (∀ p ∈ tl, p.1 ≠ S) → AllBare gens' → Q (.ref S) { s with heap := h', gens := gens', toks := tk }) :
    wpAny (model pg w) A (call (.type "list") [.ref a]) Q E s := by
  obtain ⟨g, L, m, body, env, hgen, hgs, hlim, F, hga, haL, F0, N0, hseg⟩ := G
  have haS : a ≠ s.heap.objs.size := by
    obtain ⟨o, _, _, ho, _⟩ := hgen
    exact Nat.ne_of_lt (Heap.lt_size ho)
  have gS : g.get? s.heap.objs.size = none := by
    cases e : g.get? s.heap.objs.size with
    | none => rfl
    | some o => exact absurd (Heap.lt_size (F.keep _ _ e)) (Nat.lt_irrefl _)
  have D := drain_gen (prog := pg) (w := w) (A := A.in1.in1) (g := g) (L := L) (S := s.heap.objs.size) (a := a) (gi := gens₀.size) (z := s) (D := ds) (by exact hh) hlim (by show A.depth < _; omega) hn
  refine call_list_own D hgen (fun h₁ c₁ h2 h3 => ?_) fun s₁ hf => ?_
  · have hk : ∀ b o, s.heap.get? b = some o → h₁.get? b = some o := fun b o e => h3 b o (Nat.ne_of_lt (Heap.lt_size e)) e
    have held : ∀ s', s'.heap = h₁ → Same gens₀.size s s' → Held g L s.heap.objs.size a gens₀.size s [] [] [] m c₁ s' := fun s' e hs => by
      subst e
      refine ⟨F.keeps hk, fun p hp => ?_, (fun p hp => nomatch hp), .nil, hgen.keeps hk, haS, hs⟩
      rw [List.mem_singleton.mp hp]
      exact ⟨h2, Nat.ne_of_gt F.ns.lt, gS⟩
    refine ⟨⟨[], [], m, c₁, held _ rfl ⟨rfl, fun _ _ => rfl, rfl, rfl⟩⟩, .fresh (.func body env), ?_, rfl, ?_⟩
    · show s.gens[gens₀.size]? = _
      rw [hgs]; exact Array.getElem?_push_size
    · exact hseg _ _ _ _ (held _ rfl ((Same.mk rfl (fun _ _ => rfl) rfl rfl : Same gens₀.size s { s with heap := h₁ }).set .running))
  · obtain ⟨⟨acc, tl, m', c, H⟩, hfin⟩ := hf
    obtain ⟨h', gens', dr, tk, os⟩ := s₁
    obtain rfl : dr = s.drawn := H.same.drawn
    obtain rfl : os = s.os := H.same.os
    have hN : News h₀ L₀ h' news := fun p hp => ⟨H.fr.keep _ _ (N0 p hp).1, (N0 p hp).2⟩
    have nw : ∀ p : Addr × Obj, g.get? p.1 = none → p.1 ≠ L₀ ∧ h₀.get? p.1 = none := fun p hp => by
      constructor
      · intro e
        obtain ⟨oL, _, _, hL, _⟩ := F0.ns
        rw [e, hL] at hp; cases hp
      · cases e : h₀.get? p.1 with
        | none => rfl
        | some o => rw [F0.keep _ _ e] at hp; cases hp
    have ne : ∀ p : Addr × Obj, g.get? p.1 = none → ∀ q ∈ news, q.1 ≠ p.1 := fun p hp q hq e => by
      have := (N0 q hq).1
      rw [e, hp] at this; cases this
    have hS := H.news _ (.head _)
    refine ret _ c tl acc h' gens' tk H.dat (F0.keeps H.fr.keep) (fun p hp => ?_) (fun p hp => ne p (H.news p (.tail _ hp)).2.2) (fun q hq => ne (s.heap.objs.size, lstO acc.toArray c) hS.2.2 q hq) H.off ?_
    · rcases List.mem_cons.mp hp with rfl | hp
      · exact ⟨hS.1, nw _ hS.2.2⟩
      · rcases List.mem_append.mp hp with hp | hp
        · have := H.news p (.tail _ hp)
          exact ⟨this.1, nw p this.2.2⟩
        · exact hN p hp
    · intro y hy
      obtain ⟨k, hk, rfl⟩ := Array.mem_iff_getElem.mp hy
      have hk' : gens'[k]? = some gens'[k] := Array.getElem?_eq_getElem hk
      by_cases e : k = gens₀.size
      · subst e
        have : gens'[gens₀.size]? = some .finished := hfin
        rw [hk'] at this
        rw [Option.some.inj this]; rfl
      · have h1 : gens'[k]? = s.gens[k]? := H.same.gens k e
        rw [hgs] at h1
        have hsz : gens'.size = gens₀.size + 1 := by
          have := H.same.size
          rw [hgs, Array.size_push] at this
          exact this
        have hlt : k < gens₀.size := by omega
        rw [hk', Array.getElem?_push_lt hlt] at h1
        rw [Option.some.inj h1]
        exact hb _ (Array.getElem_mem hlt)
end Mine
-- part MBody
namespace Mine
local macro_rules | `(tactic| walk_at "zzz") => `(tactic| fail)
local macro_rules | `(tactic| walk_at "zzz") => `(tactic| fail)
local macro_rules | `(tactic| walk_at "zzz") => `(tactic| fail)
local macro_rules | `(tactic| walk_at "zzz") => `(tactic| fail)
local macro_rules | `(tactic| walk_at "zzz") => `(tactic| fail)
local macro_rules | `(tactic| walk_at "zzz") => `(tactic| fail)
local macro_rules | `(tactic| walk_at "zzz") => `(tactic| fail)
local macro_rules | `(tactic| walk_at "zzz") => `(tactic| fail)
local macro_rules | `(tactic| walk_at "zzz") => `(tactic| fail)
local macro_rules | `(tactic| walk_at "zzz") => `(tactic| fail)
theorem tup_cat {prog : Program} {w : World} {A : Around} {E : Value → Shared → Prop} {s : Shared} {h₀ : Heap} {L : Addr} {m : Str → Option Value} {news : List (Addr × Obj)} {t b : Addr} {vs ws : List Value} {Q : Value → Shared → Prop} (F : Fr h₀ L s.heap m) (N : News h₀ L s.heap news) (ht : IsTup s.heap t vs.toArray) (hb : IsTup s.heap b ws.toArray)
    (hv : vs ≠ []) (hw : ws ≠ []) (hsz : vs.length + ws.length ≤ sizeLine)
    (h : ∀ (D : Addr) h', Fr h₀ L h' m → News h₀ L h' ((D, { cls := .type "tuple", data := .seq (vs ++ ws).toArray }) :: news) → (∀ p ∈ news, p.1 < D) → Q (.ref D) { s with heap := h' }) :
    wpAny (model prog w) A (binaryOp .Add (.ref t) (.ref b)) Q E s :=
  add_tuples F N ht hb (fun e => absurd e hv) (fun _ e => absurd e hw) (fun _ _ h' F' N' => h _ h' F' N' fun p hp => Heap.lt_size (N p hp).1) hsz
local macro_rules | `(tactic| walk_at "binaryOp Add ref ref") => `(tactic| (k_here; (with_reducible show wpAny _ _ (binaryOp _ (Value.ref _) (Value.ref _)) _ _ _); k_dflt (refine' tup_cat ?k1 ?k2 ?k3 ?k4 ?k5 ?k6 ?k7 ?_; (case k1 => k_asm); (case k2 => k_asm); (case k3 => first | exact News.isTup (by k_asm) (by k_mem) | exact kun_topT (by k_asm) (by k_asm) (by k_is)); (case k4 => first | exact News.isTup (by k_asm) (by k_mem) | exact kun_topT (by k_asm) (by k_asm) (by k_is)); (case k5 => exact List.cons_ne_nil _ _); (case k6 => exact List.cons_ne_nil _ _); (case k7 => exact Nat.le_of_ble_eq_true rfl); k_whole); intro D' h' F' N' l1; (try dsimp only [List.cons_append, List.nil_append] at N'); (try k_lt l1)))
local macro_rules | `(tactic| walk_at "truthy ref") => `(tactic| (k_here; (with_reducible show wpAny _ _ (truthy (Value.ref _)) _ _ _); k_dflt (refine' truthy_setS ?k1 ?k2 ?k3 ?k4 ?_; (case k1 => k_asm); (case k2 => k_mem); (case k3 => assumption); (case k4 => omega); k_whole)))
local macro_rules | `(tactic| walk_at "compareOp In int ref") => `(tactic| (k_here; (with_reducible show wpAny _ _ (compareOp CmpOp.In _ (Value.ref _)) _ _ _); k_dflt (refine' in_tuple_ints ?k1 ?k2 ?_; (case k1 => first | exact News.isTup (by k_asm) (by k_mem) | exact kun_topT (by k_asm) (by k_asm) (by k_is)); (case k2 => repeat constructor); k_whole)))
local macro_rules | `(tactic| walk_at "call builtin:str.splitlines") => `(tactic| (k_here; (with_reducible show wpAny _ _ (call (Value.builtin "str.splitlines") _) _ _ _); k_dflt (refine' lines_K ?k1 ?k2 ?k3 ?_; (case k1 => k_asm); (case k2 => k_asm); (case k3 => assumption); k_whole); intro ll' lv' h' k' le' F' N' l1 ls' ln'; (try k_lt l1)))
local macro_rules | `(tactic| walk_at "call builtin:str.split") => `(tactic| (k_here; (with_reducible show wpAny _ _ (call (Value.builtin "str.split") _) _ _ _); k_dflt (refine' words_K ?k1 ?k2 ?k3 ?_; (case k1 => k_asm); (case k2 => k_asm); (case k3 => assumption); k_whole); intro wl' wv' h' k' we' F' N' l1 ws' wn'; (try k_lt l1)))
local macro_rules | `(tactic| walk_at "call builtin:len") => `(tactic| (k_here; (with_reducible show wpAny _ _ (call (Value.builtin "len") [Value.ref _]) _ _ _); k_dflt (refine' len_strs ?k1 ?k2 ?k3 ?k4 ?_; (case k1 => k_asm); (case k2 => k_mem); (case k3 => assumption); (case k4 => assumption); k_whole)))
local macro_rules | `(tactic| walk_at "subscriptTail Name UnaryOp ref int") => `(tactic| (k_here; (with_reducible show wpAny _ _ (subscriptTail _ _ (Value.ref _) (Value.int _ _)) _ _ _); k_dflt (refine' words_last ?k0 ?k1 ?k2 ?k3 ?k4 ?k5 ?k6 ?_ ?k7; (case k0 => first | exact rfl | omega); (case k1 => k_asm); (case k2 => k_mem); (case k3 => assumption); (case k4 => assumption); (case k5 => omega); (case k6 => assumption); (case k7 => with_unfolding_all rfl); k_whole); intro ly' lt' lle' lln'))
local macro_rules | `(tactic| walk_at "binaryOp Mod str ref") => `(tactic| (k_here; (with_reducible show wpAny _ _ (binaryOp Operator.Mod (Value.str _ _) (Value.ref _)) _ _ _); k_dflt (refine' mod_msg ?k1 ?k2 ?k3 ?k4 ?k5 ?k6 ?_; (case k1 => k_asm); (case k2 => k_mem); (case k3 => omega); (case k4 => omega); (case k5 => omega); (case k6 => omega); k_whole); intro mt' mk'))
local macro_rules | `(tactic| walk_at "call type:enumerate") => `(tactic| (k_here; (with_reducible show wpAny _ _ (call (Value.type "enumerate") [Value.ref _]) _ _ _); k_dflt (refine' enum_list ?k1 ?k2 ?k3 ?_; (case k1 => k_asm); (case k2 => k_asm); (case k3 => exact News.isList (by k_asm) (by k_mem)); k_whole); intro En' It' oE' oI' h' hE' hI' F' N' hne' hoff'))
local macro_rules | `(tactic| walk_at "pyIter ref") => `(tactic| (k_here; (with_reducible show wpAny _ _ (pyIter (Value.ref _)) _ _ _); k_dflt (refine' iter_enum ?k1 ?k2 ?_; (case k1 => assumption); (case k2 => assumption); k_whole)))
local macro_rules | `(tactic| walk_at "assign Tuple") => `(tactic| (k_here; (with_reducible show wpAny _ _ (assign (Expr.Tuple _ _ _) _ (Value.ref _)) _ _ _); k_dflt (refine' unpackN_ ?k1 ?k2 ?k3 ?k4 ?k5 ?k6 ?_; (case k1 => k_asm); (case k2 => k_asm); (case k3 => first | exact Fr.tup (by k_asm) (by assumption) | exact News.isTup (by k_asm) (by k_mem)); (case k4 => assumption); (case k5 => exact rfl); (case k6 => exact rfl); k_whole); intro h' F' N'))

/-- a generator that has not begun, and what it will yield -/
structure TokAt (g : Heap) (v : Value) (t : Tk) : Prop where
  ex : ∃ T pa pb t1 t2 t3 t4 t5 t6 t7, v = .ref T ∧ IsTup g T #[.int t.ty t1, .str t.tx t2, .ref pa, .ref pb, .str t.line t3] ∧ IsTup g pa #[.int t.r0 t4, .int t.c0 t5] ∧ IsTup g pb #[.int t.r1 t6, .int t.c1 t7]
theorem tok_at {g h : Heap} {L : Addr} {XL : List (Addr × Obj)} {v : Value} {t : Tk} (N : News g L h XL) (hd : DatIn XL v t.dat) : TokAt h v t := by
  obtain ⟨ty, tx, r0, c0, r1, c1, line⟩ := t
  cases hd with
  | tuple hm hd =>
    cases hd with
    | cons h1 hd => cases hd with
      | cons h2 hd => cases hd with
        | cons h3 hd => cases hd with
          | cons h4 hd => cases hd with
            | cons h5 hd =>
              cases hd; cases h1; cases h2; cases h5
              cases h3 with
              | tuple hm3 hd3 =>
                cases hd3 with
                | cons a1 hd3 => cases hd3 with
                  | cons a2 hd3 =>
                    cases hd3; cases a1; cases a2
                    cases h4 with
                    | tuple hm4 hd4 =>
                      cases hd4 with
                      | cons b1 hd4 => cases hd4 with
                        | cons b2 hd4 =>
                          cases hd4; cases b1; cases b2
                          exact ⟨⟨_, _, _, _, _, _, _, _, _, _, rfl, News.isTup N hm, News.isTup N hm3, News.isTup N hm4⟩⟩
theorem toks_at {g h : Heap} {L : Addr} {XL : List (Addr × Obj)} {vs : List Value} {ts : List Tk} (N : News g L h XL) (D : TksIn XL vs ts) {i : Nat} {v : Value} (hv : vs[i]? = some v) : ∃ t, ts[i]? = some t ∧ TokAt h v t := by
  have hlen : vs.length = ts.length := (DatAll.length D).trans (List.length_map ..)
  have hi : i < (ts.map Tk.dat).length := by
    rw [List.length_map, ← hlen]; exact (List.getElem?_eq_some_iff.mp hv).1
  obtain ⟨v', e, hd⟩ := DatAll.get D hi
  rw [hv] at e
  obtain rfl := Option.some.inj e
  have hi' : i < ts.length := by simpa using hi
  refine ⟨ts[i], List.getElem?_eq_getElem hi', tok_at N ?_⟩
  have e2 : (ts.map Tk.dat)[i] = ts[i].dat := by simp
  rw [← e2]; exact hd
def SkipT (t : Tk) : Prop := t.ty ≠ 62 ∧ t.ty ≠ 4 ∧ t.ty ≠ 5 ∧ t.ty ≠ 6 ∧ t.ty ≠ 61 ∧ t.ty ≠ 60 ∧ t.ty ≠ 3
/-- the first loop: the lines that hold code -/
def LJ1 (w : World) (S d c tk a : Nat) (oa : Obj) (gi : Nat) (z : Shared) (ts : List Tk) (most : Int) (N : Nat) (i n : Nat) (m : Str → Option Value) (nx : List (Addr × Obj)) (s : Shared) : Prop :=
  n = N ∧ Same gi z s ∧ ∃ o P cnt tm, nx = [(d, o), (S, lstO #[] c), (a, oa)] ∧ o.SetObjOf (strKind pg w) P cnt ∧ cnt ≤ i ∧ (0 < cnt ↔ Skip (ts.take i)) ∧ (∀ y, P y = true → 0 < cnt) ∧
    m (Str.ofString "tokens") = some (.ref tk) ∧ m (Str.ofString "max_doc_length") = some (.int most tm) ∧ m (Str.ofString "prev_token") = some .none ∧ m (Str.ofString "skip_lines") = some (.ref d)
def PrevV (p : Option Int) (v : Value) : Prop := match p with
  | none => v = .none
  | some k => ∃ t, v = .int k t
/-- the second loop -/
def LJ2 (w : World) (S d a : Nat) (oa : Obj) (gi : Nat) (z : Shared) (ts : List Tk) (most : Int) (D : List Dat) (i n : Nat) (m : Str → Option Value) (nx : List (Addr × Obj)) (s : Shared) : Prop :=
  Same gi z s ∧ n ≤ D.length ∧ ∃ o P cnt tm prev pv acc tl cS, nx = (d, o) :: (S, lstO acc.toArray cS) :: (a, oa) :: tl ∧ o.SetObjOf (strKind pg w) P cnt ∧ cnt ≤ 9 ∧ (0 < cnt ↔ Skip ts) ∧
    DatAll tl acc (D.take (D.length - n)) ∧ (∀ p ∈ tl, p.1 ≠ S) ∧ Gen most (Skip ts) prev (ts.drop i) (D.drop (D.length - n)) ∧ PrevV prev pv ∧
    m (Str.ofString "max_doc_length") = some (.int most tm) ∧ m (Str.ofString "prev_token") = some pv ∧ m (Str.ofString "skip_lines") = some (.ref d)
theorem skip_step {ts : List Tk} {i : Nat} {t : Tk} (h : ts[i]? = some t) : Skip (ts.take (i + 1)) ↔ Skip (ts.take i) ∨ SkipT t := by
  rw [List.take_add_one, h]
  constructor
  · rintro ⟨u, hu, q⟩
    rcases List.mem_append.mp hu with hu | hu
    · exact .inl ⟨u, hu, q⟩
    · rw [List.mem_singleton.mp hu] at q
      exact .inr q
  · rintro (⟨u, hu, q⟩ | q)
    · exact ⟨u, List.mem_append.mpr (.inl hu), q⟩
    · exact ⟨t, List.mem_append.mpr (.inr (List.mem_singleton.mpr rfl)), q⟩
theorem gen_K {w : World} {A : Around} {mean : ExcName → Option Value} {mg mb : Str → Option Value} {h₀ : Heap} {s : Shared} {L : Addr} {m : Str → Option Value} {news : List (Addr × Obj)} {Q E : Value → Shared → Prop} {row most : Int} {x : Str} {tx tm : Tok} {tk : Addr} {vs : List Value} {c1 : Nat} {ts : List Tk} {ds : List Dat} {XL : List (Addr × Obj)}
    (F : Fr h₀ L s.heap m) (N : News h₀ L s.heap news) (X : (Tp.heap_39 w.params).In h₀) (T : TopH mean mg mb h₀)
    (hd : A.depth + 20 < recursionLimit) (hu : A.units + 200 < cLine) (hh : A.handled = none) (hm0 : 0 ≤ most) (hm1 : most < 200) (hsub : ∀ p ∈ XL, p ∈ news) (htk : (tk, W.listOf vs.toArray c1) ∈ XL) (hts : TksIn XL vs ts) (ok : StmtOk row most ts ds) (hrow : 1 ≤ row) (hrow1 : row < 100000)
    (ret : ∀ (a : Addr) h' tks k nm qn t u gs, Fr h₀ L h' m → News h₀ L h' ((a, genO k nm qn t u) :: news) → (∀ p ∈ news, p.1 ≠ a) → GenNew w A a ds h₀ L m news s.gens h' (s.gens.push gs) → Q (.ref a) { s with heap := h', gens := s.gens.push gs, toks := tks }) :
    wpAny (model pg w) A (call (.ref 45) [.str x tx, .int most tm, .bool false, .ref tk]) Q E s := by
  have _ : (fun (_ : OpenLaw) (_ : Frag) => True) PySem.Challenge.rw_et5024_01 (Tp.heap_39 w.params) := by (k_fill; trivial)
  refine wpAny_call ?_
  (refine' code_gen (K := Tp.heap_39 w.params) ?kX (T.keeps F.keep).nolimit ?k6 ?k7 ?k8 ?k9 ?kB ?_ ?c2 ?c3 ?c4 ?c5; (case kX => exact fun a o e => F.keep _ _ (X a o e)); (case k6 => k_is); (case k7 => k_is); (case k8 => omega); (case k9 => exact BindsTo.of_eq rfl); (case c5 => decide); (case kB => exact locs rfl); (case c2 => exact rfl); (case c3 => exact rfl); (case c4 => exact rfl))
  intro h₁ tks t u F₁
  have hn : ∀ b o, s.heap.get? b = some o → (h₁.push (genO s.gens.size (Str.ofString "maximum_doc_length") (Str.ofString "maximum_doc_length") t u)).get? b = some o := fun b o e => Heap.get?_push_of_some _ (F₁.keep b o e)
  have hga : s.heap.get? h₁.objs.size = none ∧ h₁.objs.size ≠ s.heap.objs.size := new_none F₁ (Nat.le_refl _)
  refine ret h₁.objs.size _ tks s.gens.size (Str.ofString "maximum_doc_length") (Str.ofString "maximum_doc_length") t u _ (F.keeps hn) ?_ ?_ ⟨s.heap, s.heap.objs.size, _, _, _, ⟨_, _, _, Heap.get?_push_size _ rfl, rfl, rfl, rfl⟩, rfl, (T.keeps F.keep).nolimit, F₁.push _, hga.1, hga.2, F, N, ?_⟩
  · intro p hp
    rcases List.mem_cons.mp hp with rfl | hp
    · refine ⟨Heap.get?_push_size _ rfl, Nat.ne_of_gt (F.keeps F₁.keep).ns.lt, ?_⟩
      cases e : h₀.get? h₁.objs.size with
      | none => rfl
      | some o => exact absurd (Heap.lt_size ((F.keeps F₁.keep).keep _ _ e)) (Nat.lt_irrefl _)
    · exact ⟨hn _ _ (N p hp).1, (N p hp).2⟩
  · exact fun p hp => Nat.ne_of_lt (Heap.lt_size (F₁.keep _ _ (N p hp).1))
  intro S c z s' H
  refine seg_func ?_
  have A' : ∃ A', A.in1.in1.in1 = A' := ⟨_, rfl⟩
  obtain ⟨m2, hm2⟩ : ∃ m2, m2 = A.in1.in1.in1 := ⟨_, rfl⟩
  refine seg_stmt ?_
  have F2 := H.fr
  obtain ⟨oa, nma, qna, hoa, hoa2⟩ := H.gen
  have N2 : News s.heap s.heap.objs.size s'.heap [(S, lstO #[] c), (h₁.objs.size, oa)] := fun p hp => by
    rcases List.mem_cons.mp hp with rfl | hp
    · exact H.news _ (.head _)
    · rw [List.mem_singleton.mp hp]
      exact ⟨hoa, hga.2, hga.1⟩
  have hSa := neN H.ne
  have X2 : (Tp.heap_39 w.params).In s.heap := fun a o e => F.keep _ _ (X a o e)
  have T2 := T.keeps F.keep
  have hlt : s.heap.IsList tk vs.toArray := ⟨_, (N _ (hsub _ htk)).1, rfl, c1, rfl⟩
  have NX : News h₀ L s.heap XL := fun p hp => N p (hsub p hp)
  have hvt : ∀ i v, vs.toArray[i]? = some v → ∃ t, ts[i]? = some t ∧ TokAt s.heap v t := fun i v hv => toks_at NX hts (by simpa using hv)
  have hvl : vs.length = ts.length := (DatAll.length hts).trans (List.length_map ..)
  have hts9 := ok.len
  clear F N X T F₁ hn ret NX
  show wpAny _ _ _ _ _ _
  k_fold
  k_steps
  refine seg_stmt ?_
  show wpAny _ _ _ _ _ _
  k_fold
  k_steps
  refine seg_stmt ?_
  show wpAny _ _ _ _ _ _
  k_fold
  k_steps
  refine seg_For ?_
  show wpAny _ _ _ _ _ _
  k_fold
  k_steps
  rename_i d h3 led hsi hss l1 h4 F4 N4
  refine iter_list F4 N4 (hlt.at fun o e => F4.keep _ o e) ?_
  intro I oI h5 hI FI NI hoffI p
  refine seg_tokens (g := s.heap) (LJ1 w S d c tk h₁.objs.size oa s.gens.size z ts most ds.length) ?hh hlt (fun i v hv => (hvt i v hv).elim fun t ht => ht.2.ex.elim fun T hT => ⟨T, by obtain ⟨_, _, _, _, _, _, _, _, _, e, _⟩ := hT; exact e⟩) (fun i n m nx s h' hj => ⟨hj.1, ⟨hj.2.1.size, hj.2.1.gens, hj.2.1.drawn, hj.2.1.os⟩, hj.2.2⟩) ?_ ?D
    vs.toArray.size 0 ds.length _ _ _ _ oI rfl (Nat.zero_le _) ⟨rfl, ⟨H.same.size, H.same.gens, H.same.drawn, H.same.os⟩, _, _, 0, _, rfl, hss, Nat.le_refl _, ?K0, (fun y e => by cases e), rfl, rfl, rfl, rfl⟩ hI hoffI FI NI
  case hh => exact hh
  case K0 =>
    rw [List.take_zero]
    exact ⟨fun q => absurd q (Nat.lt_irrefl _), fun ⟨t, ht, _⟩ => by cases ht⟩
  · rintro i n s₀ v m₁ nx s₁ oI' hv ⟨rfl, hsame, o, P, cnt, tm', rfl, hso, hcnt, hsk, hP, hm1, hm2, hm3, hm4⟩ hI' hoff F₁ N₁ cont
    obtain ⟨t, hti, ⟨T, pa, pb, t1, t2, t3, t4, t5, t6, t7, rfl, hT, hTa, hTb⟩⟩ := hvt i v hv
    clear F4 N4 FI NI
    have F' := fr_as (m' := fun y => if y = Str.ofString "tokens" then some (.ref tk) else if y = Str.ofString "max_doc_length" then some (.int most tm') else if y = Str.ofString "prev_token" then some (.none) else if y = Str.ofString "skip_lines" then some (.ref d) else m₁ y) F₁
      (fun y => by (try dsimp only)
                   split; · rename_i e; rw [e, hm1]
                   split; · rename_i e; rw [e, hm2]
                   split; · rename_i e; rw [e, hm3]
                   split; · rename_i e; rw [e, hm4]
                   rfl)
    clear F₁
    have hId := neN (hoff (d, o) (.head _))
    have hIS := neN (hoff (S, lstO #[] c) (.tail _ (.head _)))
    dsimp only at hId hIS
    have hi9 : i < 9 := by have := (List.getElem?_eq_some_iff.mp hti).1; omega
    show wpAny _ _ _ _ _ _
    k_fold
    k_steps
    refine seg_stmt ?_
    show wpAny _ _ _ _ _ _
    k_fold
    k_steps
    · rename List.any _ _ = true => hany
      have hns : ¬ SkipT t := by
        rintro ⟨q1, q2, q3, q4, q5, q6, q7⟩
        simp at hany
        omega
      refine' seg_execs_nil (cont ds.length s₀ _ [(d, o), (S, lstO #[] c), (h₁.objs.size, oa)] _ ?J hoff ?F ?N)
      case F => assumption
      case J => exact ⟨rfl, ⟨hsame.size, hsame.gens, hsame.drawn, hsame.os⟩, o, P, cnt, tm', rfl, hso, Nat.le_succ_of_le hcnt, by rw [skip_step hti]; exact ⟨fun q => .inl (hsk.mp q), fun q => hsk.mpr (q.resolve_right hns)⟩, hP, rfl, rfl, rfl, rfl⟩
      case N =>
        rename News _ _ _ _ => NZ
        exact fun p hp => NZ p (.tail _ (.tail _ hp))
    · rename List.any _ _ = false => hany
      have hns : SkipT t := by
        simp at hany
        unfold SkipT
        omega
      rename News _ _ _ _ => NZ
      rename Obj.SetObjOf _ _ _ _ => hso'
      refine' seg_execs_nil (cont ds.length s₀ _ [(d, _), (S, lstO #[] c), (h₁.objs.size, oa)] _ ?J ?off ?F (fun p hp => NZ p (.tail _ (.tail _ hp))))
      case F => assumption
      case off =>
        intro p hp
        rcases List.mem_cons.mp hp with rfl | hp
        · exact hoff (d, o) (.head _)
        · exact hoff p (.tail _ hp)
      case J =>
        have h0 : 0 < (if P t.line = true then cnt else cnt + 1) := by
          split
          · rename_i e; exact hP _ e
          · omega
        refine ⟨rfl, ⟨hsame.size, hsame.gens, hsame.drawn, hsame.os⟩, _, _, _, tm', rfl, hso', ?_, ?_, fun _ _ => h0, rfl, rfl, rfl, rfl⟩
        · split <;> omega
        · rw [skip_step hti]; exact ⟨fun _ => .inr hns, fun _ => h0⟩
  case D =>
    rintro n s₀ m₁ nx s₁ ⟨rfl, hsame, o, P, cnt, tm', rfl, hso, hcnt, hsk, hP, hm1, hm2, hm3, hm4⟩ F₁ N₁
    refine seg_block_nil ?_
    refine seg_For ?_
    show wpAny _ _ _ _ _ _
    k_fold
    clear F4 N4 FI NI
    have F' := fr_as (m' := fun y => if y = Str.ofString "tokens" then some (.ref tk) else if y = Str.ofString "max_doc_length" then some (.int most tm') else if y = Str.ofString "prev_token" then some (.none) else if y = Str.ofString "skip_lines" then some (.ref d) else m₁ y) F₁
      (fun y => by (try dsimp only)
                   split; · rename_i e; rw [e, hm1]
                   split; · rename_i e; rw [e, hm2]
                   split; · rename_i e; rw [e, hm3]
                   split; · rename_i e; rw [e, hm4]
                   rfl)
    clear F₁
    k_steps
    rename Fr _ _ _ _ => F5
    refine iter_list F5 N₁ (hlt.at fun o e => F5.keep _ o e) ?_
    intro I2 oI2 h6 hI2 FI2 NI2 hoffI2 p2
    clear F5 N₁ hI hoffI
    refine seg_tokens (g := s.heap) (LJ2 w S d h₁.objs.size oa s.gens.size z ts most ds) (by exact hh) hlt (fun i v hv => (hvt i v hv).elim fun t ht => ht.2.ex.elim fun T hT => ⟨T, by obtain ⟨_, _, _, _, _, _, _, _, _, e, _⟩ := hT; exact e⟩) (fun i n m nx s h' hj => ⟨⟨hj.1.size, hj.1.gens, hj.1.drawn, hj.1.os⟩, hj.2⟩) ?_ ?D2
      vs.toArray.size 0 ds.length _ _ _ _ oI2 rfl (Nat.zero_le _) ⟨⟨hsame.size, hsame.gens, hsame.drawn, hsame.os⟩, Nat.le_refl _, o, P, cnt, tm', none, _, [], [], c, rfl, hso, ?_, ?_, ?_, (fun p hp => nomatch hp), ?_, rfl, rfl, rfl, rfl⟩ hI2 hoffI2 FI2 NI2
    rotate_left 2
    · rw [List.size_toArray, hvl] at hcnt; omega
    · rw [hsk, List.take_of_length_le (by simp [hvl])]
    · rw [Nat.sub_self]; exact .nil
    · rw [Nat.sub_self]; exact ok.run
    rotate_left
    · clear hsame hso hcnt hsk hP hm1 hm2 hm3 hm4 FI2 NI2 oI2 hI2 hoffI2
      rintro n s₀ m₁ nx s₁ ⟨hsame, hn, o, P, cnt, tm', prev, pv, acc, tl, cS, rfl, hso, hcnt, hsk, hdat, htl, hgen, hpv, hm2, hm3, hm4⟩ F₁ N₁
      refine seg_block_nil ?_
      show Seg _ _ _ _ _ _ _ ((execs _ _).wrap _ _ _ _) _ _
      refine seg_execs_nil ?_
      rw [List.drop_eq_nil_of_le (by simp [hvl])] at hgen
      obtain rfl : n = 0 := drop_nil hn hgen.nil'
      refine seg_end (.ok (.ret .none)) ⟨rfl, rfl, acc, tl, m₁, cS, F₁, (fun p hp => ?_), htl, ?_, ⟨oa, nma, qna, (N₁ _ (.tail _ (.tail _ (.head _)))).1, hoa2⟩, H.ne, ⟨hsame.size, hsame.gens, hsame.drawn, hsame.os⟩⟩
      · rcases List.mem_cons.mp hp with rfl | hp
        · exact N₁ _ (.tail _ (.head _))
        · exact N₁ _ (.tail _ (.tail _ (.tail _ hp)))
      · rw [Nat.sub_zero, List.take_length] at hdat
        exact hdat
    · clear hsame hso hcnt hsk hP hm1 hm2 hm3 hm4 FI2 NI2 oI2 hI2 hoffI2
      rintro i n s₀ v m₁ nx s₁ oI' hv ⟨hsame, hn, o, P, cnt, tm', prev, pv, acc, tl, cS, rfl, hso, hcnt, hsk, hdat, htl, hgen, hpv, hm2, hm3, hm4⟩ hI' hoff F₁ N₁ cont
      obtain ⟨t, hti, ⟨T, pa, pb, t1, t2, t3, t4, t5, t6, t7, rfl, hT, hTa, hTb⟩⟩ := hvt i v hv
      have F' := fr_as (m' := fun y => if y = Str.ofString "max_doc_length" then some (.int most tm') else if y = Str.ofString "prev_token" then some (pv) else if y = Str.ofString "skip_lines" then some (.ref d) else m₁ y) F₁
        (fun y => by (try dsimp only)
                     split; · rename_i e; rw [e, hm2]
                     split; · rename_i e; rw [e, hm3]
                     split; · rename_i e; rw [e, hm4]
                     rfl)
      clear F₁
      have hId := neN (hoff (d, o) (.head _))
      have hIS := neN (hoff (S, lstO acc.toArray cS) (.tail _ (.head _)))
      have hIa := neN (hoff (h₁.objs.size, oa) (.tail _ (.tail _ (.head _))))
      dsimp only at hId hIS hIa
      rw [toks_drop hti] at hgen
      show wpAny _ _ _ _ _ _
      k_fold
      k_steps
      rename Fr _ _ _ _ => F7
      rename News _ _ _ _ => N7
      have F8 := fr_names [(Str.ofString "token_type", .int t.ty t1), (Str.ofString "start", .ref pa), (Str.ofString "line", .str t.line t3), (Str.ofString "max_doc_length", .int most tm'), (Str.ofString "prev_token", pv), (Str.ofString "skip_lines", .ref d)] F7 (ats_cons rfl (ats_cons rfl (ats_cons rfl (ats_cons rfl (ats_cons rfl (ats_cons rfl ats_nil))))))
      dsimp only [asNames] at F8
      clear F7 F'
      refine seg_stmt (wpAny_mono (Q := fun f s' => Cut s.heap s.heap.objs.size s₁ ((I2, oI') :: (d, o) :: (S, lstO acc.toArray cS) :: (h₁.objs.size, oa) :: tl) [(Str.ofString "token_type", .int t.ty t1), (Str.ofString "start", .ref pa), (Str.ofString "line", .str t.line t3), (Str.ofString "max_doc_length", .int most tm'), (Str.ofString "prev_token", pv), (Str.ofString "skip_lines", .ref d)] s' ∧ ((f = .cont ∧ t.ty = 3 ∧ 0 < cnt) ∨ (f = .next ∧ (t.ty = 3 → ¬ 0 < cnt)))) ?key ?nxt (fun _ _ x => x))
      case key =>
        show wpAny _ _ _ _ _ _
        k_fold
        k_steps
        all_goals (try dsimp only)
        all_goals (try (show _ ∧ _))
        all_goals first
          | (rename Fr _ _ _ _ => F9; exact Cut.mk F9 N7 (fun p hp => hp) (ats_cons rfl (ats_cons rfl (ats_cons rfl (ats_cons rfl (ats_cons rfl (ats_cons rfl ats_nil)))))))
          | exact .inl ⟨rfl, by assumption, by assumption⟩
          | exact .inr ⟨rfl, fun _ => by assumption⟩
          | exact .inr ⟨rfl, fun e => absurd e (by assumption)⟩
      case nxt =>
        clear F8 N7 N₁
        rintro f s' ⟨⟨h7, tk7, m7, rfl, F7, N7, ha7⟩, hf⟩
        rcases hf with ⟨rfl, h3, h0⟩ | ⟨rfl, h3⟩
        · exact cont n s₀ m7 _ _ ⟨⟨hsame.size, hsame.gens, hsame.drawn, hsame.os⟩, hn, o, P, cnt, tm', prev, pv, acc, tl, cS, rfl, hso, hcnt, hsk, hdat, htl, hgen.skip' h3 (hsk.mp h0), hpv, ha7 _ (.tail _ (.tail _ (.tail _ (.head _)))), ha7 _ (.tail _ (.tail _ (.tail _ (.tail _ (.head _))))), ha7 _ (.tail _ (.tail _ (.tail _ (.tail _ (.tail _ (.head _))))))⟩ hoff F7 N7
        have hns : t.ty = 3 → ¬ Skip ts := fun e q => h3 e (hsk.mpr q)
        have F8 := fr_names [(Str.ofString "token_type", .int t.ty t1), (Str.ofString "start", .ref pa), (Str.ofString "line", .str t.line t3), (Str.ofString "max_doc_length", .int most tm'), (Str.ofString "prev_token", pv), (Str.ofString "skip_lines", .ref d)] F7 ha7
        dsimp only [asNames] at F8
        clear F7
        dsimp only
        refine seg_If ?_
        show wpAny _ _ _ _ _ _
        k_fold
        k_steps
        rotate_left
        · rename List.any _ _ = false => hany
          have h36 : t.ty ≠ 3 ∧ t.ty ≠ 61 := by simp at hany; omega
          refine seg_execs_nil ?_
          show Seg _ _ _ _ _ _ _ ((execs _ _).wrap _ _ _ _) _ _
          refine seg_stmt ?_
          show wpAny _ _ _ _ _ _
          k_fold
          k_steps
          refine seg_execs_nil ?_
          rename Fr _ _ _ _ => FZ
          rename News _ _ _ _ => NZ
          exact cont n s₀ _ _ _ ⟨⟨hsame.size, hsame.gens, hsame.drawn, hsame.os⟩, hn, o, P, cnt, tm', some t.ty, _, acc, tl, cS, rfl, hso, hcnt, hsk, hdat, htl, hgen.pass' h36.1 h36.2, ⟨t1, rfl⟩, rfl, rfl, rfl⟩ hoff FZ (fun p hp => NZ p (.tail _ hp))
        · rename List.any _ _ = true => hany
          have h36 : t.ty = 3 ∨ t.ty = 61 := by simp at hany; omega
          rename Fr _ _ _ _ => F7
          rename News _ _ _ _ => N7
          refine seg_If (wpAny_mono (Q := fun b s' => Cut s.heap s.heap.objs.size s₁ ((I2, oI') :: (d, o) :: (S, lstO acc.toArray cS) :: (h₁.objs.size, oa) :: tl) [(Str.ofString "token_type", .int t.ty t1), (Str.ofString "start", .ref pa), (Str.ofString "line", .str t.line t3), (Str.ofString "max_doc_length", .int most tm'), (Str.ofString "prev_token", pv), (Str.ofString "skip_lines", .ref d)] s' ∧ (b = true ↔ OkPrev prev)) ?key2 ?nxt2 (fun _ _ x => x))
          case key2 =>
            rcases prev with _ | pk
            · obtain rfl := hpv
              show wpAny _ _ _ _ _ _
              k_fold
              k_steps
              all_goals (try dsimp only)
              all_goals (try (show _ ∧ _))
              all_goals first
                | (rename Fr _ _ _ _ => F9; exact Cut.mk F9 N7 (fun p hp => .tail _ hp) (ats_cons rfl (ats_cons rfl (ats_cons rfl (ats_cons rfl (ats_cons rfl (ats_cons rfl ats_nil)))))))
                | exact ⟨fun _ => okPrev_none, fun _ => rfl⟩
            · obtain ⟨pt, rfl⟩ := hpv
              show wpAny _ _ _ _ _ _
              k_fold
              k_steps
              all_goals (try dsimp only)
              all_goals (try (show _ ∧ _))
              all_goals first
                | (rename Fr _ _ _ _ => F9; exact Cut.mk F9 N7 (fun p hp => .tail _ hp) (ats_cons rfl (ats_cons rfl (ats_cons rfl (ats_cons rfl (ats_cons rfl (ats_cons rfl ats_nil)))))))
                | (rename List.any _ _ = true => hp; exact ⟨fun _ => okPrev_of (by simp at hp; omega), fun _ => rfl⟩)
                | (rename List.any _ _ = false => hp; exact ⟨(fun q => by cases q), fun q => absurd (q _ rfl) (by simp at hp; omega)⟩)
          case nxt2 =>
            clear F7 N7
            rintro b s' ⟨⟨h8, tk8, m8, rfl, F7, N7, ha7⟩, hb⟩
            have F8 := fr_names [(Str.ofString "token_type", .int t.ty t1), (Str.ofString "start", .ref pa), (Str.ofString "line", .str t.line t3), (Str.ofString "max_doc_length", .int most tm'), (Str.ofString "prev_token", pv), (Str.ofString "skip_lines", .ref d)] F7 ha7
            dsimp only [asNames] at F8
            clear F7
            cases b with
            | false =>
              have hp : ¬ OkPrev prev := fun q => by cases hb.mpr q
              rw [if_neg Bool.false_ne_true]
              refine seg_execs_nil ?_
              show Seg _ _ _ _ _ _ _ ((execs _ _).wrap _ _ _ _) _ _
              refine seg_stmt ?_
              show wpAny _ _ _ _ _ _
              k_fold
              k_steps
              refine seg_execs_nil ?_
              rename Fr _ _ _ _ => FZ
              rename News _ _ _ _ => NZ
              exact cont n s₀ _ _ _ ⟨⟨hsame.size, hsame.gens, hsame.drawn, hsame.os⟩, hn, o, P, cnt, tm', some t.ty, _, acc, tl, cS, rfl, hso, hcnt, hsk, hdat, htl, hgen.code' h36 hns hp, ⟨t1, rfl⟩, rfl, rfl, rfl⟩ hoff FZ (fun p hp => NZ p hp)
            | true =>
              have hp : OkPrev prev := hb.mp rfl
              rw [if_pos rfl]
              have hlen : t.line.length ≤ 2000 := (ok.toks t (List.mem_of_getElem? hti)).len
              have htr0 := (ok.toks t (List.mem_of_getElem? hti)).r0
              have htr1 := (ok.toks t (List.mem_of_getElem? hti)).r1
              refine seg_stmt ?_
              show wpAny _ _ _ _ _ _
              k_fold
              k_steps
              refine seg_For ?_
              show wpAny _ _ _ _ _ _
              k_fold
              k_steps
              rename_i ll lv hA kA le hls hln l1b hB FB NB En It oE oIb hC hE hIb FC NC hne hoffE p3
              have hsz := strs_size le
              refine seg_enum (g := s.heap) (fun j n m nx s' => Same s.gens.size z s' ∧ n ≤ ds.length ∧ ∃ acc tl cS, nx = (ll, W.listOf (strValues lv).toArray 0) :: (I2, oI') :: (d, o) :: (S, lstO acc.toArray cS) :: (h₁.objs.size, oa) :: tl ∧ DatAll tl acc (ds.take (ds.length - n)) ∧ (∀ p ∈ tl, p.1 ≠ S ∧ p.1 ≠ I2) ∧ Has m [(Str.ofString "token_type", .int t.ty t1), (Str.ofString "start", .ref pa), (Str.ofString "line", .str t.line t3), (Str.ofString "max_doc_length", .int most tm'), (Str.ofString "prev_token", pv), (Str.ofString "skip_lines", .ref d), (Str.ofString "lines", .ref ll)] ∧
                  ((j = 0 ∧ t.r0 = 1 ∧ Bang t.line ∧ Txt.lines t.line ≠ [] ∧ ds.drop (ds.length - n) = []) ∨ (¬ (t.r0 = 1 ∧ Bang t.line) ∧ ∃ r, Gen most (Skip ts) (some t.ty) (ts.drop (i + 1)) r ∧ ds.drop (ds.length - n) = repsD t.ty t.r0 most (Txt.lines t.line).length j ((Txt.lines t.line).drop j) ++ r)))
                (items := (strValues lv).toArray) (l := ll) (by exact hh) hne (fun i n m nx s h' tk hj => ⟨⟨hj.1.size, hj.1.gens, hj.1.drawn, hj.1.os⟩, hj.2⟩)
                (fun i n m nx s hj h N => by obtain ⟨_, _, _, _, _, rfl, _⟩ := hj; exact News.isList N (.head _)) ?_ ?_
                _ 0 n _ _ _ _ oE oIb rfl (Nat.zero_le _) ⟨⟨hsame.size, hsame.gens, hsame.drawn, hsame.os⟩, hn, acc, tl, cS, rfl, hdat, fun p hp => ⟨htl p hp, hoff p (.tail _ (.tail _ (.tail _ hp)))⟩, ((ats_cons rfl (ats_cons rfl (ats_cons rfl (ats_cons rfl (ats_cons rfl (ats_cons rfl (ats_cons rfl ats_nil)))))))), ?_⟩ hE hIb hoffE FC NC
              rotate_left 2
              · rcases hgen.told' h36 hns hp with ⟨q1, q2, q3, q4⟩ | ⟨q1, r, q2, q3⟩
                · exact .inl ⟨rfl, q1, q2, q3, q4⟩
                · exact .inr ⟨q1, r, q2, by rw [List.drop_zero]; exact q3⟩
              · clear FB NB FC NC hE hIb hoffE hsame hdat htl hgen hn
                rintro j n s₀ v m₁ nx s₂ oE oIb T tk hv ⟨hsame, hn, acc, tl, cS, rfl, hdat, htl, hats, hcase⟩ hE hIb hoffE hoffT F₁ N₁ cont2
                obtain ⟨x, tx, rfl, hx⟩ := strs_at le hv
                have hxl := hls x (List.mem_of_getElem? hx)
                have hjl : j < (Txt.lines t.line).length := (List.getElem?_eq_some_iff.mp hx).1
                have F8 := fr_names [(Str.ofString "token_type", .int t.ty t1), (Str.ofString "start", .ref pa), (Str.ofString "line", .str t.line t3), (Str.ofString "max_doc_length", .int most tm'), (Str.ofString "prev_token", pv), (Str.ofString "skip_lines", .ref d), (Str.ofString "lines", .ref ll)] F₁ hats
                dsimp only [asNames] at F8
                clear F₁
                show wpAny _ _ _ _ _ _
                k_fold
                k_steps
                rename Fr _ _ _ _ => F7
                rename News _ _ _ _ => N7
                clear F8
                have F8 := fr_names [(Str.ofString "line_num", .int (j : Int) tk), (Str.ofString "physical_line", .str x tx), (Str.ofString "token_type", .int t.ty t1), (Str.ofString "start", .ref pa), (Str.ofString "line", .str t.line t3), (Str.ofString "max_doc_length", .int most tm'), (Str.ofString "prev_token", pv), (Str.ofString "skip_lines", .ref d), (Str.ofString "lines", .ref ll)] F7 ((ats_cons rfl (ats_cons rfl (ats_cons rfl (ats_cons rfl (ats_cons rfl (ats_cons rfl (ats_cons rfl (ats_cons rfl (ats_cons rfl ats_nil))))))))))
                dsimp only [asNames] at F8
                clear F7
                refine seg_stmt (wpAny_mono (Q := fun f s' => Cut s.heap s.heap.objs.size s₂ ((T, tupO #[.int (j : Int) tk, .str x tx] 0) :: (En, oE) :: (It, oIb) :: (ll, W.listOf (strValues lv).toArray 0) :: (I2, oI') :: (d, o) :: (S, lstO acc.toArray cS) :: (h₁.objs.size, oa) :: tl) [(Str.ofString "line_num", .int (j : Int) tk), (Str.ofString "physical_line", .str x tx), (Str.ofString "token_type", .int t.ty t1), (Str.ofString "start", .ref pa), (Str.ofString "line", .str t.line t3), (Str.ofString "max_doc_length", .int most tm'), (Str.ofString "prev_token", pv), (Str.ofString "skip_lines", .ref d), (Str.ofString "lines", .ref ll)] s' ∧ ((f = .ret .none ∧ t.r0 + (j : Int) = 1 ∧ Bang t.line) ∨ (f = .next ∧ ¬ (t.r0 + (j : Int) = 1 ∧ Bang t.line)))) ?key4 ?nxt4 (fun _ _ x => x))
                case key4 =>
                  show wpAny _ _ _ _ _ _
                  k_fold
                  k_steps
                  all_goals (try dsimp only)
                  all_goals (try (show _ ∧ _))
                  all_goals first
                    | (rename Fr _ _ _ _ => F9; exact Cut.mk F9 N7 (fun p hp => hp) ((ats_cons rfl (ats_cons rfl (ats_cons rfl (ats_cons rfl (ats_cons rfl (ats_cons rfl (ats_cons rfl (ats_cons rfl (ats_cons rfl ats_nil)))))))))))
                    | exact .inl ⟨rfl, by assumption, by assumption⟩
                    | exact .inr ⟨rfl, fun q => absurd q.1 (by assumption)⟩
                    | (rename Txt.startswith _ _ = false => hb; exact .inr ⟨rfl, fun q => absurd (hb.symm.trans q.2) Bool.false_ne_true⟩)
                case nxt4 =>
                  clear F8 N7 N₁
                  rintro f s' ⟨⟨h9, tk9, m9, rfl, F7, N7, ha9⟩, hf⟩
                  rcases hf with ⟨rfl, hr, hb⟩ | ⟨rfl, hnb⟩
                  · rcases hcase with ⟨_, _, _, _, hnil⟩ | ⟨hno, _⟩
                    · obtain rfl : n = 0 := drop_nil hn hnil
                      refine seg_leaf (.ok (.ret .none)) (seg_leaf (.ok (.ret .none)) (seg_end (.ok (.ret .none)) ⟨rfl, rfl, acc, tl, m9, cS, F7, (fun p hp => ?_), (fun p hp => (htl p hp).1), ?_, ⟨oa, nma, qna, (N7 _ (.tail _ (.tail _ (.tail _ (.tail _ (.tail _ (.tail _ (.tail _ (.head _))))))))).1, hoa2⟩, H.ne, ⟨hsame.size, hsame.gens, hsame.drawn, hsame.os⟩⟩))
                      · rcases List.mem_cons.mp hp with rfl | hp
                        · exact N7 _ (by k_mem)
                        · exact N7 _ (.tail _ (.tail _ (.tail _ (.tail _ (.tail _ (.tail _ (.tail _ (.tail _ hp))))))))
                      · rw [Nat.sub_zero, List.take_length] at hdat
                        exact hdat
                    · exact absurd ⟨by omega, hb⟩ hno
                  obtain ⟨hno, r, hg, hdrop⟩ := hcase.resolve_left (fun q => hnb ⟨by omega, q.2.2.1⟩)
                  rw [repsD_drop hx, List.append_assoc] at hdrop
                  have F8 := fr_names [(Str.ofString "line_num", .int (j : Int) tk), (Str.ofString "physical_line", .str x tx), (Str.ofString "token_type", .int t.ty t1), (Str.ofString "start", .ref pa), (Str.ofString "line", .str t.line t3), (Str.ofString "max_doc_length", .int most tm'), (Str.ofString "prev_token", pv), (Str.ofString "skip_lines", .ref d), (Str.ofString "lines", .ref ll)] F7 ha9
                  dsimp only [asNames] at F8
                  clear F7
                  dsimp only
                  refine seg_stmt ?_
                  show wpAny _ _ _ _ _ _
                  k_fold
                  k_steps
                  refine seg_stmt ?_
                  show wpAny _ _ _ _ _ _
                  k_fold
                  k_steps
                  rename_i wl wv hH kk we wsl wn l1w hH2 F7 N7
                  obtain ⟨tlen, F8⟩ : ∃ tlen, Fr s.heap s.heap.objs.size _ (fun y => asNames [(Str.ofString "length", .int (x.length : Int) tlen), (Str.ofString "chunks", .ref wl), (Str.ofString "line_num", .int (j : Int) tk), (Str.ofString "physical_line", .str x tx), (Str.ofString "token_type", .int t.ty t1), (Str.ofString "start", .ref pa), (Str.ofString "line", .str t.line t3), (Str.ofString "max_doc_length", .int most tm'), (Str.ofString "prev_token", pv), (Str.ofString "skip_lines", .ref d), (Str.ofString "lines", .ref ll)] _ y) := ⟨_, fr_names _ F7 ((ats_cons rfl (ats_cons rfl (ats_cons rfl (ats_cons rfl (ats_cons rfl (ats_cons rfl (ats_cons rfl (ats_cons rfl (ats_cons rfl (ats_cons rfl (ats_cons rfl ats_nil))))))))))))⟩
                  dsimp only [asNames] at F8
                  clear F7
                  refine seg_stmt (wpAny_mono (Q := fun f s' => Cut s.heap s.heap.objs.size s₂ ((wl, W.listOf (strValues wv).toArray 0) :: (T, tupO #[.int (j : Int) tk, .str x tx] 0) :: (En, oE) :: (It, oIb) :: (ll, W.listOf (strValues lv).toArray 0) :: (I2, oI') :: (d, o) :: (S, lstO acc.toArray cS) :: (h₁.objs.size, oa) :: tl) [(Str.ofString "length", .int (x.length : Int) tlen), (Str.ofString "chunks", .ref wl), (Str.ofString "line_num", .int (j : Int) tk), (Str.ofString "physical_line", .str x tx), (Str.ofString "token_type", .int t.ty t1), (Str.ofString "start", .ref pa), (Str.ofString "line", .str t.line t3), (Str.ofString "max_doc_length", .int most tm'), (Str.ofString "prev_token", pv), (Str.ofString "skip_lines", .ref d), (Str.ofString "lines", .ref ll)] s' ∧ ((f = .cont ∧ C1 t.ty x) ∨ (f = .next ∧ ¬ C1 t.ty x))) ?key5 ?nxt5 (fun _ _ x => x))
                  case key5 =>
                    show wpAny _ _ _ _ _ _
                    k_fold
                    k_steps
                    all_goals (try dsimp only)
                    all_goals (try (show _ ∧ _))
                    all_goals first
                      | (rename Fr _ _ _ _ => F9; exact Cut.mk F9 N7 (fun p hp => hp) ((ats_cons rfl (ats_cons rfl (ats_cons rfl (ats_cons rfl (ats_cons rfl (ats_cons rfl (ats_cons rfl (ats_cons rfl (ats_cons rfl (ats_cons rfl (ats_cons rfl ats_nil)))))))))))))
                      | (refine .inl ⟨rfl, ?_⟩; unfold C1; omega)
                      | (refine .inr ⟨rfl, ?_⟩; unfold C1; omega)
                  case nxt5 =>
                  clear F8 N7
                  rintro f s' ⟨⟨h10, tk10, m10, rfl, F7, N7, ha10⟩, hf⟩
                  rcases hf with ⟨rfl, hc1⟩ | ⟨rfl, hc1⟩
                  · exact cont2 n s₀ _ _ _ ⟨⟨hsame.size, hsame.gens, hsame.drawn, hsame.os⟩, hn, acc, tl, cS, rfl, hdat, htl, ha10.tail.tail.tail.tail, .inr ⟨hno, r, hg, by rw [repD_1 hc1, List.nil_append] at hdrop; exact hdrop⟩⟩ hoffE F7 (fun p hp => N7 p (.tail _ (.tail _ hp)))
                  have F8 := fr_names [(Str.ofString "length", .int (x.length : Int) tlen), (Str.ofString "chunks", .ref wl), (Str.ofString "line_num", .int (j : Int) tk), (Str.ofString "physical_line", .str x tx), (Str.ofString "token_type", .int t.ty t1), (Str.ofString "start", .ref pa), (Str.ofString "line", .str t.line t3), (Str.ofString "max_doc_length", .int most tm'), (Str.ofString "prev_token", pv), (Str.ofString "skip_lines", .ref d), (Str.ofString "lines", .ref ll)] F7 ha10
                  dsimp only [asNames] at F8
                  clear F7
                  dsimp only
                  refine seg_stmt (wpAny_mono (Q := fun f s' => Cut s.heap s.heap.objs.size s₂ ((wl, W.listOf (strValues wv).toArray 0) :: (T, tupO #[.int (j : Int) tk, .str x tx] 0) :: (En, oE) :: (It, oIb) :: (ll, W.listOf (strValues lv).toArray 0) :: (I2, oI') :: (d, o) :: (S, lstO acc.toArray cS) :: (h₁.objs.size, oa) :: tl) [(Str.ofString "length", .int (x.length : Int) tlen), (Str.ofString "chunks", .ref wl), (Str.ofString "line_num", .int (j : Int) tk), (Str.ofString "physical_line", .str x tx), (Str.ofString "token_type", .int t.ty t1), (Str.ofString "start", .ref pa), (Str.ofString "line", .str t.line t3), (Str.ofString "max_doc_length", .int most tm'), (Str.ofString "prev_token", pv), (Str.ofString "skip_lines", .ref d), (Str.ofString "lines", .ref ll)] s' ∧ ((f = .cont ∧ C2 (Txt.lines t.line).length j x) ∨ (f = .next ∧ ¬ C2 (Txt.lines t.line).length j x))) ?key6 ?nxt6 (fun _ _ x => x))
                  case key6 =>
                    show wpAny _ _ _ _ _ _
                    k_fold
                    k_steps
                    all_goals (try dsimp only)
                    all_goals (try (show _ ∧ _))
                    all_goals first
                      | (rename Fr _ _ _ _ => F9; exact Cut.mk F9 N7 (fun p hp => hp) ((ats_cons rfl (ats_cons rfl (ats_cons rfl (ats_cons rfl (ats_cons rfl (ats_cons rfl (ats_cons rfl (ats_cons rfl (ats_cons rfl (ats_cons rfl (ats_cons rfl ats_nil)))))))))))))
                      | (refine .inl ⟨rfl, ?_⟩; unfold C2; omega)
                      | (refine .inr ⟨rfl, ?_⟩; unfold C2; omega)
                  case nxt6 =>
                  clear F8 N7
                  rintro f s' ⟨⟨h11, tk11, m11, rfl, F7, N7, ha11⟩, hf⟩
                  rcases hf with ⟨rfl, hc2⟩ | ⟨rfl, hc2⟩
                  · exact cont2 n s₀ _ _ _ ⟨⟨hsame.size, hsame.gens, hsame.drawn, hsame.os⟩, hn, acc, tl, cS, rfl, hdat, htl, ha11.tail.tail.tail.tail, .inr ⟨hno, r, hg, by rw [repD_2 hc2, List.nil_append] at hdrop; exact hdrop⟩⟩ hoffE F7 (fun p hp => N7 p (.tail _ (.tail _ hp)))
                  have F8 := fr_names [(Str.ofString "length", .int (x.length : Int) tlen), (Str.ofString "chunks", .ref wl), (Str.ofString "line_num", .int (j : Int) tk), (Str.ofString "physical_line", .str x tx), (Str.ofString "token_type", .int t.ty t1), (Str.ofString "start", .ref pa), (Str.ofString "line", .str t.line t3), (Str.ofString "max_doc_length", .int most tm'), (Str.ofString "prev_token", pv), (Str.ofString "skip_lines", .ref d), (Str.ofString "lines", .ref ll)] F7 ha11
                  dsimp only [asNames] at F8
                  clear F7
                  dsimp only
                  refine seg_If ?_
                  show wpAny _ _ _ _ _ _
                  k_fold
                  k_steps
                  rotate_left
                  · rename ¬ most < (x.length : Int) => hgt
                    refine seg_execs_nil ?_
                    show Seg _ _ _ _ _ _ _ ((execs _ _).wrap _ _ _ _) _ _
                    refine seg_execs_nil ?_
                    rename Fr _ _ _ _ => F7
                    exact cont2 n s₀ _ _ _ ⟨⟨hsame.size, hsame.gens, hsame.drawn, hsame.os⟩, hn, acc, tl, cS, rfl, hdat, htl, ((ats_cons rfl (ats_cons rfl (ats_cons rfl (ats_cons rfl (ats_cons rfl (ats_cons rfl (ats_cons rfl ats_nil)))))))), .inr ⟨hno, r, hg, by rw [repD_3 hc1 hc2 hgt, List.nil_append] at hdrop; exact hdrop⟩⟩ hoffE F7 (fun p hp => N7 p (.tail _ (.tail _ hp)))
                  · rename most < (x.length : Int) => hgt
                    rw [repD_4 hc1 hc2 hgt] at hdrop
                    obtain ⟨n', rfl, e1, hd, hdr, htk⟩ := drop_cons hn hdrop
                    refine seg_stmt ?_
                    show wpAny _ _ _ _ _ _
                    k_fold
                    k_steps
                    refine seg_execs_cons (seg_Expr_Yield rfl rfl rfl ?_)
                    show wpAny _ _ _ _ _ _
                    k_fold
                    k_steps
                    rename_i Dd hH3 l1d hH4 Da hH5 l1a mt mk Dt hH6 FY NY l1t kap hkap
                    obtain ⟨tr, tq, nDd⟩ : ∃ tr tq, hH6.get? Dd = some (tupO #[.int (t.r0 + (j : Int)) tr, .int most tq] 0) ∧ Dd ≠ s.heap.objs.size ∧ s.heap.get? Dd = none := ⟨_, _, NY _ (.tail _ (.tail _ (.head _)))⟩
                    have nDt : hH6.get? Dt = some (tupO #[.ref Dd, .str (msgW x.length most) mt] 0) ∧ Dt ≠ s.heap.objs.size ∧ s.heap.get? Dt = none := NY _ (.head _)
                    have oDd : Dd ≠ S ∧ Dd ≠ I2 ∧ Dd ≠ En ∧ Dd ≠ It := by
                      obtain ⟨_, _, lEn, lIt, _, lI2, _, lS, _⟩ := l1d
                      exact ⟨Nat.ne_of_gt lS, Nat.ne_of_gt lI2, Nat.ne_of_gt lEn, Nat.ne_of_gt lIt⟩
                    have oDt : Dt ≠ S ∧ Dt ≠ I2 ∧ Dt ≠ En ∧ Dt ≠ It := by
                      obtain ⟨_, _, _, _, lEn, lIt, _, lI2, _, lS, _⟩ := l1t
                      exact ⟨Nat.ne_of_gt lS, Nat.ne_of_gt lI2, Nat.ne_of_gt lEn, Nat.ne_of_gt lIt⟩
                    have nTL : ∀ p ∈ (Dt, tupO #[.ref Dd, .str (msgW x.length most) mt] 0) :: (Dd, tupO #[.int (t.r0 + (j : Int)) tr, .int most tq] 0) :: tl, hH6.get? p.1 = some p.2 ∧ p.1 ≠ s.heap.objs.size ∧ s.heap.get? p.1 = none := by
                      intro p hp
                      rcases List.mem_cons.mp hp with rfl | hp
                      · exact nDt
                      · rcases List.mem_cons.mp hp with rfl | hp
                        · exact nDd
                        · exact NY p (by repeat (first | exact hp | refine List.Mem.tail _ ?_))
                    have oTL : ∀ p ∈ (Dt, tupO #[.ref Dd, .str (msgW x.length most) mt] 0) :: (Dd, tupO #[.int (t.r0 + (j : Int)) tr, .int most tq] 0) :: tl, p.1 ≠ S ∧ p.1 ≠ I2 ∧ p.1 ≠ En ∧ p.1 ≠ It := by
                      intro p hp
                      rcases List.mem_cons.mp hp with rfl | hp
                      · exact oDt
                      · rcases List.mem_cons.mp hp with rfl | hp
                        · exact oDd
                        · exact ⟨(htl p hp).1, (htl p hp).2, hoffE p (.tail _ (.tail _ (.tail _ (.tail _ (.tail _ hp)))))⟩
                    have hin : DatIn ((Dt, tupO #[.ref Dd, .str (msgW x.length most) mt] 0) :: (Dd, tupO #[.int (t.r0 + (j : Int)) tr, .int most tq] 0) :: tl) (.ref Dt) (toldD (t.r0 + (j : Int)) x.length most) := told_in (.head _) (.tail _ (.head _))
                    have nS := NY (S, lstO acc.toArray cS) (by k_mem)
                    have na := NY (h₁.objs.size, oa) (by k_mem)
                    have nEn := NY (En, oE) (by k_mem)
                    have nIt := NY (It, oIb) (by k_mem)
                    have nll := NY (ll, W.listOf (strValues lv).toArray 0) (by k_mem)
                    have nI2 := NY (I2, oI') (by k_mem)
                    have nd := NY (d, o) (by k_mem)
                    generalize hTL : ((Dt, tupO #[.ref Dd, .str (msgW x.length most) mt] 0) :: (Dd, tupO #[.int (t.r0 + (j : Int)) tr, .int most tq] 0) :: tl) = TL at nTL oTL hin
                    have dTL : DatAll TL acc (ds.take (ds.length - (n' + 1))) := hdat.mono fun p hp => hTL ▸ .tail _ (.tail _ hp)
                    refine ⟨acc, TL, _, cS, toldD (t.r0 + (j : Int)) x.length most, ⟨FY, ?_, fun p hp => (oTL p hp).1, by rw [e1]; exact dTL, ⟨oa, nma, qna, na.1, hoa2⟩, H.ne, ⟨hsame.size, hsame.gens, hsame.drawn, hsame.os⟩⟩, by rw [e1]; exact hd, hin, fun s'' ha => hkap .none s'' ?_⟩
                    · intro p hp
                      rcases List.mem_cons.mp hp with rfl | hp
                      · exact nS
                      · exact nTL p hp
                    have oS := hoffE (S, lstO acc.toArray cS) (.tail _ (.tail _ (.tail _ (.head _))))
                    have nR : News s.heap s.heap.objs.size hH6 ((S, lstO acc.toArray cS) :: (En, oE) :: (It, oIb) :: (ll, W.listOf (strValues lv).toArray 0) :: (I2, oI') :: (d, o) :: (h₁.objs.size, oa) :: TL) := by
                      intro p hp
                      rcases List.mem_cons.mp hp with rfl | hp
                      · exact nS
                      rcases List.mem_cons.mp hp with rfl | hp
                      · exact nEn
                      rcases List.mem_cons.mp hp with rfl | hp
                      · exact nIt
                      rcases List.mem_cons.mp hp with rfl | hp
                      · exact nll
                      rcases List.mem_cons.mp hp with rfl | hp
                      · exact nI2
                      rcases List.mem_cons.mp hp with rfl | hp
                      · exact nd
                      rcases List.mem_cons.mp hp with rfl | hp
                      · exact na
                      · exact nTL p hp
                    obtain ⟨c₂, F9, N9⟩ := ha.led FY (.head _) (R' := (En, oE) :: (It, oIb) :: (ll, W.listOf (strValues lv).toArray 0) :: (I2, oI') :: (d, o) :: (h₁.objs.size, oa) :: TL) nR (fun p hp => .tail _ hp) (by
                      intro p hp
                      rcases List.mem_cons.mp hp with rfl | hp
                      · exact oS.1.symm
                      rcases List.mem_cons.mp hp with rfl | hp
                      · exact oS.2.symm
                      rcases List.mem_cons.mp hp with rfl | hp
                      · exact Nat.ne_of_gt l1b.2.2.1
                      rcases List.mem_cons.mp hp with rfl | hp
                      · exact hIS.symm
                      rcases List.mem_cons.mp hp with rfl | hp
                      · exact Nat.ne_of_gt l1.1
                      rcases List.mem_cons.mp hp with rfl | hp
                      · exact H.ne
                      · exact (oTL p hp).1)
                    show Seg _ _ _ _ _ _ _ ((execs _ _).wrap _ _ _ _) _ _
                    refine seg_execs_nil ?_
                    show Seg _ _ _ _ _ _ _ ((execs _ _).wrap _ _ _ _) _ _
                    refine seg_execs_nil (cont2 n' s'' _ _ s'' ⟨⟨ha.same.size.trans hsame.size, fun k hk => (ha.same.gens k hk).trans (hsame.gens k hk), ha.same.drawn.trans hsame.drawn, ha.same.os.trans hsame.os⟩, by omega, acc ++ [.ref Dt], TL, c₂, rfl, ?_, fun p hp => ⟨(oTL p hp).1, (oTL p hp).2.1⟩, ((ats_cons rfl (ats_cons rfl (ats_cons rfl (ats_cons rfl (ats_cons rfl (ats_cons rfl (ats_cons rfl ats_nil)))))))), .inr ⟨hno, r, hg, hdr⟩⟩ ?_ F9 ?_)
                    · rw [htk]; exact dTL.append (.one hin)
                    · intro p hp
                      rcases List.mem_cons.mp hp with rfl | hp
                      · exact hoffE _ (.head _)
                      rcases List.mem_cons.mp hp with rfl | hp
                      · exact hoffE _ (.tail _ (.head _))
                      rcases List.mem_cons.mp hp with rfl | hp
                      · exact hoffE _ (.tail _ (.tail _ (.head _)))
                      rcases List.mem_cons.mp hp with rfl | hp
                      · exact oS
                      rcases List.mem_cons.mp hp with rfl | hp
                      · exact hoffE _ (.tail _ (.tail _ (.tail _ (.tail _ (.head _)))))
                      · exact (oTL p hp).2.2
                    · intro p hp
                      rcases List.mem_cons.mp hp with rfl | hp
                      · exact N9 _ (.tail _ (.head _))
                      rcases List.mem_cons.mp hp with rfl | hp
                      · exact N9 _ (.tail _ (.tail _ (.head _)))
                      rcases List.mem_cons.mp hp with rfl | hp
                      · exact N9 _ (.tail _ (.tail _ (.tail _ (.head _))))
                      rcases List.mem_cons.mp hp with rfl | hp
                      · exact N9 _ (.tail _ (.tail _ (.tail _ (.tail _ (.head _)))))
                      rcases List.mem_cons.mp hp with rfl | hp
                      · exact N9 _ (.tail _ (.tail _ (.tail _ (.tail _ (.tail _ (.head _))))))
                      rcases List.mem_cons.mp hp with rfl | hp
                      · exact N9 _ (.head _)
                      · exact N9 _ (.tail _ (.tail _ (.tail _ (.tail _ (.tail _ (.tail _ hp))))))
              · clear FB NB FC NC hE hIb hoffE hsame hdat htl hgen hn
                rintro n s₀ m₁ nx s₂ ⟨hsame, hn, acc, tl, cS, rfl, hdat, htl, hats, hcase⟩ F₁ N₁
                obtain ⟨hno, r, hg, hdrop⟩ := hcase.resolve_left (fun q => q.2.2.2.1 (List.eq_nil_of_length_eq_zero (by rw [← hsz]; exact q.1)))
                rw [hsz, List.drop_length] at hdrop
                refine seg_block_nil ?_
                show Seg _ _ _ _ _ _ _ ((execs _ _).wrap _ _ _ _) _ _
                refine seg_execs_nil ?_
                show Seg _ _ _ _ _ _ _ ((execs _ _).wrap _ _ _ _) _ _
                refine seg_execs_nil ?_
                show Seg _ _ _ _ _ _ _ ((execs _ _).wrap _ _ _ _) _ _
                have F8 := fr_names [(Str.ofString "token_type", .int t.ty t1), (Str.ofString "start", .ref pa), (Str.ofString "line", .str t.line t3), (Str.ofString "max_doc_length", .int most tm'), (Str.ofString "prev_token", pv), (Str.ofString "skip_lines", .ref d), (Str.ofString "lines", .ref ll)] F₁ hats
                dsimp only [asNames] at F8
                clear F₁
                refine seg_stmt ?_
                show wpAny _ _ _ _ _ _
                k_fold
                k_steps
                refine seg_execs_nil ?_
                rename Fr _ _ _ _ => FZ
                rename News _ _ _ _ => NZ
                refine cont n s₀ _ _ _ ⟨⟨hsame.size, hsame.gens, hsame.drawn, hsame.os⟩, hn, o, P, cnt, tm', some t.ty, _, acc, tl, cS, rfl, hso, hcnt, hsk, hdat, fun p hp => (htl p hp).1, by rw [hdrop]; exact hg, ⟨t1, rfl⟩, rfl, rfl, rfl⟩ (fun p hp => ?_) FZ (fun p hp => NZ p (.tail _ hp))
                rcases List.mem_cons.mp hp with rfl | hp
                · exact hId
                rcases List.mem_cons.mp hp with rfl | hp
                · exact hIS
                rcases List.mem_cons.mp hp with rfl | hp
                · exact hIa
                · exact (htl p hp).2
theorem gen_N {w : World} {A : Around} {mean : ExcName → Option Value} {mg mb : Str → Option Value} {h₀ : Heap} {s : Shared} {L : Addr} {m : Str → Option Value} {news : List (Addr × Obj)} {Q E : Value → Shared → Prop} {x : Str} {tx : Tok} {tk : Addr}
    (F : Fr h₀ L s.heap m) (N : News h₀ L s.heap news) (X : (Tp.heap_39 w.params).In h₀) (T : TopH mean mg mb h₀)
    (hd : A.depth + 20 < recursionLimit) (hu : A.units + 200 < cLine) (hh : A.handled = none)
    (ret : ∀ (a : Addr) h' tks k nm qn t u gs, Fr h₀ L h' m → News h₀ L h' ((a, genO k nm qn t u) :: news) → (∀ p ∈ news, p.1 ≠ a) → GenNew w A a [] h₀ L m news s.gens h' (s.gens.push gs) → Q (.ref a) { s with heap := h', gens := s.gens.push gs, toks := tks }) :
    wpAny (model pg w) A (call (.ref 45) [.str x tx, .none, .bool false, .ref tk]) Q E s := by
  have _ : (fun (_ : OpenLaw) (_ : Frag) => True) PySem.Challenge.rw_et5024_01 (Tp.heap_39 w.params) := by (k_fill; trivial)
  refine wpAny_call ?_
  (refine' code_gen (K := Tp.heap_39 w.params) ?kX (T.keeps F.keep).nolimit ?k6 ?k7 ?k8 ?k9 ?kB ?_ ?c2 ?c3 ?c4 ?c5; (case kX => exact fun a o e => F.keep _ _ (X a o e)); (case k6 => k_is); (case k7 => k_is); (case k8 => omega); (case k9 => exact BindsTo.of_eq rfl); (case c5 => decide); (case kB => exact locs rfl); (case c2 => exact rfl); (case c3 => exact rfl); (case c4 => exact rfl))
  intro h₁ tks t u F₁
  have hn : ∀ b o, s.heap.get? b = some o → (h₁.push (genO s.gens.size (Str.ofString "maximum_doc_length") (Str.ofString "maximum_doc_length") t u)).get? b = some o := fun b o e => Heap.get?_push_of_some _ (F₁.keep b o e)
  have hga : s.heap.get? h₁.objs.size = none ∧ h₁.objs.size ≠ s.heap.objs.size := new_none F₁ (Nat.le_refl _)
  refine ret h₁.objs.size _ tks s.gens.size (Str.ofString "maximum_doc_length") (Str.ofString "maximum_doc_length") t u _ (F.keeps hn) ?_ ?_ ⟨s.heap, s.heap.objs.size, _, _, _, ⟨_, _, _, Heap.get?_push_size _ rfl, rfl, rfl, rfl⟩, rfl, (T.keeps F.keep).nolimit, F₁.push _, hga.1, hga.2, F, N, ?_⟩
  · intro p hp
    rcases List.mem_cons.mp hp with rfl | hp
    · refine ⟨Heap.get?_push_size _ rfl, Nat.ne_of_gt (F.keeps F₁.keep).ns.lt, ?_⟩
      cases e : h₀.get? h₁.objs.size with
      | none => rfl
      | some o => exact absurd (Heap.lt_size ((F.keeps F₁.keep).keep _ _ e)) (Nat.lt_irrefl _)
    · exact ⟨hn _ _ (N p hp).1, (N p hp).2⟩
  · exact fun p hp => Nat.ne_of_lt (Heap.lt_size (F₁.keep _ _ (N p hp).1))
  intro S c z s' H
  refine seg_func ?_
  refine seg_stmt ?_
  have F2 := H.fr
  have N2 := H.news
  have X2 : (Tp.heap_39 w.params).In s.heap := fun a o e => F.keep _ _ (X a o e)
  have T2 := T.keeps F.keep
  clear F N X T F₁ hn ret
  show wpAny _ _ _ _ _ _
  k_fold
  k_steps
  rename Fr _ _ _ _ => FZ
  exact seg_end (.ok (.ret .none)) ⟨rfl, rfl, [], [], _, c, ⟨FZ, N2, (fun p hp => nomatch hp), .nil, H.gen, H.ne, ⟨H.same.size, H.same.gens, H.same.drawn, H.same.os⟩⟩⟩
theorem gen_Q {w : World} {A : Around} {mean : ExcName → Option Value} {mg mb : Str → Option Value} {h₀ : Heap} {s : Shared} {L : Addr} {m : Str → Option Value} {news : List (Addr × Obj)} {Q E : Value → Shared → Prop} {most : Int} {x : Str} {tx tm : Tok} {tk : Addr}
    (F : Fr h₀ L s.heap m) (N : News h₀ L s.heap news) (X : (Tp.heap_39 w.params).In h₀) (T : TopH mean mg mb h₀)
    (hd : A.depth + 20 < recursionLimit) (hu : A.units + 200 < cLine) (hh : A.handled = none)
    (ret : ∀ (a : Addr) h' tks k nm qn t u gs, Fr h₀ L h' m → News h₀ L h' ((a, genO k nm qn t u) :: news) → (∀ p ∈ news, p.1 ≠ a) → GenNew w A a [] h₀ L m news s.gens h' (s.gens.push gs) → Q (.ref a) { s with heap := h', gens := s.gens.push gs, toks := tks }) :
    wpAny (model pg w) A (call (.ref 45) [.str x tx, .int most tm, .bool true, .ref tk]) Q E s := by
  have _ : (fun (_ : OpenLaw) (_ : Frag) => True) PySem.Challenge.rw_et5024_01 (Tp.heap_39 w.params) := by (k_fill; trivial)
  refine wpAny_call ?_
  (refine' code_gen (K := Tp.heap_39 w.params) ?kX (T.keeps F.keep).nolimit ?k6 ?k7 ?k8 ?k9 ?kB ?_ ?c2 ?c3 ?c4 ?c5; (case kX => exact fun a o e => F.keep _ _ (X a o e)); (case k6 => k_is); (case k7 => k_is); (case k8 => omega); (case k9 => exact BindsTo.of_eq rfl); (case c5 => decide); (case kB => exact locs rfl); (case c2 => exact rfl); (case c3 => exact rfl); (case c4 => exact rfl))
  intro h₁ tks t u F₁
  have hn : ∀ b o, s.heap.get? b = some o → (h₁.push (genO s.gens.size (Str.ofString "maximum_doc_length") (Str.ofString "maximum_doc_length") t u)).get? b = some o := fun b o e => Heap.get?_push_of_some _ (F₁.keep b o e)
  have hga : s.heap.get? h₁.objs.size = none ∧ h₁.objs.size ≠ s.heap.objs.size := new_none F₁ (Nat.le_refl _)
  refine ret h₁.objs.size _ tks s.gens.size (Str.ofString "maximum_doc_length") (Str.ofString "maximum_doc_length") t u _ (F.keeps hn) ?_ ?_ ⟨s.heap, s.heap.objs.size, _, _, _, ⟨_, _, _, Heap.get?_push_size _ rfl, rfl, rfl, rfl⟩, rfl, (T.keeps F.keep).nolimit, F₁.push _, hga.1, hga.2, F, N, ?_⟩
  · intro p hp
    rcases List.mem_cons.mp hp with rfl | hp
    · refine ⟨Heap.get?_push_size _ rfl, Nat.ne_of_gt (F.keeps F₁.keep).ns.lt, ?_⟩
      cases e : h₀.get? h₁.objs.size with
      | none => rfl
      | some o => exact absurd (Heap.lt_size ((F.keeps F₁.keep).keep _ _ e)) (Nat.lt_irrefl _)
    · exact ⟨hn _ _ (N p hp).1, (N p hp).2⟩
  · exact fun p hp => Nat.ne_of_lt (Heap.lt_size (F₁.keep _ _ (N p hp).1))
  intro S c z s' H
  refine seg_func ?_
  refine seg_stmt ?_
  have F2 := H.fr
  have N2 := H.news
  have X2 : (Tp.heap_39 w.params).In s.heap := fun a o e => F.keep _ _ (X a o e)
  have T2 := T.keeps F.keep
  clear F N X T F₁ hn ret
  show wpAny _ _ _ _ _ _
  k_fold
  k_steps
  rename Fr _ _ _ _ => FZ
  exact seg_end (.ok (.ret .none)) ⟨rfl, rfl, [], [], _, c, ⟨FZ, N2, (fun p hp => nomatch hp), .nil, H.gen, H.ne, ⟨H.same.size, H.same.gens, H.same.drawn, H.same.os⟩⟩⟩
end Mine
-- part MLawP
namespace Mine
theorem strOk_app {x y : Str} (hx : PyData.strOk x = true) (hy : PyData.strOk y = true) : PyData.strOk (x ++ y) = true := by
  unfold PyData.strOk at *
  rw [Str.cps_append, Array.all_append, hx, hy]; rfl
theorem strOk_of (s : String) : PyData.strOk (Str.ofString s) = true := by
  unfold PyData.strOk
  rw [← Array.all_toList, signs_ofString, List.all_eq_true]
  intro c hc
  obtain ⟨k, _, rfl⟩ := List.mem_map.mp hc
  rw [decide_eq_true_eq]
  rcases k.valid with h | h
  · exact Nat.lt_trans h (by decide)
  · exact h.2
theorem told_ok (row len most : Int) : kqdOk 7 (toldD row len most) = true := by
  have : PyData.strOk (msgW len most) = true := strOk_app (strOk_app (strOk_app (strOk_app (strOk_of _) (strOk_of _)) (strOk_of _)) (strOk_of _)) (strOk_of _)
  simp [toldD, kqdOk, this]
theorem repD_told {ty r0 most : Int} {n j : Nat} {x : Str} {e : Dat} (h : e ∈ repD ty r0 most n j x) : ∃ r l, e = toldD r l most := by
  unfold repD at h
  split at h
  · cases h
  · split at h
    · cases h
    · split at h
      · rw [List.mem_singleton.mp h]; exact ⟨_, _, rfl⟩
      · cases h
theorem repD_len {ty r0 most : Int} {n j : Nat} {x : Str} : (repD ty r0 most n j x).length ≤ 1 := by
  unfold repD
  split
  · simp
  · split
    · simp
    · split <;> simp
theorem repsD_told {ty r0 most : Int} {n : Nat} {e : Dat} : ∀ {xs : List Str} {j : Nat}, e ∈ repsD ty r0 most n j xs → ∃ r l, e = toldD r l most
  | [], _, h => by cases h
  | x :: xs, j, h => by
    rcases List.mem_append.mp h with h | h
    · exact repD_told h
    · exact repsD_told h
theorem repsD_len {ty r0 most : Int} {n : Nat} : ∀ {xs : List Str} {j : Nat}, (repsD ty r0 most n j xs).length ≤ xs.length
  | [], _ => Nat.le_refl _
  | x :: xs, j => by
    show (repD ty r0 most n j x ++ repsD ty r0 most n (j + 1) xs).length ≤ xs.length + 1
    rw [List.length_append]
    have h1 := repD_len (ty := ty) (r0 := r0) (most := most) (n := n) (j := j) (x := x)
    have h2 := repsD_len (ty := ty) (r0 := r0) (most := most) (n := n) (xs := xs) (j := j + 1)
    omega
theorem Gen.told_all {most : Int} {sk : Prop} {p : Option Int} {ts : List Tk} {ds : List Dat} (h : Gen most sk p ts ds) : ∀ e ∈ ds, ∃ r l, e = toldD r l most := by
  induction h with
  | nil => intro e he; cases he
  | str _ _ _ ih => exact ih
  | pass _ _ _ ih => exact ih
  | code _ _ _ _ ih => exact ih
  | bang => intro e he; cases he
  | told _ _ _ _ _ ih =>
    intro e he
    rcases List.mem_append.mp he with he | he
    · exact repsD_told he
    · exact ih e he
theorem Gen.short {most : Int} {sk : Prop} {p : Option Int} {ts : List Tk} {ds : List Dat} (h : Gen most sk p ts ds) : (∀ t ∈ ts, t.line.length ≤ 2000) → ds.length ≤ ts.length * 2001 := by
  induction h with
  | nil => intro _; exact Nat.le_refl _
  | str _ _ _ ih => intro ht; have := ih fun t h => ht t (.tail _ h); rw [List.length_cons]; omega
  | pass _ _ _ ih => intro ht; have := ih fun t h => ht t (.tail _ h); rw [List.length_cons]; omega
  | code _ _ _ _ ih => intro ht; have := ih fun t h => ht t (.tail _ h); rw [List.length_cons]; omega
  | bang => intro _; exact Nat.zero_le _
  | @told p t ts ds _ _ _ _ _ ih =>
    intro ht
    have h1 := ih fun t h => ht t (.tail _ h)
    have h2 := repsD_len (ty := t.ty) (r0 := t.r0) (most := most) (n := (Txt.lines t.line).length) (xs := Txt.lines t.line) (j := 0)
    have h3 := StrLaws.lines_weight t.line
    have h4 := ht t (.head _)
    rw [List.length_append, List.length_cons]
    omega
/-- what is due of one line -/
def OkDue (d : Dat) : Prop := ∃ ds, d = .list ds ∧ ∀ e ∈ ds, kqdOk 7 e = true
theorem OkDue.kqd {d : Dat} (h : OkDue d) : kqdOk 8 d = true := by
  obtain ⟨ds, rfl, h⟩ := h
  simpa [kqdOk] using h
theorem OkDue.nil : OkDue (.list []) := ⟨[], rfl, fun e h => nomatch h⟩
theorem StmtOk.due {row most : Int} {ts : List Tk} {ds : List Dat} (h : StmtOk row most ts ds) : OkDue (.list ds) := ⟨ds, rfl, fun e he => by
  obtain ⟨r, l, rfl⟩ := h.run.told_all e he
  exact told_ok _ _ _⟩
theorem StmtOk.short {row most : Int} {ts : List Tk} {ds : List Dat} (h : StmtOk row most ts ds) : ds.length < 100000 := by
  have := h.run.short fun t ht => (h.toks t ht).len
  have := h.len
  omega
theorem most_ok {v : Int} (h0 : 0 ≤ v) (h1 : v < 5) : 0 ≤ ([8, 16, 40, 72, 79] : List Int).getD v.toNat 0 ∧ ([8, 16, 40, 72, 79] : List Int).getD v.toNat 0 < 200 := by
  obtain ⟨k, rfl⟩ := Int.eq_ofNat_of_zero_le h0
  have hk : k < 5 := by omega
  have : ∀ k < 5, 0 ≤ ([8, 16, 40, 72, 79] : List Int).getD k 0 ∧ ([8, 16, 40, 72, 79] : List Int).getD k 0 < 200 := by decide
  exact this k hk
section
variable {g h : Heap} {L : Addr}
/-- a ledger put in order: the four lists and the iterator on top, a tail of no shape -/
theorem abs5 {P : Prop} {x A B C D G : Addr × Obj} {tl R : List (Addr × Obj)} (N : News g L h (x :: (tl ++ (A :: B :: C :: D :: G :: R)))) (h1 : ∀ p ∈ tl, ∀ q ∈ A :: B :: C :: D :: G :: R, q.1 ≠ p.1) (h2 : ∀ q ∈ A :: B :: C :: D :: G :: R, q.1 ≠ x.1)
    (hA : ∀ p ∈ R, p.1 ≠ A.1) (hB : ∀ p ∈ R, p.1 ≠ B.1) (hC : ∀ p ∈ R, p.1 ≠ C.1) (hG : ∀ p ∈ R, p.1 ≠ G.1)
    (k : ∀ Z : List (Addr × Obj), (∀ p ∈ tl, p ∈ Z) → (∀ p ∈ R, p ∈ Z) → (∀ p ∈ Z, p.1 ≠ A.1) → (∀ p ∈ Z, p.1 ≠ B.1) → (∀ p ∈ Z, p.1 ≠ C.1) → (∀ p ∈ Z, p.1 ≠ G.1) → x.1 ≠ A.1 → x.1 ≠ B.1 → x.1 ≠ C.1 → x.1 ≠ G.1 → News g L h (A :: B :: C :: D :: G :: x :: Z) → P) : P := by
  have off : ∀ Y : Addr × Obj, Y ∈ A :: B :: C :: D :: G :: R → (∀ p ∈ R, p.1 ≠ Y.1) → ∀ p ∈ tl ++ R, p.1 ≠ Y.1 := fun Y hY hR p hp => by
    rcases List.mem_append.mp hp with hp | hp
    · exact (h1 p hp Y hY).symm
    · exact hR p hp
  refine k (tl ++ R) (fun p hp => List.mem_append.mpr (.inl hp)) (fun p hp => List.mem_append.mpr (.inr hp)) (off A (.head _) hA) (off B (.tail _ (.head _)) hB) (off C (.tail _ (.tail _ (.head _))) hC) (off G (.tail _ (.tail _ (.tail _ (.tail _ (.head _))))) hG)
    (h2 A (.head _)).symm (h2 B (.tail _ (.head _))).symm (h2 C (.tail _ (.tail _ (.head _)))).symm (h2 G (.tail _ (.tail _ (.tail _ (.tail _ (.head _)))))).symm ?_
  have R1 : ∀ p ∈ A :: B :: C :: D :: G :: R, h.get? p.1 = some p.2 ∧ p.1 ≠ L ∧ g.get? p.1 = none := fun p hp => N p (.tail _ (List.mem_append.mpr (.inr hp)))
  intro p hp
  rcases List.mem_cons.mp hp with rfl | hp
  · exact R1 _ (.head _)
  rcases List.mem_cons.mp hp with rfl | hp
  · exact R1 _ (.tail _ (.head _))
  rcases List.mem_cons.mp hp with rfl | hp
  · exact R1 _ (.tail _ (.tail _ (.head _)))
  rcases List.mem_cons.mp hp with rfl | hp
  · exact R1 _ (.tail _ (.tail _ (.tail _ (.head _))))
  rcases List.mem_cons.mp hp with rfl | hp
  · exact R1 _ (.tail _ (.tail _ (.tail _ (.tail _ (.head _)))))
  rcases List.mem_cons.mp hp with rfl | hp
  · exact N _ (.head _)
  rcases List.mem_append.mp hp with hp | hp
  · exact N _ (.tail _ (List.mem_append.mpr (.inl hp)))
  · exact R1 _ (.tail _ (.tail _ (.tail _ (.tail _ (.tail _ hp)))))
end
section
variable {prog : Program} {w : World} {A : Around} {E : Value → Shared → Prop} {s : Shared} {h₀ : Heap} {L : Addr} {news : List (Addr × Obj)}
theorem tok_mem {XL : List (Addr × Obj)} {v : Value} {t : Tk} (hd : DatIn XL v t.dat) : ∃ T pa pb t1 t2 t3 t4 t5 n1 n2, v = .ref T ∧ (T, tupO #[.int t.ty t1, .str t.tx t2, .ref pa, .ref pb, .str t.line t3] n1) ∈ XL ∧ (pa, tupO #[.int t.r0 t4, .int t.c0 t5] n2) ∈ XL := by
  obtain ⟨ty, tx, r0, c0, r1, c1, line⟩ := t
  cases hd with
  | tuple hm hd =>
    cases hd with
    | cons h1 hd => cases hd with
      | cons h2 hd => cases hd with
        | cons h3 hd => cases hd with
          | cons h4 hd => cases hd with
            | cons h5 hd =>
              cases hd; cases h1; cases h2; cases h5
              cases h3 with
              | tuple hm3 hd3 =>
                cases hd3 with
                | cons a1 hd3 => cases hd3 with
                  | cons a2 hd3 =>
                    cases hd3; cases a1; cases a2
                    cases h4 with
                    | tuple hm4 hd4 => exact ⟨_, _, _, _, _, _, _, _, _, _, rfl, hm, hm3⟩
/-- the last token -/
theorem last_tok {value slice : PySem.Expr} {l : Addr} {vs : List Value} {ts : List Tk} {c : Nat} {X : List (Addr × Obj)} {k : Int} {uk : Tok} {row most : Int} {ds : List Dat} {Q : Value → Shared → Prop} (hk : k = -1) (N : News h₀ L s.heap news) (hm : (l, W.listOf vs.toArray c) ∈ news) (hX : ∀ p ∈ X, p ∈ news) (D : TksIn X vs ts) (ok : StmtOk row most ts ds)
    (h : ∀ (t : Tk) T pa pb t1 t2 t3 t4 t5 n1 n2, TkOk row t → News h₀ L s.heap ((T, tupO #[.int t.ty t1, .str t.tx t2, .ref pa, .ref pb, .str t.line t3] n1) :: (pa, tupO #[.int t.r0 t4, .int t.c0 t5] n2) :: news) → Q (.ref T) s)
    (hs : subscripted slice false (.ref l) (.int k uk) = operate [.ref l, .int k uk] (getItem (.ref l) (.int k uk))) :
    wpAny (model prog w) A (subscriptTail value slice (.ref l) (.int k uk)) Q E s := by
  subst hk
  have hl : s.heap.IsList l vs.toArray := ⟨_, (N _ hm).1, rfl, c, rfl⟩
  have hlen : vs.length = ts.length := (DatAll.length D).trans (List.length_map ..)
  have hpos : 0 < ts.length := by
    obtain ⟨us, t, e⟩ := ok.last
    rw [e, List.length_append]; simp
  have h9 := ok.len
  refine tail_any hl.typeIs slot_list_getitem.lookup ?_ hs
  obtain ⟨t, ht⟩ : ∃ t, ts[ts.length - 1]? = some t := ⟨_, List.getElem?_eq_getElem (by omega)⟩
  obtain ⟨v, hv, hd⟩ := DatAll.get D (k := ts.length - 1) (by rw [List.length_map]; omega)
  have e2 : (ts.map Tk.dat)[ts.length - 1]'(by rw [List.length_map]; omega) = t.dat := by
    rw [List.getElem_map]
    rw [List.getElem?_eq_getElem (by omega)] at ht
    rw [Option.some.inj ht]
  rw [e2] at hd
  obtain ⟨T, pa, pb, t1, t2, t3, t4, t5, n1, n2, rfl, m1, m2⟩ := tok_mem hd
  refine wpAny_getItem_list_neg hl (by omega) (by rw [List.size_toArray]; omega) (by omega) (x := .ref T) ?_ (h t T pa pb t1 t2 t3 t4 t5 n1 n2 (ok.toks t (List.mem_of_getElem? ht)) fun p hp => ?_)
  · have e3 : ((-1 : Int) + (vs.toArray.size : Int)).toNat = ts.length - 1 := by rw [List.size_toArray]; omega
    rw [e3]; simpa using hv
  · rcases List.mem_cons.mp hp with rfl | hp
    · exact N _ (hX _ m1)
    rcases List.mem_cons.mp hp with rfl | hp
    · exact N _ (hX _ m2)
    · exact N p hp
end
end Mine
-- part MRangeA
namespace Mine
section
variable {prog : Program} {w : World} {A : Around} {E : Value → Shared → Prop} {s : Shared} {env : Env} {h₀ : Heap} {x : Str} {px : Pos} {body : List Stmt} {Q : Flow → Shared → Prop}
/-- a loop over a range by ones, the state as it comes -/
theorem range_any {r : Addr} {t₀ u₀ v₀ : Tok} {n : Nat} {m₀ : Str → Option Value} {news : List (Addr × Obj)} (J : Nat → (Str → Option Value) → List (Addr × Obj) → Shared → Prop)
    (hh : A.handled = none) (hr : IsRange s.heap r 0 (n : Int) 1 t₀ u₀ v₀) (hsmall : Builtin.Range.small 0 (n : Int) 1 = true) (hsz : Builtin.Range.rangeSize 0 (n : Int) 1 = (n : Int)) (F : Fr h₀ env.locals s.heap m₀) (N : News h₀ env.locals s.heap news) (hj : J 0 m₀ news s)
    (hJ : ∀ i m nx s h' tk, J i m nx s → J i m nx { s with heap := h', toks := tk })
    (hx : env.kindOf x = some .local) (hp : (env.scope.kind == .class || (env.scope.kind == .module && env.locals != env.globals)) = false)
    (turn : ∀ i t m₁ nx s₁ I oI, i < n → J i m₁ nx s₁ → (∀ p ∈ nx, p.1 ≠ I) → Fr h₀ env.locals s₁.heap (fun y => if y = x then some (.int (i : Int) t) else m₁ y) → News h₀ env.locals s₁.heap ((I, oI) :: nx) →
      wpAny (model prog w) A (execs body env) (fun f s₃ => f = .next ∧ ∃ m₂ nx₂, J (i + 1) m₂ nx₂ s₃ ∧ (∀ p ∈ nx₂, p.1 ≠ I) ∧ Fr h₀ env.locals s₃.heap m₂ ∧ News h₀ env.locals s₃.heap ((I, oI) :: nx₂)) noE s₁)
    (done : ∀ m₁ nx s₁, J n m₁ nx s₁ → Fr h₀ env.locals s₁.heap m₁ → News h₀ env.locals s₁.heap nx → Q .next s₁) :
    wpAny (model prog w) A (pyIter (.ref r)) (fun it s₂ => codeAny (model prog w) A (.forLoop (.Name x px) it body [] env) (fun r s' => match r with | .ok f => Q f s' | .error e => cameBackBy (model prog w) A env E e s') s₂) E s := by
  refine wpAny_pyIter_range hr hsmall ?_
  rw [hsz]
  have W : Walks prog w A s.heap.objs.size [s.heap.objs.size] [s.heap.objs.size] n (fun i v => i < n ∧ ∃ t, v = .int (0 + i * 1) t)
      (fun i h => IsRangeIter h s.heap.objs.size (0 + (i : Nat) * 1) ((n : Int) - (i : Nat)) 1) := (Walks.range hh _ 0 1 n).bound
  have hLI : env.locals ≠ s.heap.objs.size := Nat.ne_of_lt F.ns.lt
  have hgI : ∀ b o, h₀.get? b = some o → b ≠ s.heap.objs.size := fun b o e => Nat.ne_of_lt (Heap.lt_size (F.keep b o e))
  have hg0 : h₀.get? s.heap.objs.size = none := by
    cases e : h₀.get? s.heap.objs.size with
    | none => rfl
    | some o => exact absurd rfl (hgI _ _ e)
  generalize hI : s.heap.objs.size = I at *
  refine codeAny_forLoop
    (fun k s' => ∃ m' nx i, J i m' nx s' ∧ (∀ p ∈ nx, p.1 ≠ I) ∧ IsRangeIter s'.heap I (0 + (i : Nat) * 1) ((n : Int) - (i : Nat)) 1 ∧ Fr h₀ env.locals s'.heap m' ∧ News h₀ env.locals s'.heap nx ∧ i ≤ n ∧ k = n + 1 - i) ?_ (n + 1)
    ⟨m₀, news, 0, hJ _ _ _ _ _ _ hj, fun p hp => ?_, ?_, F.push _, fun p hp => ⟨Heap.get?_push_of_some _ (N p hp).1, (N p hp).2⟩, Nat.zero_le _, rfl⟩
  · rintro k s' ⟨m', nx, i, hj', hoff, hst', F', N', hi, rfl⟩
    have next : ∀ h₁ : Heap, (∀ b o, b ∉ [I] → s'.heap.get? b = some o → h₁.get? b = some o) → Fr h₀ env.locals h₁ m' ∧ News h₀ env.locals h₁ nx := fun h₁ hk₁ =>
      ⟨⟨F'.ns.at' fun o e => hk₁ _ o (by simpa using hLI) e, fun b o e => hk₁ b o (by simpa using hgI b o e) (F'.keep b o e), F'.above⟩, fun p hp => ⟨hk₁ _ _ (by simpa using hoff p hp) (N' p hp).1, (N' p hp).2⟩⟩
    by_cases hlt : i < n
    · refine W.item i _ _ _ hlt hst' fun v h₁ tk₁ hP hst₁ hk₁ => ?_
      obtain ⟨F₁, N₁⟩ := next h₁ hk₁
      obtain ⟨_, t, rfl⟩ := hP
      refine wpAny_assign_Name (wpAny_storeName_local hx F₁.ns (fun h₂ hn₂ hs₂ => ?_) hp)
      have F₂ := F₁.set hn₂ hs₂
      have hst₂ : IsRangeIter h₂ I (0 + ((i + 1 : Nat) : Int) * 1) ((n : Int) - ((i + 1 : Nat) : Int)) 1 := (hs₂.2 I (Ne.symm hLI)).trans hst₁
      have e1 : (0 : Int) + (i : Int) * 1 = (i : Int) := by omega
      rw [e1] at F₂
      have N₂ : News h₀ env.locals h₂ ((I, { cls := .type "range_iterator", dict := none, data := .fields #[rawInt (0 + ((i + 1 : Nat) : Int) * 1), rawInt ((n : Int) - ((i + 1 : Nat) : Int)), rawInt 1], slots := #[] }) :: nx) := fun p hp => by
        rcases List.mem_cons.mp hp with rfl | hp
        · exact ⟨hst₂, Ne.symm hLI, hg0⟩
        · exact (N₁.set hs₂) p hp
      refine wpAny_mono (turn i t m' nx { s' with heap := h₂, toks := _ } I _ hlt (hJ _ _ _ _ _ _ hj') hoff F₂ N₂) (fun f s₃ h₃ => ?_) fun _ _ e => e.elim
      obtain ⟨rfl, m₂, nx₂, hj₃, hoff₃, F₃, N₃⟩ := h₃
      exact ⟨n + 1 - (i + 1), by omega, m₂, nx₂, i + 1, hj₃, hoff₃, (N₃ _ (.head _)).1, F₃, fun p hp => N₃ p (.tail _ hp), hlt, rfl⟩
    · have hin : i = n := by omega
      subst hin
      refine W.done _ _ _ hst' fun h₁ tk₁ hk₁ => wpAny_execs_nil ?_
      obtain ⟨F₁, N₁⟩ := next h₁ hk₁
      exact done m' nx _ (hJ _ _ _ _ _ _ hj') F₁ N₁
  · exact Nat.ne_of_lt (hI ▸ Heap.lt_size (N p hp).1)
  · have := Heap.get?_push_size s.heap (o := { cls := .type "range_iterator", data := .fields #[rawInt 0, rawInt n, rawInt 1] }) rfl
    rw [hI] at this
    simpa using this
end
end Mine
-- part ML1
namespace Mine
local macro_rules | `(tactic| walk_at "zzz") => `(tactic| fail)
local macro_rules | `(tactic| walk_at "zzz") => `(tactic| fail)
local macro_rules | `(tactic| walk_at "zzz") => `(tactic| fail)
local macro_rules | `(tactic| walk_at "zzz") => `(tactic| fail)
local macro_rules | `(tactic| walk_at "zzz") => `(tactic| fail)
local macro_rules | `(tactic| walk_at "zzz") => `(tactic| fail)
local macro_rules | `(tactic| k_all) => `(tactic| first | assumption | exact cons_off (by assumption) (by assumption))
theorem cons_all {x y : Addr × Obj} {X R : List (Addr × Obj)} (hx : x ∈ X) (hX : ∀ p ∈ X, ∀ q ∈ y :: R, q.1 ≠ p.1) : ∀ p ∈ x :: X, ∀ q ∈ R, q.1 ≠ p.1 := fun p hp q hq => by
  rcases List.mem_cons.mp hp with rfl | hp
  · exact hX _ hx q (.tail _ hq)
  · exact hX p hp q (.tail _ hq)
theorem head_all {x y : Addr × Obj} {X R : List (Addr × Obj)} (hx : x ∈ X) (hX : ∀ p ∈ X, ∀ q ∈ y :: R, q.1 ≠ p.1) : ∀ q ∈ R, q.1 ≠ x.1 := fun q hq => hX x hx q (.tail _ hq)
structure StopIf : Prop where
  mk ::
theorem stop_if {P : Prop} (_ : StopIf) (h : Stop P) : P := h
theorem drop1 {g h : Heap} {L : Addr} {x y : Addr × Obj} {tl R : List (Addr × Obj)} (N : News g L h (x :: (tl ++ (y :: R)))) : News g L h (x :: (tl ++ R)) := fun p hp => by
  rcases List.mem_cons.mp hp with rfl | hp
  · exact N _ (.head _)
  · rcases List.mem_append.mp hp with hp | hp
    · exact N _ (.tail _ (List.mem_append.mpr (.inl hp)))
    · exact N _ (.tail _ (List.mem_append.mpr (.inr (.tail _ hp))))
theorem cons_off {x : Addr × Obj} {a : Addr} {Z : List (Addr × Obj)} (h : x.1 ≠ a) (hz : ∀ p ∈ Z, p.1 ≠ a) : ∀ p ∈ x :: Z, p.1 ≠ a := fun p hp => by
  rcases List.mem_cons.mp hp with rfl | hp
  · exact h
  · exact hz p hp
theorem sub_in {X Z : List (Addr × Obj)} {x A B C D G y : Addr × Obj} (hz : ∀ p ∈ x :: X, p ∈ Z) : ∀ p ∈ X, p ∈ A :: B :: C :: D :: G :: y :: Z := fun p hp => .tail _ (.tail _ (.tail _ (.tail _ (.tail _ (.tail _ (hz p (.tail _ hp)))))))
theorem Has.put {m : Str → Option Value} {ats : List (Str × Value)} {x : Str} {v : Option Value} (h : Has m ats) (hn : ∀ p ∈ ats, p.1 ≠ x) : Has (fun y => if y = x then v else m y) ats := fun p hp => by
  show (if p.1 = x then v else m p.1) = some p.2
  rw [if_neg (hn p hp)]; exact h p hp
def Hide (Q : Flow → Shared → Prop) (f : Flow) (s : Shared) : Prop := Q f s
theorem hide_post {M : Model} {A : Around} {t : Sem Flow} {Q : Flow → Shared → Prop} {E : Value → Shared → Prop} {s : Shared} (h : wpAny M A t (Hide Q) E s) : wpAny M A t Q E s := wpAny_mono h (fun _ _ x => x) (fun _ _ x => x)
def LawCut (h₀ : Heap) (L : Addr) (os : OsState) (due told st D : Addr) (vsS dv tv : List Value) (o4 : Obj) (gI : Addr × Obj) (Z2 : List (Addr × Obj)) (ats : List (Str × Value)) (f : Flow) (s' : Shared) : Prop :=
  f = .next ∧ AllBare s'.gens ∧ s'.os = os ∧ ∃ m' v u d Zn cT' cD', Fr h₀ L s'.heap m' ∧ News h₀ L s'.heap ((due, W.listOf (dv ++ [u]).toArray cD') :: (told, W.listOf (tv ++ [v]).toArray cT') :: (st, o4) :: (D, W.listOf vsS.toArray 0) :: gI :: Zn) ∧ (∀ p ∈ Z2, p ∈ Zn) ∧ DatIn Zn v d ∧ DatIn Zn u d ∧ OkDue d ∧ (∀ p ∈ Zn, p.1 ≠ told) ∧ (∀ p ∈ Zn, p.1 ≠ due) ∧ (∀ p ∈ Zn, p.1 ≠ st) ∧ (∀ p ∈ Zn, p.1 ≠ gI.1) ∧ Has m' ats
theorem law_end1 {h₀ : Heap} {L : Addr} {os : OsState} {due told st D l S : Addr} {vsS dv tv acc : List Value} {o4 : Obj} {x gI : Addr × Obj} {tl Z2 Z : List (Addr × Obj)} {ats : List (Str × Value)} {m' : Str → Option Value} {cD cT c : Nat} {s' : Shared}
    (F : Fr h₀ L s'.heap m') (N : News h₀ L s'.heap ((l, W.listOf #[] 0) :: (due, W.listOf (dv.toArray.push (.ref l)) cD) :: (told, W.listOf (tv.toArray.push (.ref S)) cT) :: (st, o4) :: (D, W.listOf vsS.toArray 0) :: gI :: (S, W.listOf acc.toArray c) :: Z)) (hb : AllBare s'.gens) (ho : s'.os = os) (DA : DatAll tl acc []) (zt : ∀ p ∈ tl, p ∈ Z) (zr : ∀ p ∈ x :: Z2, p ∈ Z)
    (za : ∀ p ∈ Z, p.1 ≠ due) (zb : ∀ p ∈ Z, p.1 ≠ told) (zc : ∀ p ∈ Z, p.1 ≠ st) (zg : ∀ p ∈ Z, p.1 ≠ gI.1) (xa : S ≠ due) (xb : S ≠ told) (xc : S ≠ st) (xg : S ≠ gI.1) (la : l ≠ due) (lb : l ≠ told) (lc : l ≠ st) (lg : l ≠ gI.1) (ha : Has m' ats) : LawCut h₀ L os due told st D vsS dv tv o4 gI Z2 ats .next s' := by
  refine ⟨rfl, hb, ho, m', .ref S, .ref l, .list [], (l, W.listOf #[] 0) :: (S, W.listOf acc.toArray c) :: Z, cT, cD, F, fun p hp => ?_, fun p hp => .tail _ (.tail _ (zr p (.tail _ hp))), .list (vs := acc) (.tail _ (.head _)) (DA.mono fun p hp => .tail _ (.tail _ (zt p hp))), .list (vs := []) (.head _) .nil, OkDue.nil, cons_off lb (cons_off xb zb), cons_off la (cons_off xa za), cons_off lc (cons_off xc zc), cons_off lg (cons_off xg zg), ha⟩
  have e1 : (dv ++ [Value.ref l]).toArray = dv.toArray.push (.ref l) := by simp
  have e2 : (tv ++ [Value.ref S]).toArray = tv.toArray.push (.ref S) := by simp
  rw [e1, e2] at hp
  rcases List.mem_cons.mp hp with rfl | hp
  · exact N _ (.tail _ (.head _))
  rcases List.mem_cons.mp hp with rfl | hp
  · exact N _ (.tail _ (.tail _ (.head _)))
  rcases List.mem_cons.mp hp with rfl | hp
  · exact N _ (.tail _ (.tail _ (.tail _ (.head _))))
  rcases List.mem_cons.mp hp with rfl | hp
  · exact N _ (.tail _ (.tail _ (.tail _ (.tail _ (.head _)))))
  rcases List.mem_cons.mp hp with rfl | hp
  · exact N _ (.tail _ (.tail _ (.tail _ (.tail _ (.tail _ (.head _))))))
  rcases List.mem_cons.mp hp with rfl | hp
  · exact N _ (.head _)
  · exact N _ (.tail _ (.tail _ (.tail _ (.tail _ (.tail _ (.tail _ hp))))))
theorem law_end2 {h₀ : Heap} {L : Addr} {os : OsState} {due told st D du S : Addr} {vsS dv tv acc : List Value} {o4 : Obj} {x y gI : Addr × Obj} {tl Z2 Z X : List (Addr × Obj)} {ats : List (Str × Value)} {m' : Str → Option Value} {cD cT c : Nat} {s' : Shared} {ds : List Dat}
    (F : Fr h₀ L s'.heap m') (N : News h₀ L s'.heap ((due, W.listOf (dv.toArray.push (.ref du)) cD) :: (told, W.listOf (tv.toArray.push (.ref S)) cT) :: (st, o4) :: (D, W.listOf vsS.toArray 0) :: gI :: (S, W.listOf acc.toArray c) :: Z)) (hb : AllBare s'.gens) (ho : s'.os = os) (DA : DatAll tl acc ds) (zt : ∀ p ∈ tl, p ∈ Z) (zr : ∀ p ∈ x :: Z2, p ∈ Z)
    (za : ∀ p ∈ Z, p.1 ≠ due) (zb : ∀ p ∈ Z, p.1 ≠ told) (zc : ∀ p ∈ Z, p.1 ≠ st) (zg : ∀ p ∈ Z, p.1 ≠ gI.1) (xa : S ≠ due) (xb : S ≠ told) (xc : S ≠ st) (xg : S ≠ gI.1) (hdu : DatIn X (.ref du) (.list ds)) (hX : ∀ p ∈ y :: X, p ∈ Z2) (ok : OkDue (.list ds)) (ha : Has m' ats) : LawCut h₀ L os due told st D vsS dv tv o4 gI Z2 ats .next s' := by
  refine ⟨rfl, hb, ho, m', .ref S, .ref du, .list ds, (S, W.listOf acc.toArray c) :: Z, cT, cD, F, fun p hp => ?_, fun p hp => .tail _ (zr p (.tail _ hp)), .list (vs := acc) (.head _) (DA.mono fun p hp => .tail _ (zt p hp)), hdu.mono fun p hp => .tail _ (zr p (.tail _ (hX p (.tail _ hp)))), ok, cons_off xb zb, cons_off xa za, cons_off xc zc, cons_off xg zg, ha⟩
  have e1 : (dv ++ [Value.ref du]).toArray = dv.toArray.push (.ref du) := by simp
  have e2 : (tv ++ [Value.ref S]).toArray = tv.toArray.push (.ref S) := by simp
  rw [e1, e2] at hp
  exact N p hp
def LawJ (told due st D : Addr) (n : Nat) (vsS : List Value) (os : OsState) (i : Nat) (m : Str → Option Value) (nx : List (Addr × Obj)) (s : Shared) : Prop :=
  AllBare s.gens ∧ s.os = os ∧ ∃ o tv dv DS cT cD row tr Z, nx = (due, W.listOf dv.toArray cD) :: (told, W.listOf tv.toArray cT) :: (st, o) :: (D, W.listOf vsS.toArray 0) :: Z ∧ StO D n o ∧ DatAll Z tv DS ∧ DatAll Z dv DS ∧ (∀ d ∈ DS, OkDue d) ∧
    (∀ p ∈ Z, p.1 ≠ told) ∧ (∀ p ∈ Z, p.1 ≠ due) ∧ (∀ p ∈ Z, p.1 ≠ st) ∧ 1 ≤ row ∧ row ≤ 4 + 11 * (i : Int) ∧ tv.length = i ∧ dv.length = i ∧ Has m [(Str.ofString "state", .ref st), (Str.ofString "told", .ref told), (Str.ofString "due", .ref due), (Str.ofString "row", .int row tr)]
local macro_rules | `(tactic| walk_at "call ref") => `(tactic| (k_here; (with_reducible show wpAny _ _ (call (Value.ref 52) _) _ _ _); k_dflt ((refine' draw_H ?k1 ?k2 ?k3 ?k4 ?k5 ?kX ?k6 ?e0 ?e1 ?k9 ?kA ?_; (case k1 => k_asm); (case k2 => k_asm); (case k3 => k_asm); (case k4 => k_asm); (case k5 => k_updF); (case k6 => first | assumption | (rename (∀ _ _ _, StO _ _ (stObj _ _ _ _ _ _)) => S0; exact S0 _ _ _)); (case kX => exact hid_of (by k_asm) (by k_mem) (by assumption) (by assumption) rfl (by assumption)); (case e0 => decide); (case e1 => decide); (case k9 => (simp only [depth_deeper]; omega)); (case kA => (simp only [units_deeper]; omega));  k_whole); intro v' t' o' h' tk' S' v0' v1' F' N'; (try dsimp only at N'))))
local macro_rules | `(tactic| walk_at "call ref") => `(tactic| (k_here; (with_reducible show wpAny _ _ (call (Value.ref 92) _) _ _ _); k_dflt ((refine' stmt_H ?k1 ?k2 ?k3 ?k4 ?k5 ?kX ?k6 ?k9 ?kA ?kH ?e0 ?e1 ?e2 ?e3 ?_; (case k1 => k_asm); (case k2 => k_asm); (case k3 => k_asm); (case k4 => k_asm); (case k5 => k_updF); (case k6 => first | assumption | (rename (∀ _ _ _, StO _ _ (stObj _ _ _ _ _ _)) => S0; exact S0 _ _ _)); (case kX => exact hid_of (by k_asm) (by k_mem) (by assumption) (by assumption) rfl (by assumption)); (case k9 => (simp only [depth_deeper]; omega)); (case kA => (simp only [units_deeper]; omega)); (case kH => exact rfl); (case e0 => omega); (case e1 => omega); (case e2 => exact (most_ok (by assumption) (by assumption)).1); (case e3 => exact (most_ok (by assumption) (by assumption)).2); k_whole); intro r' tk' du' X' vs' n0' c1' ts' ds' o' h' tkk' hr' htk' hts' hdu' ok' S' hX' F' N'; (try dsimp only at N' hX'); k_dflt (refine abs5 (tl := _ :: X') (drop1 (tl := _ :: X') N') (cons_all htk' hX') (head_all hr' hX') (by assumption) (by assumption) (by assumption) (by assumption) ?_); clear N'; intro Z' zt' zr' za' zb' zc' zg' xa' xb' xc' xg' NZ'; (dsimp only at xa' xb' xc' xg'); (have xa2' := neN xa'); (have xb2' := neN xb'); (have xc2' := neN xc'); (have xg2' := neN xg'))))
local macro_rules | `(tactic| walk_at "exec If") => `(tactic| (refine stop_if (by with_reducible assumption) ?_))
local macro_rules | `(tactic| walk_at "pyIter ref") => `(tactic| ((with_reducible show wpAny _ _ (pyIter (Value.ref _)) _ _ _); refine stop_here ?_))
local macro_rules | `(tactic| walk_at "call ref") => `(tactic| (k_here; (with_reducible show wpAny _ _ (call (Value.ref 45) [_, Value.none, Value.bool false, _]) _ _ _); k_dflt ((refine' gen_N ?k1 ?k2 ?k3 ?k4 ?k9 ?kA ?kH ?_; (case k1 => k_asm); (case k2 => k_asm); (case k3 => k_asm); (case k4 => k_asm); (case k9 => (simp only [depth_deeper]; omega)); (case kA => (simp only [units_deeper]; omega)); (case kH => exact rfl);  k_whole); intro a' h' tks' k' nm' qn' t' u' gs' F' N' hoffa' G'; (try dsimp only at N'))))
local macro_rules | `(tactic| walk_at "call ref") => `(tactic| (k_here; (with_reducible show wpAny _ _ (call (Value.ref 45) [_, Value.int _ _, Value.bool true, _]) _ _ _); k_dflt ((refine' gen_Q ?k1 ?k2 ?k3 ?k4 ?k9 ?kA ?kH ?_; (case k1 => k_asm); (case k2 => k_asm); (case k3 => k_asm); (case k4 => k_asm); (case k9 => (simp only [depth_deeper]; omega)); (case kA => (simp only [units_deeper]; omega)); (case kH => exact rfl);  k_whole); intro a' h' tks' k' nm' qn' t' u' gs' F' N' hoffa' G'; (try dsimp only at N'))))
local macro_rules | `(tactic| walk_at "call ref") => `(tactic| (k_here; (with_reducible show wpAny _ _ (call (Value.ref 45) [_, Value.int _ _, Value.bool false, _]) _ _ _); k_dflt ((refine' gen_K ?k1 ?k2 ?k3 ?k4 ?k9 ?kA ?kH ?e0 ?e1 ?e2 ?e3 ?e4 ?e5 ?e6 ?e7 ?_; (case k1 => k_asm); (case k2 => k_asm); (case k3 => k_asm); (case k4 => k_asm); (case k9 => (simp only [depth_deeper]; omega)); (case kA => (simp only [units_deeper]; omega)); (case kH => exact rfl); (case e0 => exact (most_ok (by assumption) (by assumption)).1); (case e1 => exact (most_ok (by assumption) (by assumption)).2); (case e2 => exact sub_in (by assumption)); (case e3 => assumption); (case e4 => assumption); (case e5 => assumption); (case e6 => omega); (case e7 => omega);  k_whole); intro a' h' tks' k' nm' qn' t' u' gs' F' N' hoffa' G'; (try dsimp only at N'))))
local macro_rules | `(tactic| walk_at "call type:list") => `(tactic| (k_here; (with_reducible show wpAny _ _ (call (Value.type "list") [Value.ref _]) _ _ _); k_dflt ((refine' list_K ?k1 ?k2 ?k3 ?k4 ?k5 ?_; (case k1 => assumption); (case k2 => exact rfl); (case k3 => (simp only [depth_deeper]; omega)); (case k4 => first | assumption | exact Nat.zero_lt_succ _); (case k5 => assumption); k_whole); intro Sx' c' tl' acc' h' gens' tkl' D' F' N' o1' o2' o3' hb'; k_dflt (refine abs5 N' o1' o2' (by first | assumption | exact cons_off (by assumption) (by assumption)) (by first | assumption | exact cons_off (by assumption) (by assumption)) (by first | assumption | exact cons_off (by assumption) (by assumption)) (by first | assumption | exact cons_off (by assumption) (by assumption)) ?_); clear N'; intro Z' zt' zr' za' zb' zc' zg' xa' xb' xc' xg' NZ'; (dsimp only at xa' xb' xc' xg'); (have xa2' := neN xa'); (have xb2' := neN xb'); (have xc2' := neN xc'); (have xg2' := neN xg'))))
local macro_rules | `(tactic| walk_at "call builtin:list.append") => `(tactic| (k_here; k_dflt (show wpAny _ _ (call (Value.builtin _) [Value.ref _, _]) _ _ _); k_dflt (refine' append_K ?k1 ?k2 ?k3 ?_ ?z; (case k1 => k_asm); (case k2 => k_asm); (case k3 => k_upd); (case z => size_fits); k_whole); intro h' F' N'; (try k_sweep)))
local macro_rules | `(tactic| walk_at "subscriptTail Name UnaryOp ref int") => `(tactic| (k_here; (with_reducible show wpAny _ _ (subscriptTail _ _ (Value.ref _) (Value.int _ _)) _ _ _); k_dflt (refine' last_tok ?k0 ?k1 ?k2 ?k3 ?k4 ?k5 ?_ ?k6; (case k4 => assumption); (case k5 => assumption); (case k0 => first | exact rfl | omega); (case k1 => k_asm); (case k2 => assumption); (case k3 => assumption); (case k6 => with_unfolding_all rfl); k_whole); intro tt' T' pa' pb' q1' q2' q3' q4' q5' n1' n2' tok' NT'))
local macro_rules | `(tactic| walk_at "compareOp Eq ref ref") => `(tactic| (refine stop_here ?_))
local macro_rules | `(tactic| walk_at "call type:range") => `(tactic| (k_here; (rename Fr _ _ _ _ => fX); (rename News _ _ _ _ => nX); with_unfolding_all refine range1_rows fX nX ?_; intro hR tkR tR1 tR2 tR3 rngR fR nR kR))
local macro_rules | `(tactic| k_all) => `(tactic| assumption)
local macro_rules | `(tactic| walk_at "exec For Name Call cons nil") => `(tactic| (refine stop_here ?_))
local macro_rules | `(tactic| walk_at "call ref") => `(tactic| (refine stop_tok (by with_reducible assumption) ?_))

theorem X : PySem.Challenge.rw_et5024_01.Holds := Tp (by w_strict (
  k_fill
  intro w s₀ s₁ mg mb G Y fa o pm cd doc dV kV ho hd hcd hD hmg hg args vals as hpre hlay hrd hwl hlo
  have KX := kIn_of Y
  have X := (Ground.X G).1
  have V := (Ground.X G).2
  try w_nolog (first | (have GL := glob_more (Ground.glob G (by first | k_qdec | decide +kernel) (by first | k_qdec | decide +kernel)) V) | (have GL := glob_more (Ground.glob G (by decide +kernel)) V))
  refine Ground.open G ?_
  intro T B D TE TW
  try (refine guard_noD D (by decide +kernel) ?_; clear D)
  obtain ⟨_, _, M⟩ := bmod_of_top T
  have TA := at_of_top T
  try (obtain ⟨_, _, he, B0⟩ := based_of_top T rfl hmg ho hd; have he' : cd = _ := he; subst he'; clear he)
  clear hmg
  wrow_args hpre hlay hrd hwl hlo
  all_goals (
    first | refine callC_kw (enter_call ?_) | refine enter_call ?_ | refine callC_kw (enter_callW ?_) | refine enter_callW ?_ | w_how
    w_top on
    have K0 := below_caller (Top.heap T)
    w_call any ho hd hcd hD T F
    clear hd TA
    k_drop
    skip)

  have hd : callerA.depth + 100 < recursionLimit := by decide +kernel
  have hu : callerA.units + 1000 < cLine := by decide +kernel
  have tok : StopTok := ⟨⟩
  all_goals try k_fold
  k_steps
  refine Stop.out ?_
  clear tok
  rename_i wS hs1 hl0 hL1 hr1 hl2 w4 w3 w2 w1 wE hLs ras wel rds hIs hrs hc1 hc2 h₁ D vsS hh2 hIS hCS hLS l1a st hh3 l1b hh4 F4 N4
  have hn60 : (List.take 60 wS).length ≤ 100 := by omega
  have hDst : D ≠ st := Nat.ne_of_lt l1b
  have S0 : ∀ t1 t2 c, StO D (List.take 60 wS).length (stObj D 0 t1 17 t2 c) := fun _ _ _ => ⟨_, _, _, _, _, rfl, by omega, by omega, by decide, by decide⟩
  show wpAny _ _ _ _ _ _
  k_fold
  k_steps
  refine Stop.out ?_
  rename_i v t2 o2 h5 tk5 S2 v0 v1 h6 told h7 l2 h8 due h9 l3 h10 F5 N5
  have hTS : told ≠ st := Nat.ne_of_gt l2.1
  have hTD : told ≠ D := Nat.ne_of_gt l2.2
  have hDT : due ≠ told := Nat.ne_of_gt l3.1
  have hDS : due ≠ st := Nat.ne_of_gt l3.2.1
  have hDD : due ≠ D := Nat.ne_of_gt l3.2.2
  have hTDu : told ≠ due := hDT.symm
  have hSTd : st ≠ told := hTS.symm
  have hSDu : st ≠ due := hDS.symm
  have hDTd : D ≠ told := hTD.symm
  have hDDu : D ≠ due := hDD.symm
  have hSD : st ≠ D := hDst.symm
  have nTDu := neN hTDu
  have nSTd := neN hSTd
  have nSDu := neN hSDu
  have nDTd := neN hDTd
  have nDDu := neN hDDu
  have nDS := neN hDst
  refine wpAny_For ?_
  show wpAny _ _ _ _ _ _
  k_fold
  k_steps
  refine Stop.out ?_
  rename IsRange _ _ _ _ _ _ _ _ => rngR
  rename Fr _ _ _ _ => fR
  rename News _ _ _ _ => nR
  rename StO _ _ _ => S3
  rename _ < (3 : Int) => v31
  rename (0 : Int) ≤ _ => v30
  obtain ⟨n, hn⟩ : ∃ n : Nat, _ = (n : Int) := ⟨_, (Int.toNat_of_nonneg (show (0 : Int) ≤ 2 + _ from Int.add_nonneg (by decide) v30)).symm⟩
  rw [hn] at rngR
  have hn4 : n ≤ 4 := by omega
  refine range_any (n := n) (LawJ told due st D (List.take 60 wS).length vsS s₁.os) rfl rngR (small_one (by omega) (by omega) (by omega) (by omega)) (by rw [rangeSize_nat]; omega) fR nR ⟨by rw [hg]; exact AllBare.empty, rfl, _, [], [], [], 0, 0, 1 + 3 * v, _, [], rfl, S3, .nil, .nil, (fun d hd => nomatch hd), (fun p hp => nomatch hp), (fun p hp => nomatch hp), (fun p hp => nomatch hp), by omega, by omega, rfl, rfl, ats_cons rfl (ats_cons rfl (ats_cons rfl (ats_cons rfl ats_nil)))⟩ (fun i m nx s h' tk hj => hj) rfl rfl ?_ ?_
  · clear fR nR rngR S3
    (try clear F5); (try clear N5); (try clear S2); (try clear F4); (try clear N4)
    rintro i t m₁ nx s₂ I oI hi ⟨hb, hos, o, tv, dv, DS, cT, cD, row, tr, Z, rfl, S, dT, dD, hok, zt, zd, zs, hr0, hr1, hlT, hlD, hm⟩ hoff F N
    have iD := neN (hoff _ (.head _)).symm
    have iT := neN (hoff _ (.tail _ (.head _))).symm
    have iS := neN (hoff _ (.tail _ (.tail _ (.head _)))).symm
    dsimp only at iD iT iS
    have N1 : News s₁.heap s₁.heap.objs.size s₂.heap ((due, W.listOf dv.toArray cD) :: (told, W.listOf tv.toArray cT) :: (st, o) :: (D, W.listOf vsS.toArray 0) :: (I, oI) :: Z) := by
      intro p hp
      rcases List.mem_cons.mp hp with rfl | hp
      · exact N _ (.tail _ (.head _))
      rcases List.mem_cons.mp hp with rfl | hp
      · exact N _ (.tail _ (.tail _ (.head _)))
      rcases List.mem_cons.mp hp with rfl | hp
      · exact N _ (.tail _ (.tail _ (.tail _ (.head _))))
      rcases List.mem_cons.mp hp with rfl | hp
      · exact N _ (.tail _ (.tail _ (.tail _ (.tail _ (.head _)))))
      rcases List.mem_cons.mp hp with rfl | hp
      · exact N _ (.head _)
      · exact N _ (.tail _ (.tail _ (.tail _ (.tail _ (.tail _ hp)))))
    have zi : ∀ p ∈ Z, p.1 ≠ I := fun p hp => hoff p (.tail _ (.tail _ (.tail _ (.tail _ hp))))
    have F8 := fr_names [(Str.ofString "state", .ref st), (Str.ofString "told", .ref told), (Str.ofString "due", .ref due), (Str.ofString "row", .int row tr)] F (hm.put (by intro p hp; simp only [List.mem_cons, List.not_mem_nil, or_false] at hp; rcases hp with rfl | rfl | rfl | rfl <;> (dsimp only; decide +kernel)))
    dsimp only [asNames] at F8
    clear F N
    have tok : StopIf := ⟨⟩
    show wpAny _ _ _ _ _ _
    k_fold
    k_steps
    refine Stop.out ?_
    clear tok
    rename_i r tk2 du X vs n0 c1 ts ds o3 hh5 tkk hr htk hts hdu ok S4 hX Z2 ztk zr za zb zc zg xa xb xc xg xa2 xb2 xc2 xg2 hh4 hh3 hh2 tkx form tf o4 hh1 tkz S6 f0 f1 hh0 F9 N9
    dsimp only at za zb zc zg
    have hds := ok.short
    refine wpAny_mono (Q := LawCut s₁.heap s₁.heap.objs.size s₁.os due told st D vsS dv tv o4 (I, oI) Z2 [(Str.ofString "state", .ref st), (Str.ofString "told", .ref told), (Str.ofString "due", .ref due), (Str.ofString "row", .int row tr), (Str.ofString "tokens", .ref tk2)]) ?key ?nxt (fun _ _ x => x)
    case key =>
      clear S4 hX zd zt zs zi zr
      have hdue := ok.due
      show wpAny _ _ _ _ _ _
      k_fold
      k_steps
      all_goals (try dsimp only)
      all_goals first
        | (refine' law_end1 ?F ?N ?hb ?ho ?DA ?zt ?zr ?za ?zb ?zc ?zg ?xa ?xb ?xc ?xg ?la ?lb ?lc ?lg ?ha; (case F => assumption); (case N => assumption); (case hb => assumption); (case ho => exact hos); (case DA => assumption); (case zt => assumption); (case zr => assumption); (case za => assumption); (case zb => assumption); (case zc => assumption); (case zg => assumption); (case xa => assumption); (case xb => assumption); (case xc => assumption); (case xg => assumption); (case la => k_ne); (case lb => k_ne); (case lc => k_ne); (case lg => k_ne); (case ha => exact (ats_cons rfl (ats_cons rfl (ats_cons rfl (ats_cons rfl (ats_cons rfl ats_nil)))))))
        | (refine' law_end2 ?F ?N ?hb ?ho ?DA ?zt ?zr ?za ?zb ?zc ?zg ?xa ?xb ?xc ?xg ?hdu ?hX ?ok ?ha; (case F => assumption); (case N => assumption); (case hb => assumption); (case ho => exact hos); (case DA => assumption); (case zt => assumption); (case zr => assumption); (case za => assumption); (case zb => assumption); (case zc => assumption); (case zg => assumption); (case xa => assumption); (case xb => assumption); (case xc => assumption); (case xg => assumption); (case hdu => exact hdu); (case hX => exact ztk); (case ok => exact hdue); (case ha => exact (ats_cons rfl (ats_cons rfl (ats_cons rfl (ats_cons rfl (ats_cons rfl ats_nil)))))))
    case nxt =>
      clear F9 N9
      rintro f s' ⟨rfl, hb', hos', m', v', u', d', Zn, cT', cD', F10, N10, hsub, dv1, du1, okd, z1, z2, z3, z4, hm'⟩
      have F11 := fr_names [(Str.ofString "state", .ref st), (Str.ofString "told", .ref told), (Str.ofString "due", .ref due), (Str.ofString "row", .int row tr), (Str.ofString "tokens", .ref tk2)] F10 hm'
      dsimp only [asNames] at F11
      clear F10
      have hm2 : (tk2, W.listOf vs.toArray c1) ∈ (due, W.listOf (dv ++ [u']).toArray cD') :: (told, W.listOf (tv ++ [v']).toArray cT') :: (st, o4) :: (D, W.listOf vsS.toArray 0) :: (I, oI) :: Zn := .tail _ (.tail _ (.tail _ (.tail _ (.tail _ (hsub _ (ztk _ (.head _)))))))
      have hX2 : ∀ p ∈ X, p ∈ (due, W.listOf (dv ++ [u']).toArray cD') :: (told, W.listOf (tv ++ [v']).toArray cT') :: (st, o4) :: (D, W.listOf vsS.toArray 0) :: (I, oI) :: Zn := fun p hp => .tail _ (.tail _ (.tail _ (.tail _ (.tail _ (hsub _ (ztk _ (.tail _ hp)))))))
      dsimp only
      refine hide_post ?_
      show wpAny _ _ _ _ _ _
      k_fold
      k_steps
      rename TkOk _ _ => tko
      rename Fr _ _ _ _ => FZ
      rename News _ _ _ _ => NZ
      have ht0 := tko.r0
      have ht1 := tko.r1
      refine ⟨rfl, _, (due, W.listOf (dv ++ [u']).toArray cD') :: (told, W.listOf (tv ++ [v']).toArray cT') :: (st, o4) :: (D, W.listOf vsS.toArray 0) :: Zn, ⟨hb', hos', o4, tv ++ [v'], dv ++ [u'], DS ++ [d'], cT', cD', _, _, Zn, rfl, S6, (dT.mono fun p hp => hsub _ (zr _ hp)).append (.one dv1), (dD.mono fun p hp => hsub _ (zr _ hp)).append (.one du1), fun d hd => ?_, z1, z2, z3, ?_, ?_, by simp [hlT], by simp [hlD], (ats_cons rfl (ats_cons rfl (ats_cons rfl (ats_cons rfl ats_nil))))⟩, fun p hp => ?_, FZ, fun p hp => ?_⟩
      · rcases List.mem_append.mp hd with hd | hd
        · exact hok d hd
        · rw [List.mem_singleton.mp hd]; exact okd
      · omega
      · rw [Int.natCast_succ]; omega
      · rcases List.mem_cons.mp hp with rfl | hp
        · exact Ne.symm iD
        rcases List.mem_cons.mp hp with rfl | hp
        · exact Ne.symm iT
        rcases List.mem_cons.mp hp with rfl | hp
        · exact Ne.symm iS
        rcases List.mem_cons.mp hp with rfl | hp
        · exact hoff _ (.tail _ (.tail _ (.tail _ (.head _))))
        · exact z4 p hp
      · rcases List.mem_cons.mp hp with rfl | hp
        · exact NZ _ (.tail _ (.tail _ (.tail _ (.tail _ (.tail _ (.tail _ (.head _)))))))
        rcases List.mem_cons.mp hp with rfl | hp
        · exact NZ _ (.tail _ (.tail _ (.head _)))
        rcases List.mem_cons.mp hp with rfl | hp
        · exact NZ _ (.tail _ (.tail _ (.tail _ (.head _))))
        rcases List.mem_cons.mp hp with rfl | hp
        · exact NZ _ (.tail _ (.tail _ (.tail _ (.tail _ (.head _)))))
        rcases List.mem_cons.mp hp with rfl | hp
        · exact NZ _ (.tail _ (.tail _ (.tail _ (.tail _ (.tail _ (.head _))))))
        · exact NZ _ (.tail _ (.tail _ (.tail _ (.tail _ (.tail _ (.tail _ (.tail _ hp)))))))
  · clear fR nR rngR S3
    (try clear F5); (try clear N5); (try clear S2); (try clear F4); (try clear N4)
    rintro m₁ nx s₃ ⟨hb, hos, o, tv, dv, DS, cT, cD, row, tr, Z, rfl, S, dT, dD, hok, zt, zd, zs, hr0, hr1, hlT, hlD, hm⟩ F N
    have F8 := fr_names [(Str.ofString "state", .ref st), (Str.ofString "told", .ref told), (Str.ofString "due", .ref due), (Str.ofString "row", .int row tr)] F hm
    dsimp only [asNames] at F8
    clear F
    dsimp only
    show wpAny _ _ _ _ _ _
    k_fold
    k_steps
    refine Stop.out ?_
    refine kqd_eq N (.tail _ (.head _)) rfl rfl dT (fun p hp => .tail _ (.tail _ (.tail _ (.tail _ hp)))) (.head _) rfl rfl dD (fun p hp => .tail _ (.tail _ (.tail _ (.tail _ hp)))) (fun d hd => (hok d hd).kqd) (fun d hd => (hok d hd).kqd) (by simp only [units_deeper]; omega) ?_
    simp only [decide_true]
    show GoodWG _ _ _ _ _ _ _
    refine ⟨.inl ⟨_, _, [], rfl, ?hr, ReadsW.bool true, ?hp, fun _ => ⟨List.nodup_nil, fun _ hm => nomatch hm⟩⟩, .of_keep F8.keep, hos, hb⟩
    case hr => first | exact fun _ => rfl | exact raisesW_false (by wrow_none_raised)
    case hp => first | wrow_post | exact postW_of (X := true) (by decide) (by rfl) rfl | exact postW_of (X := true) rfl (by decide) rfl
))
end Mine
theorem PySem.Challenge.cw_et5024_01_holds : PySem.Challenge.rw_et5024_01.Holds := by
  exact Mine.X
