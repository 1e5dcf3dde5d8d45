import PyProof.Rows.All
import Wide.All
import OpenK.AllK
import Wide.FinOn
import Lean
import PySem.Challenge.RW_fq5017_01
open PySem PySem.W PySem.W.X PyProof.Rows
set_option Elab.async false
set_option maxRecDepth 100000
set_option maxHeartbeats 0
namespace Mine
local macro_rules | `(tactic| k_head) => `(tactic| x_head)
open_top hd for PySem.Challenge.rw_fq5017_01
set_option hygiene false in
local macro_rules | `(tactic| walk_at "hv") => `(tactic| first | with_reducible assumption | (refine look_no (by decide) ?_; walk_at "hv") | exact look_yes rfl | with_unfolding_all rfl)
set_option hygiene false in
local macro_rules | `(tactic| walk_at "m") => `(tactic| with_reducible (first
  | refine wpAny_execs_cons ?_
  | refine wpAny_execs_nil ?_
  | refine wpAny_If ?_
  | refine wpAny_Return_some ?_
  | refine wpAny_Return_none ?_
  | refine wpAny_isTrue_Compare1 ?_ (by with_unfolding_all rfl)
  | refine wpAny_Compare1 ?_ (by with_unfolding_all rfl)
  | refine wpAny_BinOp ?_
  | refine wpAny_For ?_ (by intro _; with_unfolding_all rfl)
  | refine wpAny_isTrue_BoolOp ?_
  | refine wpAny_allTrue_And_cons ?_
  | refine wpAny_allTrue_And_nil ?_
  | refine wpAny_allTrue_Or_cons ?_
  | refine wpAny_allTrue_Or_nil ?_
  | refine q_not ?_
  | refine is_none_gen ?_
  | refine isnot_none_gen ?_
  | (refine wpAny_isTrue_value ?_ (by with_unfolding_all rfl))
  | refine truthy_int ?_
  | (refine q_int F ?_; clear F; intro s t F)
  | (refine q_str F ?_; clear F; intro s t F)
  | refine wpAny_Constant_none ?_
  | refine wpAny_Constant_bool ?_
  | refine spliced_none ?_
  | refine spliced_more ?_ (by with_unfolding_all rfl)
  | (refine ⟨Fm.X F, ?_⟩)
  | refine Subscript_ ?_
  | refine Tuple_ ?_
  | refine List_ ?_
  | refine wpAny_truthy_bool ?_
  | refine is_none ?_
  | refine isNot_none ?_
  | refine q_lt ?_
  | refine q_eq ?_
  | refine q_ge ?_
  | (refine q_mul20 F ?_; clear F; intro s t F)
  | (refine q_mulc F (by decide) ?_; clear F; intro s t F)
  | (refine q_fdiv F (by decide) (PyProof.noPylong_small (by decide)) ?_; clear F; intro s t F)
  | refine q_neB ?_
  | (refine q_mod F (by decide) ?_; clear F; intro s t F)
  | (refine q_add F ?_; clear F; intro s t F)
  | (refine q_sub F ?_; clear F; intro s t F)
  | (refine q_iadd F ?_; clear F; intro s t F)
  | (refine wpAny_Assign_Name ?_ (by with_unfolding_all rfl))
  | (refine wpAny_AugAssign_Name ?_)
  | (refine wpAny_Expr_any ?_ (by with_unfolding_all rfl) (by with_unfolding_all rfl))
  | (refine q_st F ?_ (by with_unfolding_all rfl) (by with_unfolding_all rfl); clear F; intro s F)
  | (refine q_ldn F (by walk_at "hv") ?_ (by with_unfolding_all rfl) (by with_unfolding_all rfl))
  | (refine q_ld F (by walk_at "hv") ?_ (by with_unfolding_all rfl) (by with_unfolding_all rfl) (by decide))
  | (refine q_gl F (by k_is) ?_ (by with_unfolding_all rfl) (by with_unfolding_all rfl) (by decide))
  | (refine q_bi F (by k_is) (by boot_fast) (by decide) ?_ (by with_unfolding_all rfl) (by with_unfolding_all rfl) (by decide))
  | (refine e_st ⟨by with_unfolding_all rfl, by with_unfolding_all rfl, by with_unfolding_all rfl, by with_unfolding_all rfl⟩ F ?_ (by with_unfolding_all rfl); clear F; intro s F)
  | (refine e_ld ⟨by with_unfolding_all rfl, by with_unfolding_all rfl, by with_unfolding_all rfl, by with_unfolding_all rfl⟩ F (by walk_at "hv") ?_ (by with_unfolding_all rfl) (by decide))
  | (refine e_gl ⟨by with_unfolding_all rfl, by with_unfolding_all rfl, by with_unfolding_all rfl, by with_unfolding_all rfl⟩ F (by k_is) ?_ (by with_unfolding_all rfl) (by decide))
  | (refine e_bi ⟨by with_unfolding_all rfl, by with_unfolding_all rfl, by with_unfolding_all rfl, by with_unfolding_all rfl⟩ F (by k_is) (by boot_fast) (by decide) ?_ (by with_unfolding_all rfl) (by decide))
  | (refine MethodCall_ ?_ (by with_unfolding_all rfl))
  | (refine Call_ ?_ (by with_unfolding_all rfl))
  | (refine callWith_method1 ?_ (by with_unfolding_all rfl) (by with_unfolding_all rfl))
  | (refine callWith_method0 ?_)
  | (refine Pv.callWith_type1 ?_ (by with_unfolding_all rfl) (by with_unfolding_all rfl))
  | (refine q_cw (by k_is) ?_ (by with_unfolding_all rfl) (by with_unfolding_all rfl))
  | (refine q_cw0 F (by k_is) ?_)
  | refine Attribute_any_ ?_ (by with_unfolding_all rfl)
  | (refine q_mAppend F (by first | exact List.mem_cons_self | exact List.mem_cons_of_mem _ List.mem_cons_self | exact List.mem_cons_of_mem _ (List.mem_cons_of_mem _ List.mem_cons_self)) ?_)
  | (refine q_if_f (by with_unfolding_all rfl) ?_)
  | (refine q_if_t (by with_unfolding_all rfl) ?_)
  | (dsimp only)))
set_option hygiene false in
local macro_rules | `(tactic| walk_at "mm") => `(tactic| repeat' (walk_at "m"))
set_option hygiene false in
local macro_rules | `(tactic| walk_at "sl") => `(tactic| (refine wpAny_Slice ?_; rw [evalPart_some]; walk_at "mm"; rw [evalPart_some]; walk_at "mm"; refine wpAny_pure ?_))
set_option hygiene false in
local macro_rules | `(tactic| walk_at "law") => `(tactic| (
  obtain ⟨oLaw, hLaw, hb, hs⟩ := hB.ex
  have key : ∀ o2, (Mine.hd.heap_39 w.params).lookup 928 = some o2 → oLaw = o2 := fun o2 h2 => Option.some.inj (hLaw.symm.trans h2)
  have e := key _ (by k_is)
  subst e
  dsimp only [fnBody, fnScope, atP, bodyOf, elseOf, List.cons_append, List.nil_append] at hb hs
  subst hb hs
  clear key hLaw
  obtain ⟨hm1, hm2, hm3, hm4, hm5, hm6, hm7⟩ := hm))
set_option hygiene false in
local macro_rules | `(tactic| walk_at "asc") => `(tactic| simp only [List.append_assoc, List.cons_append, List.nil_append] at *)
set_option hygiene false in
local macro_rules | `(tactic| walk_at "t") => `(tactic| with_reducible (first
  | refine wpAny_If ?_
  | refine wpAny_Return_some ?_
  | refine wpAny_Return_none ?_
  | refine wpAny_isTrue_Compare1 ?_ (by with_unfolding_all rfl)
  | refine wpAny_Compare1 ?_ (by with_unfolding_all rfl)
  | refine wpAny_BinOp ?_
  | refine wpAny_For ?_ (by intro _; with_unfolding_all rfl)
  | refine wpAny_isTrue_BoolOp ?_
  | refine wpAny_allTrue_And_cons ?_
  | refine wpAny_allTrue_And_nil ?_
  | refine wpAny_allTrue_Or_cons ?_
  | refine wpAny_allTrue_Or_nil ?_
  | refine q_not ?_
  | refine is_none_gen ?_
  | refine isnot_none_gen ?_
  | (refine wpAny_isTrue_value ?_ (by with_unfolding_all rfl))
  | refine truthy_int ?_
  | (refine q_int F ?_; clear F; intro s t F)
  | (refine q_str F ?_; clear F; intro s t F)
  | refine wpAny_Constant_none ?_
  | refine wpAny_Constant_bool ?_
  | refine spliced_none ?_
  | refine spliced_more ?_ (by with_unfolding_all rfl)
  | (refine ⟨Fm.X F, ?_⟩)
  | refine Subscript_ ?_
  | refine Tuple_ ?_
  | refine List_ ?_
  | refine wpAny_truthy_bool ?_
  | refine is_none ?_
  | refine isNot_none ?_
  | refine q_lt ?_
  | refine q_eq ?_
  | refine q_ge ?_
  | (refine q_mul20 F ?_; clear F; intro s t F)
  | (refine q_mulc F (by decide) ?_; clear F; intro s t F)
  | (refine q_fdiv F (by decide) (PyProof.noPylong_small (by decide)) ?_; clear F; intro s t F)
  | refine q_neB ?_
  | (refine q_mod F (by decide) ?_; clear F; intro s t F)
  | (refine q_add F ?_; clear F; intro s t F)
  | (refine q_sub F ?_; clear F; intro s t F)
  | (refine q_iadd F ?_; clear F; intro s t F)
  | (refine wpAny_Assign_Name ?_ (by with_unfolding_all rfl))
  | (refine wpAny_AugAssign_Name ?_)
  | (refine wpAny_Expr_any ?_ (by with_unfolding_all rfl) (by with_unfolding_all rfl))
  | (refine q_st F ?_ (by with_unfolding_all rfl) (by with_unfolding_all rfl); clear F; intro s F)
  | (refine q_ldn F (by walk_at "hv") ?_ (by with_unfolding_all rfl) (by with_unfolding_all rfl))
  | (refine q_ld F (by walk_at "hv") ?_ (by with_unfolding_all rfl) (by with_unfolding_all rfl) (by decide))
  | (refine q_gl F (by k_is) ?_ (by with_unfolding_all rfl) (by with_unfolding_all rfl) (by decide))
  | (refine q_bi F (by k_is) (by boot_fast) (by decide) ?_ (by with_unfolding_all rfl) (by with_unfolding_all rfl) (by decide))
  | (refine e_st ⟨by with_unfolding_all rfl, by with_unfolding_all rfl, by with_unfolding_all rfl, by with_unfolding_all rfl⟩ F ?_ (by with_unfolding_all rfl); clear F; intro s F)
  | (refine e_ld ⟨by with_unfolding_all rfl, by with_unfolding_all rfl, by with_unfolding_all rfl, by with_unfolding_all rfl⟩ F (by walk_at "hv") ?_ (by with_unfolding_all rfl) (by decide))
  | (refine e_gl ⟨by with_unfolding_all rfl, by with_unfolding_all rfl, by with_unfolding_all rfl, by with_unfolding_all rfl⟩ F (by k_is) ?_ (by with_unfolding_all rfl) (by decide))
  | (refine e_bi ⟨by with_unfolding_all rfl, by with_unfolding_all rfl, by with_unfolding_all rfl, by with_unfolding_all rfl⟩ F (by k_is) (by boot_fast) (by decide) ?_ (by with_unfolding_all rfl) (by decide))
  | (refine MethodCall_ ?_ (by with_unfolding_all rfl))
  | (refine Call_ ?_ (by with_unfolding_all rfl))
  | (refine callWith_method1 ?_ (by with_unfolding_all rfl) (by with_unfolding_all rfl))
  | (refine callWith_method0 ?_)
  | (refine Pv.callWith_type1 ?_ (by with_unfolding_all rfl) (by with_unfolding_all rfl))
  | (refine q_cw (by k_is) ?_ (by with_unfolding_all rfl) (by with_unfolding_all rfl))
  | (refine q_cw0 F (by k_is) ?_)
  | refine Attribute_any_ ?_ (by with_unfolding_all rfl)
  | (refine q_mAppend F (by first | exact List.mem_cons_self | exact List.mem_cons_of_mem _ List.mem_cons_self | exact List.mem_cons_of_mem _ (List.mem_cons_of_mem _ List.mem_cons_self)) ?_)
  | (refine q_if_f (by with_unfolding_all rfl) ?_)
  | (refine q_if_t (by with_unfolding_all rfl) ?_)
  | (dsimp only)))
set_option hygiene false in
local macro_rules | `(tactic| walk_at "tt") => `(tactic| repeat' (walk_at "t"))
set_option hygiene false in
local macro_rules | `(tactic| walk_at "lv") => `(tactic| (refine wpAny_execs_cons ?_; walk_at "tt"))
theorem fill_all : PySem.Challenge.rw_fq5017_01.prog = PySem.Challenge.rw_fq5017_01.prog ∧ Mine.hd.heap_39 = Mine.hd.heap_39 := by
  k_fill
  exact ⟨rfl, rfl⟩
abbrev PW : Program := PySem.Challenge.pw_fq5017_01
def NE : Value → Shared → Prop := fun _ _ => False
def Sub (g h : Heap) : Prop := ∀ b o, g.get? b = some o → h.get? b = some o
theorem Sub.refl (h : Heap) : Sub h h := fun _ _ e => e
theorem Sub.trans {a b c : Heap} (x : Sub a b) (y : Sub b c) : Sub a c := fun _ _ e => y _ _ (x _ _ e)
noncomputable def cutH (p : Addr → Prop) (h : Heap) : Heap :=
  open Classical in ⟨h.objs.mapIdx fun i o => if p i then o else { o with data := .freed }, h.life⟩
theorem cutH_get {p : Addr → Prop} {h : Heap} {a : Addr} {o : Obj} (e : h.get? a = some o) (hp : p a) : (cutH p h).get? a = some o := by
  have q := Heap.get?_some_iff.mp e
  refine Heap.get?_some_iff.mpr ⟨?_, q.2⟩
  unfold cutH
  simp only [Array.getElem?_mapIdx, q.1, Option.map_some, if_pos hp]
theorem cutH_of {p : Addr → Prop} {h : Heap} {a : Addr} {o : Obj} (e : (cutH p h).get? a = some o) : h.get? a = some o ∧ p a := by
  have q := Heap.get?_some_iff.mp e
  unfold cutH at q
  simp only [Array.getElem?_mapIdx] at q
  cases hh : h.objs[a]? with
  | none => rw [hh] at q; cases q.1
  | some o' =>
    rw [hh] at q
    simp only [Option.map_some, Option.some.injEq] at q
    by_cases hp : p a
    · rw [if_pos hp] at q
      obtain ⟨rfl, q2⟩ := q
      exact ⟨Heap.get?_some_iff.mpr ⟨hh, q2⟩, hp⟩
    · rw [if_neg hp] at q
      obtain ⟨rfl, q2⟩ := q
      simp [Obj.isFreed] at q2
def Gd (w : World) (h : Heap) : Prop := (Mine.hd.heap_39 w.params).In h ∧ ∃ p loose mg mb, TopRead p loose mg mb h
theorem Gd.keeps {w : World} {g h : Heap} (x : Gd w g) (k : Sub g h) : Gd w h :=
  ⟨Frag.In.keeps x.1 k, let ⟨p, l, mg, mb, t⟩ := x.2; ⟨p, l, mg, mb, t.keeps k⟩⟩
structure StepW (W : List Addr) (g : Heap) (s : Shared) (g' : Heap) (s' : Shared) : Prop where
  gens : s'.gens = s.gens
  drawn : s'.drawn = s.drawn
  os : s'.os = s.os
  old : ∀ b o, b ∉ W → s.heap.get? b = some o → s'.heap.get? b = some o
  live : ∀ b o, s.heap.get? b = some o → ∃ o', s'.heap.get? b = some o'
  sub : Sub g g'
  keep : Sub g' s'.heap
  frs : ∀ b o, g'.get? b = some o → g.get? b = some o ∨ s.heap.get? b = none
abbrev Step := StepW []
theorem StepW.trans {W : List Addr} {g g' g'' : Heap} {s s' s'' : Shared} (x : StepW W g s g' s') (y : StepW W g' s' g'' s'') : StepW W g s g'' s'' :=
  ⟨y.gens.trans x.gens, y.drawn.trans x.drawn, y.os.trans x.os, fun b o hb e => y.old b o hb (x.old b o hb e), fun b o e => let ⟨o', e'⟩ := x.live b o e; y.live b o' e', x.sub.trans y.sub, y.keep, fun b o e => by
    rcases y.frs b o e with h | h
    · exact x.frs b o h
    · right
      cases q : s.heap.get? b with
      | none => rfl
      | some o' => obtain ⟨o2, e2⟩ := x.live b o' q; rw [h] at e2; cases e2⟩
theorem StepW.mono {W W' : List Addr} {g g' : Heap} {s s' : Shared} (x : StepW W g s g' s') (h : ∀ b ∈ W, b ∈ W') : StepW W' g s g' s' :=
  ⟨x.gens, x.drawn, x.os, fun b o hb e => x.old b o (fun q => hb (h b q)) e, x.live, x.sub, x.keep, x.frs⟩
theorem Step.of_ext {g : Heap} {s s' : Shared} (hg : Sub g s.heap) (h1 : s'.gens = s.gens) (h2 : s'.drawn = s.drawn) (h3 : s'.os = s.os) (hx : Sub s.heap s'.heap) :
    ∃ g', Step g s g' s' ∧ ∀ a o, s'.heap.get? a = some o → s.heap.get? a = none → g'.get? a = some o := by
  refine ⟨cutH (fun a => (∃ o, g.get? a = some o) ∨ s.heap.get? a = none) s'.heap, ⟨h1, h2, h3, fun b o _ e => hx b o e, fun b o e => ⟨o, hx b o e⟩, fun b o e => cutH_get (hx _ _ (hg b o e)) (.inl ⟨o, e⟩), fun b o e => (cutH_of e).1, fun b o e => ?_⟩, fun a o e n => cutH_get e (.inr n)⟩
  obtain ⟨e1, e2⟩ := cutH_of e
  rcases e2 with ⟨o', e2⟩ | e2
  · left
    have := hx _ _ (hg b o' e2)
    rw [e1] at this; cases this; exact e2
  · exact .inr e2
structure Bs (w : World) (g0 : Heap) (s0 : Shared) (L : Addr) : Prop where
  nL : s0.heap.get? L = none
  above : s0.heap.objs.size ≤ L
  gd0 : Gd w g0
  sub0 : Sub g0 s0.heap
structure Fm (w : World) (W : List Addr) (g0 : Heap) (s0 : Shared) (L : Addr) (ms : List (Addr × Obj)) (g : Heap) (s : Shared) (m : Str → Option Value) : Prop where
  step : StepW W g0 s0 g s
  gd : Gd w g
  ns : s.heap.Ns L m
  bs : Bs w g0 s0 L
  gL : g.get? L = none
  mu : ∀ p ∈ ms, s.heap.get? p.1 = some p.2 ∧ g.get? p.1 = none ∧ p.1 ≠ L ∧ (s0.heap.get? p.1 = none ∨ p.1 ∈ W)
  nd : (ms.map (·.1)).Nodup

section
variable {w : World} {W : List Addr} {g0 g : Heap} {s0 s : Shared} {L : Addr} {ms : List (Addr × Obj)} {m : Str → Option Value}
theorem Fm.get (F : Fm w W g0 s0 L ms g s m) {a : Addr} {o : Obj} (e : g.get? a = some o) : s.heap.get? a = some o := F.step.keep _ _ e
theorem Fm.lL (F : Fm w W g0 s0 L ms g s m) : ∃ o, s.heap.get? L = some o := let ⟨o, _, _, e, _⟩ := F.ns; ⟨o, e⟩
theorem Fm.gd' (F : Fm w W g0 s0 L ms g s m) : Gd w s.heap := F.gd.keeps F.step.keep
theorem Fm.X (F : Fm w W g0 s0 L ms g s m) : (Mine.hd.heap_39 w.params).In s.heap := F.gd'.1
theorem Fm.nL (F : Fm w W g0 s0 L ms g s m) : s0.heap.get? L = none := F.bs.nL
theorem Fm.store {m' : Str → Option Value} {h' : Heap} {tk : Nat} (F : Fm w W g0 s0 L ms g s m) (hn : h'.Ns L m') (hs : Heap.SameBut L s.heap h') : Fm w W g0 s0 L ms g { s with heap := h', toks := tk } m' := by
  have old : ∀ b o, b ≠ L → s.heap.get? b = some o → h'.get? b = some o := fun b o hb e => (hs.2 b hb).trans e
  refine ⟨⟨F.step.gens, F.step.drawn, F.step.os, fun b o hb e => old b o (fun q => by rw [q, F.nL] at e; cases e) (F.step.old b o hb e), fun b o e => ?_, F.step.sub,
      fun b o e => old b o (fun q => by rw [q, F.gL] at e; cases e) (F.step.keep b o e), F.step.frs⟩, F.gd, hn, F.bs, F.gL,
    fun p hp => ⟨old _ _ (F.mu p hp).2.2.1 (F.mu p hp).1, (F.mu p hp).2⟩, F.nd⟩
  obtain ⟨o', e'⟩ := F.step.live b o e
  exact ⟨o', old b o' (fun q => by rw [q, F.nL] at e; cases e) e'⟩
theorem Fm.tok {tk : Nat} (F : Fm w W g0 s0 L ms g s m) : Fm w W g0 s0 L ms g { s with toks := tk } m :=
  ⟨⟨F.step.gens, F.step.drawn, F.step.os, F.step.old, F.step.live, F.step.sub, F.step.keep, F.step.frs⟩, F.gd, F.ns, F.bs, F.gL, F.mu, F.nd⟩
theorem Fm.called {g' : Heap} {s' : Shared} (F : Fm w W g0 s0 L ms g s m) (S : Step g s g' s') : Fm w W g0 s0 L ms g' s' m := by
  have old : ∀ b o, s.heap.get? b = some o → s'.heap.get? b = some o := fun b o e => S.old b o (by simp) e
  refine ⟨F.step.trans (S.mono (by simp)), F.gd.keeps S.sub, F.ns.keeps old, F.bs, ?_, fun p hp => ⟨old _ _ (F.mu p hp).1, ?_, (F.mu p hp).2.2⟩, F.nd⟩
  · cases q : g'.get? L with
    | none => rfl
    | some o =>
      rcases S.frs L o q with h | h
      · rw [F.gL] at h; cases h
      · obtain ⟨o', e⟩ := F.lL; rw [h] at e; cases e
  · cases q : g'.get? p.1 with
    | none => rfl
    | some o =>
      rcases S.frs _ o q with h | h
      · rw [(F.mu p hp).2.1] at h; cases h
      · rw [(F.mu p hp).1] at h; cases h
theorem Fm.ext {h' : Heap} {tk : Nat} (F : Fm w W g0 s0 L ms g s m) (hx : Sub s.heap h') :
    ∃ g', Sub g g' ∧ Fm w W g0 s0 L ms g' { s with heap := h', toks := tk } m ∧ ∀ a o, h'.get? a = some o → s.heap.get? a = none → g'.get? a = some o := by
  obtain ⟨g', S, e⟩ := Step.of_ext (s' := { s with heap := h', toks := tk }) F.step.keep rfl rfl rfl hx
  exact ⟨g', S.sub, F.called S, e⟩
theorem Fm.fresh (_F : Fm w W g0 s0 L ms g s m) : s.heap.get? s.heap.objs.size = none := by
  cases q : s.heap.get? s.heap.objs.size with
  | none => rfl
  | some o => exact absurd (Heap.lt_size q) (Nat.lt_irrefl _)
theorem Fm.push {o : Obj} {tk : Nat} (F : Fm w W g0 s0 L ms g s m) (ho : o.isFreed = false) :
    ∃ g', Sub g g' ∧ Fm w W g0 s0 L ms g' { s with heap := s.heap.push o, toks := tk } m ∧ g'.get? s.heap.objs.size = some o := by
  obtain ⟨g', S, F', e⟩ := F.ext (h' := s.heap.push o) (tk := tk) (fun b o' e => Heap.get?_push_of_some _ e)
  exact ⟨g', S, F', e _ _ (Heap.get?_push_size _ ho) F.fresh⟩
theorem Fm.pushM {o : Obj} {tk : Nat} (F : Fm w W g0 s0 L ms g s m) (ho : o.isFreed = false) :
    Fm w W g0 s0 L ((s.heap.objs.size, o) :: ms) g { s with heap := s.heap.push o, toks := tk } m := by
  have hx : Sub s.heap (s.heap.push o) := fun b o' e => Heap.get?_push_of_some _ e
  have fr := F.fresh
  refine ⟨⟨F.step.gens, F.step.drawn, F.step.os, fun b o hb e => hx _ _ (F.step.old b o hb e), fun b o e => let ⟨o', e'⟩ := F.step.live b o e; ⟨o', hx _ _ e'⟩, F.step.sub, fun b o e => hx _ _ (F.step.keep b o e), F.step.frs⟩, F.gd, F.ns.keeps hx, F.bs, F.gL, fun p hp => ?_, ?_⟩
  · rcases List.mem_cons.mp hp with rfl | hp
    · refine ⟨Heap.get?_push_size _ ho, ?_, ?_, .inl ?_⟩
      · cases q : g.get? s.heap.objs.size with
        | none => rfl
        | some o' => rw [F.step.keep _ _ q] at fr; cases fr
      · obtain ⟨o', e⟩ := F.lL
        intro q
        have q : s.heap.objs.size = L := q
        rw [q, e] at fr; cases fr
      · cases q : s0.heap.get? s.heap.objs.size with
        | none => rfl
        | some o' => obtain ⟨o2, e2⟩ := F.step.live _ _ q; rw [fr] at e2; cases e2
    · exact ⟨hx _ _ (F.mu p hp).1, (F.mu p hp).2⟩
  · rw [List.map_cons, List.nodup_cons]
    refine ⟨fun q => ?_, F.nd⟩
    obtain ⟨p, hp, e⟩ := List.mem_map.mp q
    have := (F.mu p hp).1
    rw [e] at this
    have this : s.heap.get? s.heap.objs.size = some p.2 := this
    rw [fr] at this; cases this
theorem Fm.turn {a : Addr} {o o' : Obj} {h' : Heap} {tk : Nat} (F : Fm w W g0 s0 L ((a, o) :: ms) g s m) (hs : Heap.SameBut a s.heap h') (ho : h'.get? a = some o') :
    Fm w W g0 s0 L ((a, o') :: ms) g { s with heap := h', toks := tk } m := by
  have M := F.mu (a, o) (.head _)
  have old : ∀ b o, b ≠ a → s.heap.get? b = some o → h'.get? b = some o := fun b o hb e => (hs.2 b hb).trans e
  have aL : L ≠ a := Ne.symm M.2.2.1
  refine ⟨⟨F.step.gens, F.step.drawn, F.step.os, fun b o2 hb e => ?_, fun b o2 e => ?_, F.step.sub, fun b o2 e => old b o2 (fun q => by rw [q] at e; rw [M.2.1] at e; cases e) (F.step.keep b o2 e), F.step.frs⟩, F.gd, ?_, F.bs, F.gL, fun p hp => ?_, F.nd⟩
  · refine old b o2 (fun q => ?_) (F.step.old b o2 hb e)
    rcases M.2.2.2 with z | z
    · rw [q] at e; rw [z] at e; cases e
    · exact hb (q ▸ z)
  · by_cases hb : b = a
    · exact ⟨o', hb ▸ ho⟩
    · obtain ⟨o3, e3⟩ := F.step.live b o2 e
      exact ⟨o3, old b o3 hb e3⟩
  · obtain ⟨oL, x1, x2, hL, r⟩ := F.ns
    exact ⟨oL, x1, x2, old L oL aL hL, r⟩
  · rcases List.mem_cons.mp hp with rfl | hp
    · exact ⟨ho, M.2⟩
    · have z := F.mu p (.tail _ hp)
      refine ⟨old _ _ (fun q => ?_) z.1, z.2⟩
      have nd := F.nd
      rw [List.map_cons, List.nodup_cons] at nd
      exact nd.1 (List.mem_map.mpr ⟨p, hp, q⟩)
theorem Fm.rest {a : Addr} {o : Obj} (F : Fm w W g0 s0 L ((a, o) :: ms) g s m) (hn : s0.heap.get? a = none) :
    ∃ g', Sub g g' ∧ Fm w W g0 s0 L ms g' s m ∧ g'.get? a = some o := by
  have M := F.mu (a, o) (.head _)
  have nd := F.nd
  rw [List.map_cons, List.nodup_cons] at nd
  refine ⟨cutH (fun b => (∃ o, g.get? b = some o) ∨ b = a) s.heap, fun b o2 e => cutH_get (F.step.keep _ _ e) (.inl ⟨o2, e⟩), ?_, cutH_get M.1 (.inr rfl)⟩
  have sub : Sub g (cutH (fun b => (∃ o, g.get? b = some o) ∨ b = a) s.heap) := fun b o2 e => cutH_get (F.step.keep _ _ e) (.inl ⟨o2, e⟩)
  have none_of : ∀ b, b ≠ a → g.get? b = none → (cutH (fun b => (∃ o, g.get? b = some o) ∨ b = a) s.heap).get? b = none := fun b hb e => by
    cases q : (cutH (fun b => (∃ o, g.get? b = some o) ∨ b = a) s.heap).get? b with
    | none => rfl
    | some o2 =>
      rcases (cutH_of q).2 with ⟨o3, e3⟩ | e3
      · rw [e] at e3; cases e3
      · exact absurd e3 hb
  refine ⟨⟨F.step.gens, F.step.drawn, F.step.os, F.step.old, F.step.live, F.step.sub.trans sub, fun b o2 e => (cutH_of e).1, fun b o2 e => ?_⟩, F.gd.keeps sub, F.ns, F.bs, none_of L (Ne.symm M.2.2.1) F.gL, fun p hp => ?_, nd.2⟩
  · obtain ⟨e1, e2⟩ := cutH_of e
    rcases e2 with ⟨o3, e3⟩ | rfl
    · have := F.step.keep _ _ e3
      rw [e1] at this; cases this
      exact F.step.frs b _ e3
    · exact .inr hn
  · have z := F.mu p (.tail _ hp)
    exact ⟨z.1, none_of _ (fun q => nd.1 (List.mem_map.mpr ⟨p, hp, q⟩)) z.2.1, z.2.2⟩
theorem Fm.perm {ms' : List (Addr × Obj)} (F : Fm w W g0 s0 L ms g s m) (p : ms'.Perm ms) : Fm w W g0 s0 L ms' g s m :=
  ⟨F.step, F.gd, F.ns, F.bs, F.gL, fun q hq => F.mu q (p.mem_iff.mp hq), (p.map (·.1)).nodup_iff.mpr F.nd⟩
theorem Fm.drop {ms' : List (Addr × Obj)} (F : Fm w W g0 s0 L (ms' ++ ms) g s m) : Fm w W g0 s0 L ms' g s m :=
  ⟨F.step, F.gd, F.ns, F.bs, F.gL, fun q hq => F.mu q (List.mem_append_left _ hq), by have := F.nd; rw [List.map_append] at this; exact (List.nodup_append.mp this).1⟩
theorem Fm.turnable (F : Fm w W g0 s0 L ms g s m) {p : Addr × Obj} (hp : p ∈ ms) : s.heap.get? p.1 = some p.2 := (F.mu p hp).1
end
theorem wp_weak {α : Type} {M : Model} {A A' : Around} {t : Sem α} {Q : α → Shared → Prop} {E : Value → Shared → Prop} {s : Shared} (h : wpAny M A' t Q E s) (hh : A'.handled = A.handled) (hd : A.depth ≤ A'.depth) (hu : A.units ≤ A'.units) (hf : A'.frames = none) (hg : A'.guards = none) :
    wpAny M A t Q E s := fun Γ p hΓ => h Γ p ⟨hΓ.1.trans hh.symm, Nat.le_trans hΓ.2.1 hd, (fun l e => by rw [hf] at e; cases e), (fun g e => by rw [hg] at e; cases e), Nat.le_trans hΓ.2.2.2.2 hu⟩
structure Rm (A : Around) (d u : Nat) : Prop where
  hd : A.handled = none
  dp : A.depth + d ≤ 400
  un : A.units + u ≤ 500
def A0 : Around := { handled := none, depth := 400, frames := none, guards := none, units := 500 }
theorem Rm.weak {α : Type} {M : Model} {A : Around} {d u : Nat} {t : Sem α} {Q : α → Shared → Prop} {E : Value → Shared → Prop} {s : Shared} (r : Rm A d u) (h : wpAny M A0 t Q E s) : wpAny M A t Q E s :=
  wp_weak h r.hd.symm (by have := r.dp; show A.depth ≤ 400; omega) (by have := r.un; show A.units ≤ 500; omega) rfl rfl
theorem Rm.deeper {A : Around} {d u : Nat} {env : Env} (r : Rm A (d + 1) (u + 3)) : Rm (A.deeper env) d u := ⟨r.hd, by have := r.dp; show A.depth + 1 + d ≤ 400; omega, by have := r.un; show A.units + 3 + u ≤ 500; omega⟩
theorem Rm.less {A : Around} {d u d' u' : Nat} (r : Rm A d u) (h1 : d' ≤ d := by omega) (h2 : u' ≤ u := by omega) : Rm A d' u' := ⟨r.hd, by have := r.dp; omega, by have := r.un; omega⟩
theorem Rm.room {A : Around} {d u : Nat} (r : Rm A d u) : A.depth < recursionLimit := by have := r.dp; have e : recursionLimit = 1000 := rfl; omega
theorem Rm.units {A : Around} {d u : Nat} (r : Rm A d u) : A.units + 64 < cLine := by have := r.un; have e := cLine_is; omega

theorem look_no {α : Type} {c : Prop} [Decidable c] {a b r : α} (h : ¬c) (e : b = r) : (if c then a else b) = r := by rw [if_neg h]; exact e
theorem look_yes {α : Type} {c : Prop} [Decidable c] {a b : α} (h : c) : (if c then a else b) = a := if_pos h
theorem q_cut {α : Type} {M : Model} {A : Around} {t : Sem α} {Q : α → Shared → Prop} {E : Value → Shared → Prop} {s : Shared} (Q' : α → Shared → Prop) (h1 : wpAny M A t Q' NE s) (h2 : ∀ v s', Q' v s' → Q v s') : wpAny M A t Q E s := wpAny_mono h1 h2 fun _ _ q => q.elim
theorem q_if_t {c : Bool} {a b : Prop} (hc : c = true) (h : a) : if c = true then a else b := by rw [if_pos hc]; exact h
theorem q_if_f {c : Bool} {a b : Prop} (hc : c = false) (h : b) : if c = true then a else b := by rw [if_neg (by rw [hc]; decide)]; exact h
theorem fn_code {w : World} {A : Around} {name qual : Str} {params : Arguments} {body : List Stmt} {scope : Scope} {dV kV doc pm cdv ct oc : Value} {an od : Option Addr} {osl : Array (Option Value)} {f : Addr} {args : List Value} {kw : List (Str × Value)} {binds : List (Str × Value)}
    {R : Result → Shared → Prop} {s : Shared} {g0 : Heap} (W : List Addr) (ms : List (Addr × Obj)) {d u : Nat}
    (gd : Gd w g0) (hg : Sub g0 s.heap) (hr : Rm A d u)
    (ho : (Mine.hd.heap_39 w.params).lookup f = some ⟨oc, od, .func (fnOf name qual params body scope dV kV doc pm an cdv ct), osl⟩) (hcd : codeIn (Mine.hd.heap_39 w.params) cdv qual = true)
    (hbind : BindsTo s (fnOf name qual params body scope dV kV doc pm an cdv ct) ⟨args, kw⟩ binds) (hloc : ∀ y ∈ binds, scope.names.lookup y.1 = some .local)
    (hms : ∀ p ∈ ms, s.heap.get? p.1 = some p.2 ∧ g0.get? p.1 = none ∧ p.1 ∈ W) (hnd : (ms.map (·.1)).Nodup)
    (hco : scope.isCoroutine = false) (hgen : scope.isGenerator = false) (hk : scope.kind = .function) (hcell : ∀ x ∈ scope.names, x.2 ≠ .cell)
    (h : ∀ L s1, Fm w W g0 s L ms g0 s1 (fun y => binds.reverse.lookup y) →
      wpAny (model PW w) (A.deeper (envOf qual scope L f cdv)) (execs body (envOf qual scope L f cdv)) (fun fl s' => R (.ok (.ret (match fl with | .ret v => v | _ => .none))) s') NE s1) :
    codeAny (model PW w) A (.call (.ref f) ⟨args, kw⟩) R s := by
  have gd' := gd.keeps hg
  obtain ⟨p, lo, mg, mb, T⟩ := gd'.2
  refine codeAny_call_def (fd := fnOf name qual params body scope dV kV doc pm an cdv ct) (body := body) (binds := binds) hr.room (gd'.1 _ _ ho) rfl T.nolimit (codeRec_of gd'.1 hcd) rfl hbind hcell hloc (fun h₁ hns hk₁ => ?_) hco hgen hk
  have fr : s.heap.get? s.heap.objs.size = none := by
    cases q : s.heap.get? s.heap.objs.size with
    | none => rfl
    | some o => exact absurd (Heap.lt_size q) (Nat.lt_irrefl _)
  refine wpAny_mono (h s.heap.objs.size _ ⟨⟨rfl, rfl, rfl, fun b o _ e => hk₁ b o e, fun b o e => ⟨o, hk₁ b o e⟩, Sub.refl _, fun b o e => hk₁ b o (hg b o e), fun b o e => .inl e⟩, gd, hns, ⟨fr, Nat.le_refl _, gd, hg⟩, ?_, fun p hp => ⟨hk₁ _ _ (hms p hp).1, (hms p hp).2.1, fun q => ?_, .inr (hms p hp).2.2⟩, hnd⟩) (fun fl s' q => q) fun _ _ q => q.elim
  · cases q : g0.get? s.heap.objs.size with
    | none => rfl
    | some o => rw [hg _ _ q] at fr; cases fr
  · have := (hms p hp).1
    rw [q, fr] at this; cases this

theorem fn_call {w : World} {A : Around} {name qual : Str} {params : Arguments} {body : List Stmt} {scope : Scope} {dV kV doc pm cdv ct oc : Value} {an od : Option Addr} {osl : Array (Option Value)} {f : Addr} {args : List Value} {kw : List (Str × Value)} {binds : List (Str × Value)}
    {Q : Value → Shared → Prop} {E : Value → Shared → Prop} {s : Shared} {g0 : Heap} (W : List Addr) (ms : List (Addr × Obj)) {d u : Nat}
    (gd : Gd w g0) (hg : Sub g0 s.heap) (hr : Rm A d u)
    (ho : (Mine.hd.heap_39 w.params).lookup f = some ⟨oc, od, .func (fnOf name qual params body scope dV kV doc pm an cdv ct), osl⟩) (hcd : codeIn (Mine.hd.heap_39 w.params) cdv qual = true)
    (hbind : BindsTo s (fnOf name qual params body scope dV kV doc pm an cdv ct) ⟨args, kw⟩ binds) (hloc : ∀ y ∈ binds, scope.names.lookup y.1 = some .local)
    (hms : ∀ p ∈ ms, s.heap.get? p.1 = some p.2 ∧ g0.get? p.1 = none ∧ p.1 ∈ W) (hnd : (ms.map (·.1)).Nodup)
    (hco : scope.isCoroutine = false) (hgen : scope.isGenerator = false) (hk : scope.kind = .function) (hcell : ∀ x ∈ scope.names, x.2 ≠ .cell)
    (h : ∀ L s1, Fm w W g0 s L ms g0 s1 (fun y => binds.reverse.lookup y) →
      wpAny (model PW w) (A.deeper (envOf qual scope L f cdv)) (execs body (envOf qual scope L f cdv)) (fun fl s' => Q (match fl with | .ret v => v | _ => .none) s') NE s1) :
    wpAny (model PW w) A (call (.ref f) args kw) Q E s := by
  exact wpAny_call (fn_code W ms gd hg hr ho hcd hbind hloc hms hnd hco hgen hk hcell h)

section
variable {w : World} {W : List Addr} {g0 g : Heap} {s0 s : Shared} {L : Addr} {ms : List (Addr × Obj)} {m : Str → Option Value} {A : Around} {E : Value → Shared → Prop} {name : Str} {scope : Scope} {f : Addr} {cd : Value} {env : Env}
theorem q_ld {x : Str} {pos : Pos} {v : Value} {Q : Value → Shared → Prop} (F : Fm w W g0 s0 L ms g s m) (hv : m x = some v) (h : Q v s)
    (hk : scope.kind = .function := by rfl) (hl : (envOf name scope L f cd).kindOf x = some .local := by rfl) (hd : (x == ("__debug__" : Str)) = false := by decide) :
    wpAny (model PW w) A (eval (.Name x pos) (envOf name scope L f cd)) Q E s := wpAny_Name (wpAny_loadName_local hk hl F.ns hv h) hd
theorem q_ldn {x : Str} {v : Value} {Q : Value → Shared → Prop} (F : Fm w W g0 s0 L ms g s m) (hv : m x = some v) (h : Q v s)
    (hk : scope.kind = .function := by rfl) (hl : (envOf name scope L f cd).kindOf x = some .local := by rfl) :
    wpAny (model PW w) A (loadName (envOf name scope L f cd) x) Q E s := wpAny_loadName_local hk hl F.ns hv h
theorem q_st {x : Str} {v : Value} {Q : Unit → Shared → Prop} (F : Fm w W g0 s0 L ms g s m) (h : ∀ s', Fm w W g0 s0 L ms g s' (fun y => if y = x then some v else m y) → Q () s')
    (hk : scope.kind = .function := by rfl) (hl : (envOf name scope L f cd).kindOf x = some .local := by rfl) :
    wpAny (model PW w) A (storeName (envOf name scope L f cd) x v) Q E s :=
  wpAny_storeName_local hl F.ns (fun h' hn hs => h _ (F.store hn hs)) (by show (scope.kind == .class || (scope.kind == .module && L != mainGlobals)) = false; rw [hk]; rfl)
theorem q_gl {x : Str} {pos : Pos} {v : Value} {Q : Value → Shared → Prop} (F : Fm w W g0 s0 L ms g s m) (e : nsIn (Mine.hd.heap_39 w.params) mainGlobals x = some (some v)) (h : Q v s)
    (hk : scope.kind = .function := by rfl) (hx : (envOf name scope L f cd).kindOf x = some .globalImplicit := by rfl) (hd : (x == ("__debug__" : Str)) = false := by decide) :
    wpAny (model PW w) A (eval (.Name x pos) (envOf name scope L f cd)) Q E s := by
  obtain ⟨X, p, lo, mg, mb, T⟩ := F.gd'
  exact Calls.Name_function_global hk hx (Calls.loadGlobal_global (env := envOf name scope L f cd) T.g (mg_of X T.g e) h) hd
theorem q_bi {x : Str} {pos : Pos} {v : Value} {Q : Value → Shared → Prop} (F : Fm w W g0 s0 L ms g s m) (e : nsIn (Mine.hd.heap_39 w.params) mainGlobals x = some none) (hv : bootBuiltins x = some v) (hn : x ≠ "__name__") (h : Q v s)
    (hk : scope.kind = .function := by rfl) (hx : (envOf name scope L f cd).kindOf x = some .globalImplicit := by rfl) (hd : (x == ("__debug__" : Str)) = false := by decide) :
    wpAny (model PW w) A (eval (.Name x pos) (envOf name scope L f cd)) Q E s := by
  obtain ⟨X, p, lo, mg, mb, T⟩ := F.gd'
  exact Calls.Name_function_global hk hx (Calls.loadGlobal_builtin (env := envOf name scope L f cd) T.g (mg_none_of X T.g e) T.b ((T.builtins x hn).trans hv) h) hd
theorem q_tok {tk : Nat} (F : Fm w W g0 s0 L ms g s m) (P : Shared → Prop) (h : ∀ s', Fm w W g0 s0 L ms g s' m → P s') : P { s with toks := tk } := h _ F.tok
theorem q_int {i : Int} {k : Nat} {pos : Pos} {Q : Value → Shared → Prop} (F : Fm w W g0 s0 L ms g s m) (h : ∀ s' t, Fm w W g0 s0 L ms g s' m → Q (.int i t) s') : wpAny (model PW w) A (eval (.Constant (.int i) k pos) env) Q E s := wpAny_Constant_int (h _ _ F.tok)
theorem q_str {x : Str} {k : Nat} {pos : Pos} {Q : Value → Shared → Prop} (F : Fm w W g0 s0 L ms g s m) (h : ∀ s' t, Fm w W g0 s0 L ms g s' m → Q (.str x t) s') : wpAny (model PW w) A (eval (.Constant (.str x) k pos) env) Q E s := wpAny_Constant_str (h _ _ F.tok)
theorem q_add {a b : Int} {t u : Tok} {Q : Value → Shared → Prop} (F : Fm w W g0 s0 L ms g s m) (h : ∀ s' t, Fm w W g0 s0 L ms g s' m → Q (.int (a + b) t) s') : wpAny (model PW w) A (binaryOp .Add (.int a t) (.int b u)) Q E s := add_int (h _ _ F.tok)
theorem q_sub {a b : Int} {t u : Tok} {Q : Value → Shared → Prop} (F : Fm w W g0 s0 L ms g s m) (h : ∀ s' t, Fm w W g0 s0 L ms g s' m → Q (.int (a - b) t) s') : wpAny (model PW w) A (binaryOp .Sub (.int a t) (.int b u)) Q E s := sub_int (h _ _ F.tok)
theorem q_iadd {a b : Int} {t u : Tok} {Q : Value → Shared → Prop} (F : Fm w W g0 s0 L ms g s m) (h : ∀ s' t, Fm w W g0 s0 L ms g s' m → Q (.int (a + b) t) s') : wpAny (model PW w) A (inplaceOp .Add (.int a t) (.int b u)) Q E s := iadd_int (h _ _ F.tok)
theorem q_mod {a b : Int} {t u : Tok} {Q : Value → Shared → Prop} (F : Fm w W g0 s0 L ms g s m) (hb : 0 < b) (h : ∀ s' t, Fm w W g0 s0 L ms g s' m → Q (.int (a % b) t) s') : wpAny (model PW w) A (binaryOp .Mod (.int a t) (.int b u)) Q E s :=
  mod_int (by omega) (by rw [Int.fmod_eq_emod_of_nonneg a (by omega)]; exact h _ _ F.tok)
theorem q_lt {a b : Int} {t u : Tok} {Q : Value → Shared → Prop} (h : Q (.bool (decide (a < b))) s) : wpAny (model PW w) A (compareOp .Lt (.int a t) (.int b u)) Q E s := lt_int h
theorem q_eq {a b : Int} {t u : Tok} {Q : Value → Shared → Prop} (h : Q (.bool (a == b)) s) : wpAny (model PW w) A (compareOp .Eq (.int a t) (.int b u)) Q E s := eq_int h
theorem q_len {l : Addr} {its : Array Value} {Q : Value → Shared → Prop} (F : Fm w W g0 s0 L ms g s m) (hl : s.heap.IsList l its) (hf : its.size ≤ 100) (h : ∀ s' t, Fm w W g0 s0 L ms g s' m → Q (.int its.size t) s') : wpAny (model PW w) A (call (.builtin "len") [.ref l]) Q E s :=
  Calls.call_len_list hl (by omega) (h _ _ F.tok)
theorem isl {g h : Heap} {l : Addr} {its : Array Value} (x : g.IsList l its) (k : Sub g h) : h.IsList l its := x.at (k l)
theorem q_range {n : Int} {t : Tok} {Q : Value → Shared → Prop} (F : Fm w W g0 s0 L ms g s m)
    (h : ∀ r g' s' t u v, Sub g g' → Fm w W g0 s0 L ms g' s' m → IsRange g' r 0 n 1 t u v → Q (.ref r) s') : wpAny (model PW w) A (call (.type "range") [.int n t]) Q E s := by
  refine call_range_1 ?_
  obtain ⟨g', S, F', e⟩ := F.push (o := { cls := .type "range", data := .fields #[.int 0 s.toks, .int n t, .int 1 (s.toks + 1)] }) (tk := s.toks + 1 + 1) rfl
  exact h _ g' _ _ _ _ S F' e
theorem q_newListM {vs : List Value} {Q : Value → Shared → Prop} (F : Fm w W g0 s0 L ms g s m) (hz : vs.length ≤ 100)
    (h : ∀ l s', Fm w W g0 s0 L ((l, listOf vs.toArray 0) :: ms) g s' m → s0.heap.get? l = none → Q (.ref l) s') : wpAny (model PW w) A (newList vs) Q E s := by
  refine wpAny_newObj_type ?_ (by show vs.toArray.size ≤ sizeLine; rw [List.size_toArray, sizeLine_eq]; omega)
  have F' := F.pushM (o := listOf vs.toArray 0) (tk := s.toks) rfl
  refine h _ _ F' ?_
  cases q : s0.heap.get? s.heap.objs.size with
  | none => rfl
  | some o => obtain ⟨o', e⟩ := F.step.live _ _ q; rw [F.fresh] at e; cases e
theorem q_newTup {vs : List Value} {Q : Value → Shared → Prop} (F : Fm w W g0 s0 L ms g s m) (hz : vs.length ≤ 100)
    (h : ∀ l g' s', Sub g g' → Fm w W g0 s0 L ms g' s' m → g'.get? l = some { cls := .type "tuple", data := .seq vs.toArray } → Q (.ref l) s') : wpAny (model PW w) A (newTuple vs) Q E s := by
  refine wpAny_newObj_type ?_ (by show vs.toArray.size ≤ sizeLine; rw [List.size_toArray, sizeLine_eq]; omega)
  obtain ⟨g', S, F', e⟩ := F.push (o := { cls := .type "tuple", data := .seq vs.toArray }) (tk := s.toks) rfl
  exact h _ g' _ S F' e
theorem q_append {l : Addr} {its : Array Value} {n : Nat} {x : Value} {Q : Value → Shared → Prop} (F : Fm w W g0 s0 L ((l, listOf its n) :: ms) g s m) (hz : its.size ≤ 100)
    (h : ∀ s', Fm w W g0 s0 L ((l, listOf (its.push x) (n + 1)) :: ms) g s' m → Q .none s') : wpAny (model PW w) A (call (.builtin "list.append") [.ref l, x]) Q E s :=
  append_at (hsz := by rw [sizeLine_eq]; omega) (F.turnable (.head _)) fun h' hs ho => h _ (F.turn (tk := s.toks) hs ho)
theorem q_item {value slice : Expr} {l : Addr} {its : Array Value} {k : Int} {u : Tok} {x : Value} {Q : Value → Shared → Prop} (hl : s.heap.IsList l its) (h0 : 0 ≤ k) (hf : k < 100) (hx : its[k.toNat]? = some x) (h : Q x s)
    (hs : subscripted slice false (.ref l) (.int k u) = operate [.ref l, .int k u] (getItem (.ref l) (.int k u)) := by with_unfolding_all rfl) (hg : ∀ r, letTemporaryGo value (.ref l) r = pure () := by intro _; with_unfolding_all rfl) :
    wpAny (model PW w) A (subscriptTail value slice (.ref l) (.int k u)) Q E s := item_list hl h0 (by omega) hx h hs hg
theorem q_cw {e : Expr} {rest : List Expr} {fv : Value} {first : List Value} {pos : Pos} {Q : Value → Shared → Prop} (hk : keepIn (Mine.hd.heap_39 w.params) fv = true)
    (h : wpAny (model PW w) A (spliced (backTo pos (starEach (e :: rest) env))) (fun vs s₁ => (Mine.hd.heap_39 w.params).In s₁.heap ∧ wpAny (model PW w) A (call fv (first ++ vs)) Q E s₁) E s)
    (he : starEach (e :: rest) env = (false, eval e env) :: starEach rest env := by rfl) (hplain : (backTo pos (starEach rest env)).any (·.1) = false := by rfl) :
    wpAny (model PW w) A (callWith pos fv first (backTo pos (starEach (e :: rest) env)) []) Q E s := by
  rw [he] at h ⊢
  exact callWith_of (by show ((false || (backTo pos (starEach rest env)).any (·.1)) || false) = false; rw [hplain]; rfl) (keeps_K hk) (Calls.evalArgs_plain h)
theorem q_cw0 {fv : Value} {first : List Value} {pos : Pos} {Q : Value → Shared → Prop} (F : Fm w W g0 s0 L ms g s m) (hk : keepIn (Mine.hd.heap_39 w.params) fv = true)
    (h : wpAny (model PW w) A (call fv (first ++ [])) Q E s) : wpAny (model PW w) A (callWith pos fv first (backTo pos (starEach [] env)) []) Q E s := callWith_K0 F.X hk h
end
section
variable {w : World} {W : List Addr} {g0 g : Heap} {s0 s : Shared} {L : Addr} {ms : List (Addr × Obj)} {m : Str → Option Value}
theorem Fm.turnE {a : Addr} {o o' : Obj} {h' : Heap} {tk : Nat} (F : Fm w W g0 s0 L ((a, o) :: ms) g s m) (hx : Heap.ExtBut a s.heap h') (ho : h'.get? a = some o') :
    ∃ g', Sub g g' ∧ Fm w W g0 s0 L ((a, o') :: ms) g' { s with heap := h', toks := tk } m ∧ ∀ b ob, h'.get? b = some ob → s.heap.get? b = none → g'.get? b = some ob := by
  have M := F.mu (a, o) (.head _)
  have nd := F.nd
  rw [List.map_cons, List.nodup_cons] at nd
  have sub : Sub g (cutH (fun b => (∃ o, g.get? b = some o) ∨ s.heap.get? b = none) h') := fun b o2 e => cutH_get (hx b o2 (fun q => by rw [q] at e; rw [M.2.1] at e; cases e) (F.step.keep _ _ e)) (.inl ⟨o2, e⟩)
  have live : ∀ b o, s.heap.get? b = some o → ∃ o', h'.get? b = some o' := fun b o2 e => by
    by_cases hb : b = a
    · exact ⟨o', hb ▸ ho⟩
    · exact ⟨o2, hx b o2 hb e⟩
  have none_of : ∀ b o2, s.heap.get? b = some o2 → g.get? b = none → (cutH (fun b => (∃ o, g.get? b = some o) ∨ s.heap.get? b = none) h').get? b = none := fun b o2 eb e => by
    cases q : (cutH (fun b => (∃ o, g.get? b = some o) ∨ s.heap.get? b = none) h').get? b with
    | none => rfl
    | some o3 =>
      rcases (cutH_of q).2 with ⟨o4, e4⟩ | e4
      · rw [e] at e4; cases e4
      · rw [eb] at e4; cases e4
  refine ⟨_, sub, ⟨⟨F.step.gens, F.step.drawn, F.step.os, fun b o2 hb e => ?_, fun b o2 e => ?_, F.step.sub.trans sub, fun b o2 e => (cutH_of e).1, fun b o2 e => ?_⟩, F.gd.keeps sub, ?_, F.bs, ?_, fun p hp => ?_, F.nd⟩, fun b ob e n => cutH_get e (.inr n)⟩
  · refine hx b o2 (fun q => ?_) (F.step.old b o2 hb e)
    rcases M.2.2.2 with z | z
    · rw [q] at e; rw [z] at e; cases e
    · exact hb (q ▸ z)
  · obtain ⟨o3, e3⟩ := F.step.live b o2 e
    exact live b o3 e3
  · obtain ⟨e1, e2⟩ := cutH_of e
    rcases e2 with ⟨o3, e3⟩ | e2
    · have := sub _ _ e3
      rw [e] at this; cases this
      exact F.step.frs b _ e3
    · right
      cases q : s0.heap.get? b with
      | none => rfl
      | some o4 => obtain ⟨o5, e5⟩ := F.step.live b o4 q; rw [e2] at e5; cases e5
  · obtain ⟨oL, x1, x2, hL, r⟩ := F.ns
    exact ⟨oL, x1, x2, hx L oL (Ne.symm M.2.2.1) hL, r⟩
  · obtain ⟨oL, eL⟩ := F.lL
    exact none_of L oL eL F.gL
  · rcases List.mem_cons.mp hp with rfl | hp
    · exact ⟨ho, none_of a o M.1 M.2.1, M.2.2⟩
    · have z := F.mu p (.tail _ hp)
      exact ⟨hx _ _ (fun q => nd.1 (List.mem_map.mpr ⟨p, hp, q⟩)) z.1, none_of _ _ z.1 z.2.1, z.2.2⟩
theorem Fm.lost {a : Addr} {o : Obj} {h' : Heap} {tk : Nat} (F : Fm w W g0 s0 L ((a, o) :: ms) g s m) (hx : Heap.ExtBut a s.heap h') (hn : s0.heap.get? a = none) :
    Fm w W g0 s0 L ms g { s with heap := h', toks := tk } m := by
  have M := F.mu (a, o) (.head _)
  have nd := F.nd
  rw [List.map_cons, List.nodup_cons] at nd
  have no0 : ∀ b o2, s0.heap.get? b = some o2 → b ≠ a := fun b o2 e q => by rw [q, hn] at e; cases e
  refine ⟨⟨F.step.gens, F.step.drawn, F.step.os, fun b o2 hb e => hx b o2 (no0 b o2 e) (F.step.old b o2 hb e), fun b o2 e => ?_, F.step.sub, fun b o2 e => hx b o2 (fun q => by rw [q] at e; rw [M.2.1] at e; cases e) (F.step.keep b o2 e), F.step.frs⟩, F.gd, ?_, F.bs, F.gL, fun p hp => ?_, nd.2⟩
  · obtain ⟨o3, e3⟩ := F.step.live b o2 e
    exact ⟨o3, hx b o3 (no0 b o2 e) e3⟩
  · obtain ⟨oL, x1, x2, hL, r⟩ := F.ns
    exact ⟨oL, x1, x2, hx L oL (Ne.symm M.2.2.1) hL, r⟩
  · have z := F.mu p (.tail _ hp)
    exact ⟨hx _ _ (fun q => nd.1 (List.mem_map.mpr ⟨p, hp, q⟩)) z.1, z.2⟩
theorem Fm.absent (F : Fm w W g0 s0 L ms g s m) : s0.heap.get? s.heap.objs.size = none := by
  cases q : s0.heap.get? s.heap.objs.size with
  | none => rfl
  | some o => obtain ⟨o', e⟩ := F.step.live _ _ q; rw [F.fresh] at e; cases e
theorem Fm.fr (F : Fm w W g0 s0 L ms g s m) : ∃ h0, Fr h0 L s.heap m ∧ (Mine.hd.heap_39 w.params).In h0 := by
  refine ⟨cutH (fun b => ∃ o, g0.get? b = some o) s0.heap, ⟨F.ns, fun b o e => by
    obtain ⟨e1, o', e2⟩ := cutH_of e
    have e3 := F.bs.sub0 _ _ e2
    rw [e1] at e3; cases e3
    exact F.step.keep _ _ (F.step.sub _ _ e2), ?_⟩, fun a o e => cutH_get (F.bs.sub0 _ _ (F.bs.gd0.1 a o e)) ⟨o, F.bs.gd0.1 a o e⟩⟩
  show (s0.heap.objs.mapIdx _).size ≤ L
  rw [Array.size_mapIdx]; exact F.bs.above
theorem perm_tail {α : Type} (l : List α) (x : α) (t : List α) : (x :: (l ++ t)).Perm (l ++ x :: t) := (List.perm_middle).symm
end

section
variable {w : World} {W : List Addr} {g0 g : Heap} {s0 s : Shared} {L : Addr} {ms : List (Addr × Obj)} {m : Str → Option Value} {A : Around} {E : Value → Shared → Prop} {name : Str} {scope : Scope} {f : Addr} {cd : Value}

theorem q_cutF {α : Type} {t : Sem α} {Q : α → Shared → Prop} (_F : Fm w W g0 s0 L ms g s m) (P : α → Prop) (h1 : wpAny (model PW w) A t (fun v s1 => P v ∧ Fm w W g0 s0 L ms g s1 m) NE s) (h2 : ∀ v s1, P v → Fm w W g0 s0 L ms g s1 m → Q v s1) : wpAny (model PW w) A t Q E s :=
  wpAny_mono h1 (fun v s1 q => h2 v s1 q.1 q.2) fun _ _ q => q.elim
structure Iterates (w : World) (A : Around) (gs : Heap) (I : Addr) (n : Nat) (It : Nat → Obj → Prop) (P : Nat → Value → Heap → Heap → Prop) : Prop where
  item : ∀ (i : Nat) (s : Shared) (o : Obj), i < n → It i o → s.heap.get? I = some o → Sub gs s.heap →
    wpAny (model PW w) A (pyNext (.ref I)) (fun r s' => ∃ v o' h' tk, r = some v ∧ s' = { s with heap := h', toks := tk } ∧ Heap.ExtBut I s.heap h' ∧ h'.get? I = some o' ∧ It (i + 1) o' ∧ P i v s.heap h') NE s
  done : ∀ (s : Shared) (o : Obj), It n o → s.heap.get? I = some o → Sub gs s.heap →
    wpAny (model PW w) A (pyNext (.ref I)) (fun r s' => ∃ h' tk, r = none ∧ s' = { s with heap := h', toks := tk } ∧ Heap.ExtBut I s.heap h') NE s

theorem iter_range (hh : A.handled = none) (I : Addr) (n : Nat) (gs : Heap) : Iterates w A gs I n (fun i o => o = { cls := .type "range_iterator", dict := none, data := .fields #[rawInt i, rawInt ((n : Int) - i), rawInt 1], slots := #[] })
    (fun i v _ _ => ∃ t, v = .int i t) where
  item := fun i s o hi ho hI _ => by
    subst ho
    refine wpAny_pyNext_range_item (x := i) (left := (n : Int) - i) (step := 1) hI (by omega) fun h' h1 h2 => ?_
    have e1 : ((i : Int) + 1) = ((i + 1 : Nat) : Int) := by omega
    have e2 : ((n : Int) - i - 1) = (n : Int) - ((i + 1 : Nat) : Int) := by omega
    rw [e1, e2] at h1
    exact ⟨_, _, h', _, rfl, rfl, h2.extBut, h1, rfl, _, rfl⟩
  done := fun s o ho hI _ => by
    subst ho
    exact wpAny_pyNext_range_end (x := n) (left := (n : Int) - n) (step := 1) hh hI (by omega) fun h' h1 => ⟨h', _, rfl, rfl, h1⟩
theorem iter_list (hh : A.handled = none) (I l : Addr) (its : Array Value) (gs : Heap) (hl : gs.IsList l its) :
    Iterates w A gs I its.size (fun i o => o.cls = .type "list_iterator" ∧ o.data = .fields #[.ref l, .int i 0]) (fun i v _ _ => its[i]? = some v) where
  item := fun i s o hi ho hI hs => by
    have hi' : its[i]? = some its[i] := Array.getElem?_eq_getElem hi
    refine wpAny_pyNext_list_item ⟨o, hI, ho⟩ (isl hl hs) hi' fun h' h1 h2 => ?_
    obtain ⟨o', e1, e2⟩ := h1
    exact ⟨_, o', h', _, rfl, rfl, h2.extBut, e1, e2, hi'⟩
  done := fun s o ho hI hs => wpAny_pyNext_list_end hh ⟨o, hI, ho⟩ (isl hl hs) (by simp) fun h' h1 => ⟨h', _, rfl, rfl, h1⟩

abbrev envF (name : Str) (scope : Scope) (L f : Addr) (cd : Value) : Env := envOf name scope L f cd

theorem for_loop {I : Addr} {oI : Obj} {n : Nat} {It : Nat → Obj → Prop} {P : Nat → Value → Heap → Heap → Prop} {x : Str} {px : Pos} {body : List Stmt} {R : Result → Shared → Prop}
    (J : Nat → List (Addr × Obj) → Heap → (Str → Option Value) → Prop)
    (Z : Iterates w A g I n It P) (F : Fm w W g0 s0 L (ms ++ [(I, oI)]) g s m) (hI : It 0 oI) (hn : s0.heap.get? I = none) (h0 : J 0 ms g m)
    (hk : scope.kind = .function) (hl : (envOf name scope L f cd).kindOf x = some .local)
    (turn : ∀ i ms' g1 g2 s1 m' v oi, i < n → Sub g g1 → Sub g1 g2 → J i ms' g1 m' → (∃ h1 h2, P i v h1 h2 ∧ (∀ b ob, h2.get? b = some ob → h1.get? b = none → g2.get? b = some ob)) →
      Fm w W g0 s0 L (ms' ++ [(I, oi)]) g2 s1 (fun y => if y = x then some v else m' y) →
      wpAny (model PW w) A (execs body (envOf name scope L f cd)) (fun fl s2 => (fl = .next ∨ fl = .cont) ∧ ∃ ms2 g3 m2, Sub g2 g3 ∧ Fm w W g0 s0 L (ms2 ++ [(I, oi)]) g3 s2 m2 ∧ J (i + 1) ms2 g3 m2) NE s1)
    (done : ∀ ms' g1 s1 m', Sub g g1 → J n ms' g1 m' → Fm w W g0 s0 L ms' g1 s1 m' → R (.ok .next) s1) :
    codeAny (model PW w) A (.forLoop (.Name x px) (.ref I) body [] (envOf name scope L f cd)) R s := by
  refine codeAny_forLoop (fun k s1 => ∃ i ms' g1 m' oi, i ≤ n ∧ k = n - i ∧ Sub g g1 ∧ J i ms' g1 m' ∧ It i oi ∧ Fm w W g0 s0 L (ms' ++ [(I, oi)]) g1 s1 m') ?_ n ⟨0, ms, g, m, oI, Nat.zero_le _, rfl, Sub.refl _, h0, hI, F⟩
  rintro k s1 ⟨i, ms', g1, m', oi, hi, rfl, hs, hJ, hIt, F1⟩
  have F1' := F1.perm (ms' := (I, oi) :: ms') (by have := perm_tail ms' (I, oi) []; simpa using this)
  by_cases hlt : i < n
  · refine wpAny_mono (Z.item i s1 oi hlt hIt (F1'.turnable (.head _)) (hs.trans F1.step.keep)) (fun r s2 h2 => ?_) fun _ _ q => q.elim
    obtain ⟨v, o', h', tk, rfl, rfl, hx, ho, hIt', hP⟩ := h2
    obtain ⟨g2, hs2, F2, hnew⟩ := F1'.turnE (tk := tk) hx ho
    refine wpAny_assign_Name (q_st (F2.perm (ms' := ms' ++ [(I, o')]) (by have := (perm_tail ms' (I, o') []).symm; simpa using this)) (fun s3 F3 => ?_) hk hl)
    refine wpAny_mono (turn i ms' g1 g2 s3 m' v o' hlt hs hs2 hJ ⟨_, _, hP, hnew⟩ F3) (fun fl s4 h4 => ?_) fun _ _ q => q.elim
    obtain ⟨hfl, ms2, g3, m2, hs3, F4, hJ4⟩ := h4
    have : ∃ k', k' < n - i ∧ ∃ i ms' g1 m' oi, i ≤ n ∧ k' = n - i ∧ Sub g g1 ∧ J i ms' g1 m' ∧ It i oi ∧ Fm w W g0 s0 L (ms' ++ [(I, oi)]) g1 s4 m' :=
      ⟨n - (i + 1), by omega, i + 1, ms2, g3, m2, o', hlt, rfl, (hs.trans hs2).trans hs3, hJ4, hIt', F4⟩
    rcases hfl with rfl | rfl <;> exact this
  · obtain rfl : i = n := by omega
    refine wpAny_mono (Z.done s1 oi hIt (F1'.turnable (.head _)) (hs.trans F1.step.keep)) (fun r s2 h2 => ?_) fun _ _ q => q.elim
    obtain ⟨h', tk, rfl, rfl, hx⟩ := h2
    exact wpAny_execs_nil (done ms' g1 _ m' hs hJ (F1'.lost (tk := tk) hx hn))
theorem for_range {r : Addr} {n : Nat} {t u v : Tok} {x : Str} {px : Pos} {body : List Stmt} {R : Result → Shared → Prop}
    (J : Nat → List (Addr × Obj) → Heap → (Str → Option Value) → Prop) (hh : A.handled = none) (hz : n ≤ 100)
    (F : Fm w W g0 s0 L ms g s m) (hr : IsRange g r 0 n 1 t u v) (h0 : J 0 ms g m)
    (hk : scope.kind = .function) (hl : (envOf name scope L f cd).kindOf x = some .local)
    (turn : ∀ i ms' g1 s1 m' t I oi, i < n → Sub g g1 → J i ms' g1 m' →
      Fm w W g0 s0 L (ms' ++ [(I, oi)]) g1 s1 (fun y => if y = x then some (.int (i : Int) t) else m' y) →
      wpAny (model PW w) A (execs body (envOf name scope L f cd)) (fun fl s2 => (fl = .next ∨ fl = .cont) ∧ ∃ ms2 g3 m2, Sub g1 g3 ∧ Fm w W g0 s0 L (ms2 ++ [(I, oi)]) g3 s2 m2 ∧ J (i + 1) ms2 g3 m2) NE s1)
    (hmono : ∀ i ms' g1 g2 m', Sub g1 g2 → J i ms' g1 m' → J i ms' g2 m')
    (done : ∀ ms' g1 s1 m', Sub g g1 → J n ms' g1 m' → Fm w W g0 s0 L ms' g1 s1 m' → R (.ok .next) s1) :
    wpAny (model PW w) A (pyIter (.ref r)) (fun it s₂ => codeAny (model PW w) A (.forLoop (.Name x px) it body [] (envOf name scope L f cd)) R s₂) E s := by
  have sz : Builtin.Range.rangeSize 0 n 1 = (n : Int) := by rw [rangeSize_one]; split <;> omega
  refine wpAny_pyIter_range (F.get hr) ?_ ?_
  · unfold Builtin.Range.small Builtin.Range.rangeFitsLong
    rw [sz]
    simp only [Bool.and_eq_true, Bool.or_eq_true, decide_eq_true_eq, beq_iff_eq]
    refine ⟨⟨⟨⟨?_, ?_⟩, ?_⟩, ?_⟩, .inr ?_⟩ <;> (try rw [if_pos (by decide)]) <;> (try simp only [Bool.and_eq_true, decide_eq_true_eq]) <;> omega
  · rw [sz]
    have F' := F.pushM (o := { cls := .type "range_iterator", data := .fields #[rawInt 0, rawInt n, rawInt 1] }) (tk := s.toks) rfl
    have F'' := F'.perm (ms' := ms ++ [(s.heap.objs.size, { cls := .type "range_iterator", data := .fields #[rawInt 0, rawInt n, rawInt 1] })]) (by have := (perm_tail ms (s.heap.objs.size, ({ cls := .type "range_iterator", data := .fields #[rawInt 0, rawInt n, rawInt 1] } : Obj)) []).symm; simpa using this)
    refine for_loop J (iter_range hh _ n g) F'' (by simp [rawInt]) F.absent h0 hk hl ?_ done
    intro i ms' g1 g2 s1 m' v oi hi hs1 hs2 hJ hP F1
    obtain ⟨_, _, ⟨t, rfl⟩, _⟩ := hP
    exact turn i ms' g2 s1 m' t _ oi hi (hs1.trans hs2) (hmono _ _ _ _ _ hs2 hJ) F1
end
def Rd (g : Heap) (v : Value) (d : PyData) : Prop := ∃ as, Reads g v d as
def RdAll (g : Heap) (vs : List Value) (ds : List PyData) : Prop := ∃ as, ReadsAll g vs ds as
theorem Rd.keeps {g h : Heap} {v d} (x : Rd g v d) (k : Sub g h) : Rd h v d := let ⟨_, r⟩ := x; ⟨_, PyProof.Rows.Reads.keeps k r⟩
theorem RdAll.keeps {g h : Heap} {v d} (x : RdAll g v d) (k : Sub g h) : RdAll h v d := let ⟨_, r⟩ := x; ⟨_, PyProof.Rows.ReadsAll.keeps k r⟩
theorem RdAll.nil {g : Heap} : RdAll g [] [] := ⟨_, .nil⟩
theorem RdAll.cons {g : Heap} {v d vs ds} (x : Rd g v d) (y : RdAll g vs ds) : RdAll g (v :: vs) (d :: ds) := let ⟨_, a⟩ := x; let ⟨_, b⟩ := y; ⟨_, .cons a b⟩
theorem RdAll.append {g : Heap} {ws es} : ∀ {vs : List Value} {ds : List PyData}, RdAll g vs ds → RdAll g ws es → RdAll g (vs ++ ws) (ds ++ es)
  | _, _, ⟨_, .nil⟩, y => y
  | _, _, ⟨_, .cons a b⟩, y => RdAll.cons ⟨_, a⟩ (RdAll.append ⟨_, b⟩ y)
theorem RdAll.push {g : Heap} {vs : Array Value} {ds v d} (x : RdAll g vs.toList ds) (y : Rd g v d) : RdAll g (vs.push v).toList (ds ++ [d]) := by
  rw [Array.toList_push]; exact x.append (RdAll.cons y RdAll.nil)
theorem Rd.int {g : Heap} (i t) : Rd g (.int i t) (.int i) := ⟨_, .int i t⟩
theorem Rd.str {g : Heap} (i t) : Rd g (.str i t) (.str i) := ⟨_, .str i t⟩
theorem Rd.list {g : Heap} {l its ds} (x : g.IsList l its) (y : RdAll g its.toList ds) : Rd g (.ref l) (.list ds) := by
  obtain ⟨o, h1, h2, n, h3⟩ := x
  obtain ⟨as, y⟩ := y
  exact ⟨_, .list h1 h2 h3 y⟩
theorem Rd.tup {g : Heap} {l : Addr} {vs : List Value} {ds} (x : IsTup g l vs.toArray) (y : RdAll g vs ds) : Rd g (.ref l) (.tuple ds) := by
  obtain ⟨o, h1, h2, n, h3⟩ := x
  obtain ⟨as, y⟩ := y
  exact ⟨_, .tuple h1 h2 h3 (by simpa using y)⟩
theorem RdAll.len {h : Heap} : ∀ {vs : List Value} {ds : List PyData}, RdAll h vs ds → vs.length = ds.length
  | _, _, ⟨_, .nil⟩ => rfl
  | _, _, ⟨_, .cons _ h2⟩ => by simp [RdAll.len ⟨_, h2⟩]
theorem RdAll.get {h : Heap} : ∀ {vs : List Value} {ds : List PyData}, RdAll h vs ds → ∀ {i : Nat} {d : PyData}, ds[i]? = some d → ∃ v, vs[i]? = some v ∧ Rd h v d
  | _, _, ⟨_, .nil⟩, i, d, e => by simp at e
  | _, _, ⟨_, .cons (v := v) h1 h2⟩, i, d, e => by
    cases i with
    | zero => simp at e; subst e; exact ⟨v, rfl, ⟨_, h1⟩⟩
    | succ i => simp at e; exact RdAll.get ⟨_, h2⟩ e
theorem Rd.list_of {g : Heap} {v ds} (x : Rd g v (.list ds)) : ∃ l its, v = .ref l ∧ g.IsList l its ∧ RdAll g its.toList ds := by
  obtain ⟨_, x⟩ := x
  cases x with
  | list h1 h2 h3 h4 => exact ⟨_, _, rfl, ⟨_, h1, h2, _, h3⟩, ⟨_, h4⟩⟩
theorem Rd.tup_of {g : Heap} {v ds} (x : Rd g v (.tuple ds)) : ∃ l vs, v = .ref l ∧ IsTup g l (List.toArray vs) ∧ RdAll g vs ds := by
  obtain ⟨_, x⟩ := x
  cases x with
  | tuple h1 h2 h3 h4 => rename_i a o vs n; exact ⟨a, vs.toList, rfl, ⟨_, h1, h2, _, h3⟩, ⟨_, h4⟩⟩
theorem Rd.tup2_of {g : Heap} {v a b} (x : Rd g v (.tuple [a, b])) : ∃ l va vb, v = .ref l ∧ IsTup g l (List.toArray [va, vb]) ∧ Rd g va a ∧ Rd g vb b := by
  obtain ⟨l, vs, e, h, r⟩ := x.tup_of
  obtain ⟨_, r⟩ := r
  cases r with
  | cons h1 h2 => cases h2 with
    | cons h3 h4 => cases h4; exact ⟨l, _, _, e, h, ⟨_, h1⟩, ⟨_, h3⟩⟩
theorem Rd.int_of {g : Heap} {v i} (x : Rd g v (.int i)) : ∃ t, v = .int i t := by obtain ⟨_, x⟩ := x; cases x; exact ⟨_, rfl⟩
theorem Rd.str_of {g : Heap} {v i} (x : Rd g v (.str i)) : ∃ t, v = .str i t := by obtain ⟨_, x⟩ := x; cases x; exact ⟨_, rfl⟩
theorem ist {g h : Heap} {l : Addr} {its : Array Value} (x : IsTup g l its) (k : Sub g h) : IsTup h l its := x.keeps k

section
variable {w : World} {A : Around} {E : Value → Shared → Prop} {s : Shared}
theorem q_tupI {value slice : Expr} {t : Addr} {l : List Value} {k : Int} {u : Tok} {x : Value} {Q : Value → Shared → Prop} (j : Nat) (ht : IsTup s.heap t l.toArray) (hk : k = (j : Int)) (hj : j < 100) (hx : l[j]? = some x) (h : Q x s)
    (hs : subscripted slice false (.ref t) (.int k u) = operate [.ref t, .int k u] (getItem (.ref t) (.int k u)) := by with_unfolding_all rfl) :
    wpAny (model PW w) A (subscriptTail value slice (.ref t) (.int k u)) Q E s := by
  subst hk
  have : j < l.length := by rcases Nat.lt_or_ge j l.length with h | h; exact h; rw [List.getElem?_eq_none h] at hx; cases hx
  refine item_tupleT ht (by omega) (by omega) (j := j) ?_ hx h hs
  unfold seqIndex?
  split
  · rename_i hh; exact absurd hh (by omega)
  · simp only [Bool.and_eq_true, decide_eq_true_eq]; rw [if_pos (by omega)]; simp
theorem q_itemN {value slice : Expr} {l : Addr} {its : Array Value} {k : Int} {u : Tok} {x : Value} {Q : Value → Shared → Prop} (j : Nat) (hl : s.heap.IsList l its) (hk : k = (j : Int)) (hj : j < 100) (hx : its[j]? = some x) (h : Q x s)
    (hs : subscripted slice false (.ref l) (.int k u) = operate [.ref l, .int k u] (getItem (.ref l) (.int k u)) := by with_unfolding_all rfl) (hg : ∀ r, letTemporaryGo value (.ref l) r = pure () := by intro _; with_unfolding_all rfl) :
    wpAny (model PW w) A (subscriptTail value slice (.ref l) (.int k u)) Q E s := by
  subst hk
  exact q_item hl (by omega) (by omega) (by simpa using hx) h hs hg
theorem q_notIn {c x : Value} {xs : List PyData} {d : PyData} {Q : Value → Shared → Prop} (rc : Rd s.heap c (.list xs)) (rx : Rd s.heap x d) (hxs : PyData.canLayAll0 xs = true) (hd : d.canLay0 = true)
    (hu : A.units ≤ 500) (hz : PyData.depthAll xs ≤ 100) (h : Q (.bool (!xs.any fun y => PyData.eqv y d)) s) : wpAny (model PW w) A (compareOp .NotIn x c) Q E s := by
  obtain ⟨_, rc⟩ := rc
  obtain ⟨_, rx⟩ := rx
  refine SeqAt.notIn_list_reads rc rx hxs hd ?_ h
  rw [cLine_is]; omega
theorem q_mAppend {l : Addr} {its : Array Value} {n : Nat} {pl : Sem Bool} {Q : Value × List Value → Shared → Prop} {W : List Addr} {g0 g : Heap} {s0 : Shared} {L : Addr} {ms : List (Addr × Obj)} {m : Str → Option Value}
    (F : Fm w W g0 s0 L ms g s m) (hp : (l, listOf its n) ∈ ms) (h : Q (.builtin "list.append", [.ref l]) s) : wpAny (model PW w) A (getMethod (.ref l) "append" pl) Q E s :=
  getMethod_builtin (T := "list") ⟨_, F.turnable hp, rfl⟩ PySem.F.plainAttrs_list PySem.slot_list_append PySem.type_list_append (fun a e => by cases e; exact ⟨_, F.turnable hp, rfl⟩) h
end
def nm (k : Nat) : Str := Str.mk #[97 + k]
theorem nm_inj {a b : Nat} (h : nm a = nm b) : a = b := by
  have : (nm a).cps.toList = (nm b).cps.toList := by rw [h]
  have : [97 + a] = [97 + b] := this
  have := (List.cons.inj this).1; omega
abbrev Ring := List (Int × Nat)
def ownAt (R : Ring) (k : Nat) : Nat := (R.getD (k % R.length) (0, 0)).2
def wlk (R : Ring) (c i : Nat) : Nat → List Nat
  | 0 => []
  | j + 1 => if ownAt R (i + j) ∉ wlk R c i j ∧ (wlk R c i j).length < c then wlk R c i j ++ [ownAt R (i + j)] else wlk R c i j
def lawMap (R : Ring) (c : Nat) : List (Int × List Nat) := (List.range R.length).map fun i => ((R.getD i (0, 0)).1, wlk R c i R.length)
def ringD (R : Ring) : PyData := .list (R.map fun p => .tuple [.int p.1, .str (nm p.2)])
def namesL (l : List Nat) : List PyData := l.map fun k => .str (nm k)
def namesD (l : List Nat) : PyData := .list (namesL l)
def toldL (mp : List (Int × List Nat)) : List PyData := mp.map fun p => .tuple [.int p.1, namesD p.2]
def toldD (mp : List (Int × List Nat)) : PyData := .list (toldL mp)
structure RingOk (R : Ring) : Prop where
  pos : 1 ≤ R.length
  le : R.length ≤ 4
  own : ∀ k, (R.getD k (0, 0)).2 < 3
  lo : ∀ k, -100 < (R.getD k (0, 0)).1
  hi : ∀ k, (R.getD k (0, 0)).1 < 100
  inc : ∀ i j, i < j → j < R.length → (R.getD i (0, 0)).1 + 20 ≤ (R.getD j (0, 0)).1
theorem wlk_len (R : Ring) (c i j : Nat) : (wlk R c i j).length ≤ j := by
  induction j with
  | zero => simp [wlk]
  | succ j ih =>
    simp only [wlk]
    split
    · rw [List.length_append, List.length_singleton]; omega
    · omega
theorem wlk_own {R : Ring} (ok : RingOk R) (c i j : Nat) : ∀ k ∈ wlk R c i j, k < 3 := by
  induction j with
  | zero => simp [wlk]
  | succ j ih =>
    simp only [wlk]
    split
    · intro k hk
      rcases List.mem_append.mp hk with h | h
      · exact ih k h
      · rw [List.mem_singleton.mp h]; exact ok.own _
    · exact ih
theorem lawMap_take (R : Ring) (c i : Nat) (h : i < R.length) : (lawMap R c).take (i + 1) = (lawMap R c).take i ++ [((R.getD i (0, 0)).1, wlk R c i R.length)] := by
  rw [List.take_add_one]
  congr 1
  unfold lawMap
  rw [List.getElem?_map, List.getElem?_range h]
  rfl
theorem nm_ok {k : Nat} (h : k < 3) : PyData.strOk (nm k) = true := by
  unfold PyData.strOk nm
  simp only [Array.all_eq_true, decide_eq_true_eq]
  intro i hi
  have : i = 0 := by simpa using hi
  subst this
  simp; omega
theorem names_can : ∀ {l : List Nat}, (∀ k ∈ l, k < 3) → PyData.canLayAll0 (namesL l) = true
  | [], _ => by simp [namesL, PyData.canLayAll0]
  | a :: l, h => by
    have := names_can (l := l) (fun k hk => h k (.tail _ hk))
    simp only [namesL, List.map_cons, PyData.canLayAll0, PyData.canLay0] at this ⊢
    rw [this, Bool.and_true]; exact nm_ok (h a (.head _))
theorem names_depth : ∀ {l : List Nat}, PyData.depthAll (namesL l) ≤ 1
  | [] => by simp [namesL, PyData.depthAll]
  | a :: l => by
    have := names_depth (l := l)
    simp only [namesL, List.map_cons, PyData.depthAll, PyData.depth] at this ⊢
    omega
theorem names_any (l : List Nat) (o : Nat) : ((namesL l).any fun y => PyData.eqv y (.str (nm o))) = decide (o ∈ l) := by
  induction l with
  | nil => simp [namesL]
  | cons a l ih =>
    simp only [namesL, List.map_cons, List.any_cons, PyData.eqv] at ih ⊢
    rw [ih, Bool.eq_iff_iff]
    simp only [Bool.or_eq_true, beq_iff_eq, decide_eq_true_eq, List.mem_cons]
    constructor
    · rintro (h | h)
      · exact .inl (nm_inj h).symm
      · exact .inr h
    · rintro (h | h)
      · exact .inl (by rw [h])
      · exact .inr h
theorem ring_item {g : Heap} {rg : Addr} {R : Ring} (hr : Rd g (.ref rg) (ringD R)) : ∃ its, g.IsList rg its ∧ its.size = R.length ∧
    ∀ k, k < R.length → ∃ T t u, its[k]? = some (.ref T) ∧ IsTup g T (List.toArray [.int (R.getD k (0, 0)).1 t, .str (nm (R.getD k (0, 0)).2) u]) := by
  obtain ⟨l, its, e, hl, ha⟩ := hr.list_of
  cases e
  have hlen := ha.len
  refine ⟨its, hl, by simpa using hlen, fun k hk => ?_⟩
  obtain ⟨v, e1, e2⟩ := ha.get (i := k) (d := .tuple [.int (R.getD k (0, 0)).1, .str (nm (R.getD k (0, 0)).2)]) (by simp [hk])
  obtain ⟨T, va, vb, rfl, hT, ra, rb⟩ := e2.tup2_of
  obtain ⟨t, rfl⟩ := ra.int_of
  obtain ⟨u, rfl⟩ := rb.str_of
  exact ⟨T, t, u, by simpa using e1, hT⟩

theorem c_law_map {w : World} {A : Around} {g0 : Heap} {sE : Shared} {E : Value → Shared → Prop} {Q : Value → Shared → Prop} {rg : Addr} {R : Ring} {c : Nat} {tc : Tok}
    (r : Rm A 10 30) (gd : Gd w g0) (hg : Sub g0 sE.heap) (hr : Rd g0 (.ref rg) (ringD R)) (ok : RingOk R) (hc : c ≤ 3)
    (h : ∀ l g' s', Step g0 sE g' s' → Rd g' (.ref l) (toldD (if c = 0 then [] else lawMap R c)) → Q (.ref l) s') :
    wpAny (model PW w) A (call (.ref 904) [.ref rg, .int c tc] []) Q E sE := by
  obtain ⟨its, hl, hsz, hit⟩ := ring_item hr
  have hn := ok.pos
  have hn' := ok.le
  have ru := r.un
  refine fn_call (binds := [("ring", .ref rg), ("copies", .int c tc)]) [] [] gd hg r (by k_is) (by k_is) (BindsTo.of_eq rfl) (locs rfl) (by simp) (by simp) rfl rfl rfl (by decide) fun L s F => ?_
  walk_at "mm"
  refine q_newListM F (by simp) fun told s F ntold => ?_
  walk_at "mm"
  have hl' : ∀ {g : Heap} {sE : Shared} {m ms}, Fm w [] g0 sE L ms g s m → s.heap.IsList rg its := fun F => isl hl (F.step.sub.trans F.step.keep)
  refine q_cutF F (fun v => ∃ t, v = .int ((if c = 0 then 0 else R.length : Nat) : Int) t) (wpAny_IfExp ?_) ?_
  · walk_at "mm"
    by_cases hc0 : c = 0
    · refine q_if_f (by simp [hc0]) ?_
      walk_at "mm"
      exact ⟨⟨_, by rw [if_pos hc0]; rfl⟩, F⟩
    · refine q_if_t (by simp; omega) ?_
      walk_at "mm"
      refine q_len F (hl' F) (by omega) fun s t F => ?_
      exact ⟨⟨t, by rw [if_neg hc0, hsz]⟩, F⟩
  clear hl'
  rintro v s ⟨t, rfl⟩ F
  walk_at "mm"
  refine q_range F fun rr g s t u v S F hrr => ?_
  walk_at "mm"
  refine for_range (fun i ms' g1 m' => ∃ its2 n, ms' = [(told, listOf its2 n)] ∧ its2.size = i ∧ RdAll g1 its2.toList (toldL ((lawMap R c).take i)) ∧ m' "ring" = some (.ref rg) ∧ m' "copies" = some (.int c tc) ∧ m' "told" = some (.ref told))
    r.hd (by split <;> omega) F hrr ⟨#[], 0, rfl, rfl, RdAll.nil, rfl, rfl, rfl⟩ rfl rfl ?_ ?_ ?_
  · rintro i ms' g1 s m' t I oi hi hs1 ⟨its2, n, rfl, hsz2, hra, hm1, hm2, hm3⟩ F
    simp only [List.cons_append, List.nil_append] at F
    have hc0 : c ≠ 0 := by rintro rfl; simp at hi
    rw [if_neg hc0] at hi
    clear hrr
    walk_at "mm"
    refine q_newListM F (by simp) fun names s F nnames => ?_
    walk_at "mm"
    refine q_len F (isl hl (F.step.sub.trans F.step.keep)) (by omega) fun s t F => ?_
    walk_at "mm"
    refine q_range F fun rr g2 s t u v S2 F hrr => ?_
    walk_at "mm"
    rw [hsz] at hrr
    refine for_range (fun j ms' g3 m' => ∃ its3 n3, ms' = (names, listOf its3 n3) :: (told, listOf its2 n) :: [(I, oi)] ∧ RdAll g3 its3.toList (namesL (wlk R c i j)) ∧ m' "ring" = some (.ref rg) ∧ m' "copies" = some (.int c tc) ∧ m' "told" = some (.ref told) ∧ m' "names" = some (.ref names) ∧ (∃ t, m' "i" = some (.int i t)))
      r.hd (by omega) F hrr ⟨#[], 0, rfl, RdAll.nil, hm1, hm2, hm3, rfl, _, rfl⟩ rfl rfl ?_ ?_ ?_
    · rintro j ms' g3 s m' tj I2 oi2 hj hs3 ⟨its3, n3, rfl, hra3, hm1, hm2, hm3, hm4, ti, hm5⟩ F
      simp only [List.cons_append, List.nil_append] at F
      have hL := isl hl (F.step.sub.trans F.step.keep)
      have hk : (i + j) % R.length < R.length := Nat.mod_lt _ (by omega)
      obtain ⟨T, t1, t2, hT, hTup⟩ := hit _ hk
      walk_at "mm"
      refine q_len F (isl hl (F.step.sub.trans F.step.keep)) (by omega) fun s t F => ?_
      walk_at "mm"
      refine q_mod F (by omega) fun s t F => ?_
      walk_at "mm"
      refine q_itemN ((i + j) % R.length) (isl hl (F.step.sub.trans F.step.keep)) (by rw [hsz]; simp) (by omega) hT ?_
      walk_at "mm"
      refine q_tupI 1 (ist hTup (F.step.sub.trans F.step.keep)) rfl (by omega) rfl ?_
      walk_at "mm"
      refine q_notIn (xs := namesL (wlk R c i j)) (Rd.list ⟨_, F.turnable (.head _), rfl, _, rfl⟩ (hra3.keeps F.step.keep)) (Rd.str _ _) (names_can (wlk_own ok _ _ _)) (nm_ok (ok.own _)) (by show A.units + 3 ≤ 500; omega) (by have := @names_depth (wlk R c i j); omega) ?_
      rw [names_any]
      walk_at "mm"
      have fin : ∀ s its3 n3 m', Fm w [] g0 sE L ((names, listOf its3 n3) :: (told, listOf its2 n) :: [(I, oi)] ++ [(I2, oi2)]) g3 s m' → RdAll g3 its3.toList (namesL (wlk R c i (j + 1))) → m' "ring" = some (.ref rg) → m' "copies" = some (.int c tc) → m' "told" = some (.ref told) → m' "names" = some (.ref names) → (∃ t, m' "i" = some (.int i t)) →
        ∃ ms2 g4 m2, Sub g3 g4 ∧ Fm w [] g0 sE L (ms2 ++ [(I2, oi2)]) g4 s m2 ∧ ∃ its3 n3, ms2 = (names, listOf its3 n3) :: (told, listOf its2 n) :: [(I, oi)] ∧ RdAll g4 its3.toList (namesL (wlk R c i (j + 1))) ∧ m2 "ring" = some (.ref rg) ∧ m2 "copies" = some (.int c tc) ∧ m2 "told" = some (.ref told) ∧ m2 "names" = some (.ref names) ∧ (∃ t, m2 "i" = some (.int i t)) :=
        fun s its3 n3 m' F a b c d e f => ⟨_, g3, m', Sub.refl _, F, its3, n3, rfl, a, b, c, d, e, f⟩
      have hln : its3.size = (wlk R c i j).length := by have := hra3.len; simpa [namesL] using this
      by_cases hin : ownAt R (i + j) ∈ wlk R c i j
      · refine q_if_f (by simp only [show (R.getD ((i + j) % R.length) (0, 0)).2 ∈ wlk R c i j from hin]; rfl) ?_
        walk_at "mm"
        refine ⟨.inl rfl, fin _ _ _ _ F ?_ ?_ ?_ ?_ ?_ ?_⟩
        · simp only [wlk]; rw [if_neg fun h => h.1 hin]; exact hra3
        · walk_at "hv"
        · walk_at "hv"
        · walk_at "hv"
        · walk_at "hv"
        · exact ⟨_, by walk_at "hv"⟩
      · refine q_if_t (by simp only [show (R.getD ((i + j) % R.length) (0, 0)).2 ∉ wlk R c i j from hin]; rfl) ?_
        walk_at "mm"
        refine q_len F ⟨_, F.turnable (.head _), rfl, _, rfl⟩ (by have := wlk_len R c i j; omega) fun s t F => ?_
        walk_at "mm"
        by_cases hlt : (wlk R c i j).length < c
        · refine q_if_t (by rw [hln]; simp; omega) ?_
          walk_at "mm"
          refine q_append F (by omega) fun s F => ?_
          walk_at "mm"
          refine ⟨.inl rfl, fin _ _ _ _ F ?_ ?_ ?_ ?_ ?_ ?_⟩
          · simp only [wlk]; rw [if_pos ⟨hin, hlt⟩]; simp only [namesL, List.map_append]; exact hra3.push (Rd.str _ _)
          · walk_at "hv"
          · walk_at "hv"
          · walk_at "hv"
          · walk_at "hv"
          · exact ⟨_, by walk_at "hv"⟩
        · refine q_if_f (by rw [hln]; simp; omega) ?_
          walk_at "mm"
          refine ⟨.inl rfl, fin _ _ _ _ F ?_ ?_ ?_ ?_ ?_ ?_⟩
          · simp only [wlk]; rw [if_neg fun h => hlt h.2]; exact hra3
          · walk_at "hv"
          · walk_at "hv"
          · walk_at "hv"
          · walk_at "hv"
          · exact ⟨_, by walk_at "hv"⟩
    · rintro j ms' g3 g4 m' hs4 ⟨its3, n3, e, hra3, hm⟩
      exact ⟨its3, n3, e, hra3.keeps hs4, hm⟩
    · rintro ms' g3 s m' hs3 ⟨its3, n3, rfl, hra3, hm1, hm2, hm3, hm4, ti, hm5⟩ F
      have F : Fm w [] g0 sE L ((names, listOf its3 n3) :: (told, listOf its2 n) :: [(I, oi)]) g3 s m' := F
      obtain ⟨g4, hs4, F, hnames⟩ := F.rest nnames
      obtain ⟨T, t1, t2, hT, hTup⟩ := hit i hi
      have rn : Rd g4 (.ref names) (namesD (wlk R c i R.length)) := Rd.list ⟨_, hnames, rfl, _, rfl⟩ (hra3.keeps hs4)
      walk_at "mm"
      refine q_itemN i (isl hl (F.step.sub.trans F.step.keep)) rfl (by omega) hT ?_
      walk_at "mm"
      refine q_tupI 0 (ist hTup (F.step.sub.trans F.step.keep)) rfl (by omega) rfl ?_
      walk_at "mm"
      refine q_newTup F (by simp) fun tp g5 s hs5 F htp => ?_
      walk_at "mm"
      refine q_append F (by omega) fun s F => ?_
      walk_at "mm"
      refine ⟨.inl rfl, _, g5, m', ((S2.trans hs3).trans hs4).trans hs5, F, _, _, rfl, by simp [hsz2], ?_, hm1, hm2, hm3⟩
      rw [lawMap_take R c i hi]
      simp only [toldL, List.map_append]
      refine RdAll.push (hra.keeps (((S2.trans hs3).trans hs4).trans hs5)) (Rd.tup ⟨_, htp, rfl, _, rfl⟩ (RdAll.cons (Rd.int _ _) (RdAll.cons (rn.keeps hs5) RdAll.nil)))
  · rintro i ms' g1 g2 m' hs2 ⟨its2, n, e, hsz2, hra, hm⟩
    exact ⟨its2, n, e, hsz2, hra.keeps hs2, hm⟩
  · rintro ms' g1 s m' hs1 ⟨its2, n, rfl, hsz2, hra, hm1, hm2, hm3⟩ F
    obtain ⟨g2, hs2, F, htold⟩ := F.rest ntold
    walk_at "mm"
    refine h _ g2 _ F.step (Rd.list ⟨_, htold, rfl, _, rfl⟩ ?_)
    refine (show RdAll g1 its2.toList (toldL (if c = 0 then [] else lawMap R c)) from ?_).keeps hs2
    split
    · rename_i e
      rw [if_pos e] at hra
      simpa [toldL] using hra
    · rename_i e
      rw [if_neg e, List.take_of_length_le (by simp [lawMap])] at hra
      exact hra
section
variable {w : World} {W : List Addr} {g0 g : Heap} {s0 s : Shared} {L : Addr} {ms : List (Addr × Obj)} {m : Str → Option Value} {A : Around} {E : Value → Shared → Prop} {env : Env}
theorem sub_size {h h' : Heap} (hx : Heap.ExtBut h.objs.size h h') : Sub h h' := fun b o e => hx b o (Nat.ne_of_lt (Heap.lt_size e)) e
theorem q_unpack {t : Addr} {items : List Value} {n : Nat} {Q : List Value → Shared → Prop} (hh : A.handled = none) (F : Fm w W g0 s0 L ms g s m) (ht : IsTup s.heap t items.toArray) (hn : n = items.length)
    (h : ∀ g' s', Sub g g' → Fm w W g0 s0 L ms g' s' m → Q items s') : wpAny (model PW w) A (unpackItems (.ref t) n none) Q E s := by
  have hn : n = items.toArray.size := by simpa using hn
  subst hn
  refine unpackItems_tuple hh ht fun h' hx => ?_
  obtain ⟨g', hs, F', _⟩ := F.ext (tk := s.toks) (sub_size hx)
  exact h g' _ hs F'
theorem q_assignTup {elts : List Expr} {k} {pos : Pos} {t : Addr} {items : List Value} {Q : Unit → Shared → Prop} (hh : A.handled = none) (F : Fm w W g0 s0 L ms g s m) (ht : IsTup s.heap t items.toArray)
    (hn : (assignEach elts env).length = items.length) (hstar : (assignEach elts env).findIdx? (·.1) = none)
    (h : ∀ g' s', Sub g g' → Fm w W g0 s0 L ms g' s' m → wpAny (model PW w) A (assignInOrder ((assignEach elts env).map (·.2)) items) Q E s') : wpAny (model PW w) A (assign (.Tuple elts k pos) env (.ref t)) Q E s := by
  refine assign_Tuple_tuple hh ht (by simpa using hn) hstar fun h' hx => ?_
  obtain ⟨g', hs, F', _⟩ := F.ext (tk := s.toks) (sub_size hx)
  exact h g' _ hs F'
end
section
variable {w : World} {W : List Addr} {g0 g : Heap} {s0 s : Shared} {L : Addr} {ms : List (Addr × Obj)} {m : Str → Option Value} {A : Around} {E : Value → Shared → Prop} {name : Str} {scope : Scope} {f : Addr} {cd : Value}
theorem q_bind {x : Str} {v : Value} {Q : Unit → Shared → Prop} (F : Fm w W g0 s0 L ms g s m) (h : ∀ s', Fm w W g0 s0 L ms g s' (fun y => if y = x then some v else m y) → Q () s')
    (hk : scope.kind = .function := by rfl) (hl : (envOf name scope L f cd).kindOf x = some .local := by rfl) :
    wpAny (model PW w) A (bindName (envOf name scope L f cd) x v) Q E s := by
  unfold bindName
  refine wpAny_bind (wpAny_holding (wpAny_point (wpAny_bind ?_)))
  exact q_st F (fun s' F' => wpAny_point (h s' F')) hk hl
theorem while_loop {test : Expr} {body : List Stmt} {R : Result → Shared → Prop} (n : Nat)
    (J : Nat → List (Addr × Obj) → Heap → (Str → Option Value) → Prop)
    (F : Fm w W g0 s0 L ms g s m) (h0 : J n ms g m)
    (turn : ∀ k ms' g1 s1 m', Sub g g1 → J k ms' g1 m' → Fm w W g0 s0 L ms' g1 s1 m' →
      wpAny (model PW w) A (PySem.isTrue test (envOf name scope L f cd) (eval test (envOf name scope L f cd))) (fun b s2 => ∃ g2 ms2, Sub g1 g2 ∧ Fm w W g0 s0 L ms2 g2 s2 m' ∧
        (b = true → wpAny (model PW w) A (execs body (envOf name scope L f cd)) (fun fl s3 => (fl = .next ∨ fl = .cont) ∧ ∃ k' ms3 g3 m3, k' < k ∧ Sub g2 g3 ∧ Fm w W g0 s0 L ms3 g3 s3 m3 ∧ J k' ms3 g3 m3) NE s2) ∧
        (b = false → R (.ok .next) s2)) NE s1) :
    codeAny (model PW w) A (.whileLoop test body [] (envOf name scope L f cd)) R s := by
  refine codeAny_whileLoop (fun k s1 => ∃ ms' g1 m', Sub g g1 ∧ J k ms' g1 m' ∧ Fm w W g0 s0 L ms' g1 s1 m') ?_ n ⟨ms, g, m, Sub.refl _, h0, F⟩
  rintro k s1 ⟨ms', g1, m', hs, hJ, F1⟩
  refine wpAny_mono (turn k ms' g1 s1 m' hs hJ F1) (fun b s2 q => ?_) fun _ _ q => q.elim
  obtain ⟨g2, ms2, hs2, F2, ht, hf⟩ := q
  cases b with
  | true =>
    rw [if_pos rfl]
    refine wpAny_mono (ht rfl) (fun fl s3 q => ?_) fun _ _ q => q.elim
    obtain ⟨hfl, k', ms3, g3, m3, hk, hs3, F3, hJ3⟩ := q
    have : ∃ m, m < k ∧ ∃ ms' g1 m', Sub g g1 ∧ J m ms' g1 m' ∧ Fm w W g0 s0 L ms' g1 s3 m' := ⟨k', hk, ms3, g3, m3, (hs.trans hs2).trans hs3, hJ3, F3⟩
    rcases hfl with rfl | rfl <;> exact this
  | false =>
    rw [if_neg (by decide)]
    exact wpAny_execs_nil (hf rfl)
end
section
variable {w : World} {W : List Addr} {g0 g : Heap} {s0 s : Shared} {L : Addr} {ms : List (Addr × Obj)} {m : Str → Option Value}
theorem Fm.extM {h' : Heap} {tk : Nat} (F : Fm w W g0 s0 L ms g s m) (hx : Sub s.heap h') (nws : List (Addr × Obj)) (hn : ∀ p ∈ nws, h'.get? p.1 = some p.2 ∧ s.heap.get? p.1 = none) (nd : (nws.map (·.1)).Nodup) :
    ∃ g', Sub g g' ∧ Fm w W g0 s0 L (nws ++ ms) g' { s with heap := h', toks := tk } m ∧ (∀ p ∈ nws, s0.heap.get? p.1 = none) ∧ ∀ a o, a ∉ nws.map (·.1) → h'.get? a = some o → s.heap.get? a = none → g'.get? a = some o := by
  let p : Addr → Prop := fun a => (∃ o, g.get? a = some o) ∨ (s.heap.get? a = none ∧ a ∉ nws.map (·.1))
  have keep : ∀ b o, g.get? b = some o → h'.get? b = some o := fun b o e => hx _ _ (F.step.keep b o e)
  have sub : Sub g (cutH p h') := fun b o e => cutH_get (keep b o e) (.inl ⟨o, e⟩)
  have absent : ∀ a, s.heap.get? a = none → s0.heap.get? a = none := fun a e => by
    cases q : s0.heap.get? a with
    | none => rfl
    | some o => obtain ⟨o', e'⟩ := F.step.live _ _ q; rw [e] at e'; cases e'
  have gnone : ∀ a, s.heap.get? a = none → g.get? a = none := fun a e => by
    cases q : g.get? a with
    | none => rfl
    | some o => have := F.step.keep _ _ q; rw [e] at this; cases this
  have none_of : ∀ a o, s.heap.get? a = some o → g.get? a = none → (cutH p h').get? a = none := fun a o e e2 => by
    cases q : (cutH p h').get? a with
    | none => rfl
    | some o2 =>
      rcases (cutH_of q).2 with ⟨o3, e3⟩ | ⟨e3, _⟩
      · rw [e2] at e3; cases e3
      · rw [e] at e3; cases e3
  obtain ⟨oL, eL⟩ := F.lL
  refine ⟨cutH p h', sub, ⟨⟨F.step.gens, F.step.drawn, F.step.os, fun b o hb e => hx _ _ (F.step.old b o hb e), fun b o e => let ⟨o', e'⟩ := F.step.live b o e; ⟨o', hx _ _ e'⟩, F.step.sub.trans sub, fun b o e => (cutH_of e).1, fun b o e => ?_⟩, F.gd.keeps sub, F.ns.keeps hx, F.bs, none_of L oL eL F.gL, fun q hq => ?_, ?_⟩, fun q hq => absent _ (hn q hq).2, fun a o hm e1 e2 => cutH_get e1 (.inr ⟨e2, hm⟩)⟩
  · obtain ⟨e1, e2⟩ := cutH_of e
    rcases e2 with ⟨o', e2⟩ | ⟨e2, _⟩
    · have := keep b o' e2
      rw [e1] at this; cases this
      exact F.step.frs b _ e2
    · exact .inr (absent b e2)
  · rcases List.mem_append.mp hq with hq | hq
    · have hq' := hn q hq
      refine ⟨hq'.1, ?_, fun e => ?_, .inl (absent _ hq'.2)⟩
      · cases z : (cutH p h').get? q.1 with
        | none => rfl
        | some o2 =>
          rcases (cutH_of z).2 with ⟨o3, e3⟩ | ⟨_, e3⟩
          · rw [gnone _ hq'.2] at e3; cases e3
          · exact absurd (List.mem_map.mpr ⟨q, hq, rfl⟩) e3
      · rw [e, eL] at hq'; cases hq'.2
    · have M := F.mu q hq
      exact ⟨hx _ _ M.1, none_of _ _ M.1 M.2.1, M.2.2⟩
  · rw [List.map_append, List.nodup_append]
    refine ⟨nd, F.nd, fun a ha b hb e => ?_⟩
    subst e
    obtain ⟨p1, h1, e1⟩ := List.mem_map.mp ha
    obtain ⟨p2, h2, e2⟩ := List.mem_map.mp hb
    have := (hn p1 h1).2
    rw [e1, ← e2, (F.mu p2 h2).1] at this
    cases this
theorem Fm.calledW {V : List Addr} {g' : Heap} {s' : Shared} (F : Fm w W g0 s0 L ms g s m) (S : StepW V g s g' s') (hV : ∀ a ∈ V, a ∈ ms.map (·.1)) (ms' : List (Addr × Obj))
    (hm : ∀ p ∈ ms', s'.heap.get? p.1 = some p.2 ∧ g'.get? p.1 = none ∧ (p.1 ∈ ms.map (·.1) ∨ s.heap.get? p.1 = none)) (nd : (ms'.map (·.1)).Nodup) : Fm w W g0 s0 L ms' g' s' m := by
  have hV' : ∀ a ∈ V, g.get? a = none ∧ a ≠ L ∧ (s0.heap.get? a = none ∨ a ∈ W) := fun a ha => by
    obtain ⟨p, hp, e⟩ := List.mem_map.mp (hV a ha)
    have M := F.mu p hp
    rw [e] at M
    exact M.2
  obtain ⟨oL, eL⟩ := F.lL
  refine ⟨⟨S.gens.trans F.step.gens, S.drawn.trans F.step.drawn, S.os.trans F.step.os, fun b o hb e => S.old b o (fun q => ?_) (F.step.old b o hb e), fun b o e => let ⟨o', e'⟩ := F.step.live b o e; S.live b o' e', F.step.sub.trans S.sub, S.keep, fun b o e => ?_⟩, F.gd.keeps S.sub, ?_, F.bs, ?_, fun p hp => ?_, nd⟩
  · rcases (hV' b q).2.2 with z | z
    · rw [z] at e; cases e
    · exact hb z
  · rcases S.frs b o e with z | z
    · exact F.step.frs b o z
    · right
      cases q : s0.heap.get? b with
      | none => rfl
      | some o' => obtain ⟨o2, e2⟩ := F.step.live b o' q; rw [z] at e2; cases e2
  · obtain ⟨oL, x1, x2, hL, rest⟩ := F.ns
    exact ⟨oL, x1, x2, S.old L oL (fun q => (hV' L q).2.1 rfl) hL, rest⟩
  · cases q : g'.get? L with
    | none => rfl
    | some o =>
      rcases S.frs L o q with z | z
      · rw [F.gL] at z; cases z
      · rw [eL] at z; cases z
  · have z := hm p hp
    refine ⟨z.1, z.2.1, fun e => ?_, ?_⟩
    · rcases z.2.2 with q | q
      · obtain ⟨p2, h2, e2⟩ := List.mem_map.mp q
        exact (F.mu p2 h2).2.2.1 (e2.trans e)
      · rw [e, eL] at q; cases q
    · rcases z.2.2 with q | q
      · obtain ⟨p2, h2, e2⟩ := List.mem_map.mp q
        have := (F.mu p2 h2).2.2.2
        rw [e2] at this; exact this
      · left
        cases y : s0.heap.get? p.1 with
        | none => rfl
        | some o' => obtain ⟨o2, e2⟩ := F.step.live _ _ y; rw [q] at e2; cases e2
end
structure EnvAt (env : Env) (L : Addr) : Prop where
  loc : env.locals = L
  kind : env.scope.kind = .function
  glob : env.globals = mainGlobals
  bi : env.builtins = builtinsNs
section
variable {w : World} {W : List Addr} {g0 g : Heap} {s0 s : Shared} {L : Addr} {ms : List (Addr × Obj)} {m : Str → Option Value} {A : Around} {E : Value → Shared → Prop} {env : Env}
theorem e_ld {x : Str} {pos : Pos} {v : Value} {Q : Value → Shared → Prop} (ea : EnvAt env L) (F : Fm w W g0 s0 L ms g s m) (hv : m x = some v) (h : Q v s)
    (hl : env.kindOf x = some .local) (hd : (x == ("__debug__" : Str)) = false) : wpAny (model PW w) A (eval (.Name x pos) env) Q E s :=
  wpAny_Name (wpAny_loadName_local ea.kind hl (ea.loc ▸ F.ns) hv h) hd
theorem e_st {x : Str} {v : Value} {Q : Unit → Shared → Prop} (ea : EnvAt env L) (F : Fm w W g0 s0 L ms g s m) (h : ∀ s', Fm w W g0 s0 L ms g s' (fun y => if y = x then some v else m y) → Q () s')
    (hl : env.kindOf x = some .local) : wpAny (model PW w) A (storeName env x v) Q E s :=
  wpAny_storeName_local hl (ea.loc ▸ F.ns) (fun h' hn hs => h _ (F.store (ea.loc ▸ hn) (ea.loc ▸ hs))) (by rw [ea.kind]; rfl)
theorem e_gl {x : Str} {pos : Pos} {v : Value} {Q : Value → Shared → Prop} (ea : EnvAt env L) (F : Fm w W g0 s0 L ms g s m) (e : nsIn (Mine.hd.heap_39 w.params) mainGlobals x = some (some v)) (h : Q v s)
    (hx : env.kindOf x = some .globalImplicit) (hd : (x == ("__debug__" : Str)) = false) : wpAny (model PW w) A (eval (.Name x pos) env) Q E s := by
  obtain ⟨X, p, lo, mg, mb, T⟩ := F.gd'
  exact Calls.Name_function_global ea.kind hx (Calls.loadGlobal_global (env := env) (ea.glob.symm ▸ T.g) (mg_of X T.g e) h) hd
theorem e_bi {x : Str} {pos : Pos} {v : Value} {Q : Value → Shared → Prop} (ea : EnvAt env L) (F : Fm w W g0 s0 L ms g s m) (e : nsIn (Mine.hd.heap_39 w.params) mainGlobals x = some none) (hv : bootBuiltins x = some v) (hn : x ≠ "__name__") (h : Q v s)
    (hx : env.kindOf x = some .globalImplicit) (hd : (x == ("__debug__" : Str)) = false) : wpAny (model PW w) A (eval (.Name x pos) env) Q E s := by
  obtain ⟨X, p, lo, mg, mb, T⟩ := F.gd'
  exact Calls.Name_function_global ea.kind hx (Calls.loadGlobal_builtin (env := env) (ea.glob.symm ▸ T.g) (mg_none_of X T.g e) (ea.bi.symm ▸ T.b) ((T.builtins x hn).trans hv) h) hd
theorem e_ldc {x : Str} {pos : Pos} {v : Value} {c : Addr} {Q : Value → Shared → Prop} (ea : EnvAt env L) (hl : env.kindOf x = some .cell) (hc : env.cells.lookup x = some c) (hv : s.heap.IsCell c (some v)) (h : Q v s)
    (hd : (x == ("__debug__" : Str)) = false) : wpAny (model PW w) A (eval (.Name x pos) env) Q E s :=
  wpAny_Name (wpAny_loadName_cell ea.kind hl hc hv h) hd
end
section
variable {w : World} {A : Around} {R : Result → Shared → Prop} {s : Shared}
theorem comp_loop {elt target iter : Expr} {ifs : List Expr} {scope : Scope} {pos : Pos} {it acc : Value} {env : Env} (I : Nat → Shared → Prop)
    (turn : ∀ n s, I n s → wpAny (model PW w) A (pyNext it) (fun r s₁ => match r with
      | none => R (.ok .next) s₁
      | some v => wpAny (model PW w) A (letOwnedTupleGo target it v) (fun _ s₂ => wpAny (model PW w) A (assign target env v) (fun _ s₃ =>
          wpAny (model PW w) A (forIn ifs true fun c r => if r = true then do let ok ← PySem.isTrue c env (eval c env); pure (ForInStep.yield ok) else pure (ForInStep.yield r)) (fun ok s₄ =>
            if ok = true then wpAny (model PW w) A (eval elt env) (fun x s₅ =>
              wpAny (model PW w) A (call (.builtin "list.append") [acc, x]) (fun _ s₆ => ∃ m, m < n ∧ I m s₆) NE s₅) NE s₄
            else ∃ m, m < n ∧ I m s₄) NE s₃) NE s₂) NE s₁) NE s)
    (n : Nat) (h : I n s) : codeAny (model PW w) A (.compLoop (.ListComp elt [⟨target, iter, ifs, 0⟩] scope pos) 0 it acc env) R s := by
  refine codeAny_loop rfl I (fun n s hI => ?_) n h
  show wpAny _ A ((compTurn (.ListComp elt [⟨target, iter, ifs, 0⟩] scope pos) 0 it acc env).onRaise (fun x => do noteFrame x env; theTreesLotGoes x)) _ _ s
  refine wpAny_noted ?_
  rw [compTurn_list]
  refine wpAny_bind (wpAny_standAt (wpAny_bind (wpAny_mono (turn n s hI) (fun r s₁ h₁ => ?_) fun _ _ h' => h'.elim)))
  cases r with
  | none => exact wpAny_pure h₁
  | some v =>
    refine wpAny_bind (wpAny_mono h₁ (fun _ s₂ h₂ => wpAny_bind (wpAny_mono h₂ (fun _ s₃ h₃ => wpAny_bind (wpAny_mono h₃ (fun ok s₄ h₄ => ?_) fun _ _ h' => h'.elim)) fun _ _ h' => h'.elim)) fun _ _ h' => h'.elim)
    cases ok with
    | false => exact wpAny_pure ⟨rfl, h₄⟩
    | true => exact wpAny_bind (wpAny_bind (wpAny_mono h₄ (fun x s₅ h₅ => wpAny_bind (wpAny_mono h₅ (fun _ s₆ h₆ => wpAny_pure (wpAny_pure ⟨rfl, h₆⟩)) fun _ _ h' => h'.elim)) fun _ _ h' => h'.elim))
end
section
variable {w : World} {W : List Addr} {g0 g : Heap} {s0 s : Shared} {L : Addr} {ms : List (Addr × Obj)} {m : Str → Option Value} {A : Around} {E : Value → Shared → Prop}
theorem comp_run {elt target iter : Expr} {ifs : List Expr} {scope : Scope} {pos : Pos} {env : Env} {I : Addr} {oI : Obj} {gB : Heap} {sB : Shared} {cl : List (Str × Addr)} {Q : Value → Shared → Prop} (Post : Array Value → Heap → Prop)
    (FB : Fm w W g0 s0 L ms gB sB m) (SB : Step gB sB g s) (gd : Gd w g) (eI : s.heap.get? I = some oI) (gI : g.get? I = none) (sBI : sB.heap.get? I = none) (sz : sB.heap.objs.size ≤ s.heap.objs.size)
    (hkind : scope.kind = .function) (hcells : ∀ x ∈ scope.names, x.2 ≠ .cell)
    (hself : ∀ (s1 : Shared) (P : Value → Shared → Prop), s1.heap.get? I = some oI → P (.ref I) s1 → wpAny (model PW w) A (pyIter (.ref I)) P NE s1)
    (loop : ∀ C l s1 (R : Result → Shared → Prop), Fm w [] gB sB C [(l, listOf #[] 0), (I, oI)] g s1 (fun _ => none) →
      (∀ its n g' s2 m2, Fm w [] gB sB C [(l, listOf its n)] g' s2 m2 → Post its g' → R (.ok .next) s2) →
      codeAny (model PW w) A (.compLoop (.ListComp elt [⟨target, iter, ifs, 0⟩] scope pos) 0 (.ref I) (.ref l) (compEnvC scope cl C env)) R s1)
    (h : ∀ l its n g' s', Sub gB g' → Fm w W g0 s0 L ((l, listOf its n) :: ms) g' s' m → s0.heap.get? l = none → Post its g' → Q (.ref l) s') :
    wpAny (model PW w) A (newList []) (fun acc s₃ => wpAny (model PW w) A (newFunctionEnv scope env.globals cl [] env.qual none .none (some env)) (fun cenv s₄ =>
        codeAny (model PW w) A (.compStart (.ListComp elt [⟨target, iter, ifs, 0⟩] scope pos) 0 (.ref I) acc { cenv with scope := relabel scope env }) (compPost (model PW w) A E none Q acc cenv.locals) s₄) E s₃) E s := by
  refine wpAny_newObj_type ?_ (by show (#[] : Array Value).size ≤ sizeLine; rw [sizeLine_eq]; simp)
  refine wpAny_newFunctionEnv hcells (by simp) (fun h4 hns hs4 => ?_) hkind
  have fr : s.heap.get? s.heap.objs.size = none := Heap.get?_none_of_le (Nat.le_refl _)
  have sub3 : Sub s.heap (s.heap.push (listOf #[] 0)) := fun b o e => Heap.get?_push_of_some _ e
  have sub4 : Sub (s.heap.push (listOf #[] 0)) h4 := fun b o e => (hs4.2 b (Nat.ne_of_lt (Heap.lt_size e))).trans (Heap.get?_push_of_some _ e)
  have sub : Sub s.heap h4 := sub3.trans sub4
  have el : h4.get? s.heap.objs.size = some (listOf #[] 0) := sub4 _ _ (Heap.get?_push_size _ rfl)
  have hC : s.heap.get? (s.heap.objs.size + 1) = none := Heap.get?_none_of_le (by omega)
  have gn : ∀ b, s.heap.get? b = none → g.get? b = none := fun b e => by
    cases q : g.get? b with
    | none => rfl
    | some o => have := SB.keep _ _ q; rw [e] at this; cases this
  have bn : ∀ b, s.heap.get? b = none → sB.heap.get? b = none := fun b e => by
    cases q : sB.heap.get? b with
    | none => rfl
    | some o => obtain ⟨o', e'⟩ := SB.live _ _ q; rw [e] at e'; cases e'
  have eC : (s.heap.push (listOf #[] 0)).objs.size = s.heap.objs.size + 1 := Heap.size_push ..
  have nIl : s.heap.objs.size ≠ I := fun q => by rw [← q, fr] at eI; cases eI
  have nIC : I ≠ s.heap.objs.size + 1 := fun q => by rw [q, hC] at eI; cases eI
  have F4 : Fm w [] gB sB (s.heap.objs.size + 1) [(s.heap.objs.size, listOf #[] 0), (I, oI)] g ⟨h4, s.gens, s.drawn, s.toks, s.os⟩ (fun _ => none) := by
    refine ⟨⟨SB.gens, SB.drawn, SB.os, fun b o hb e => sub b o (SB.old b o hb e), fun b o e => let ⟨o', e'⟩ := SB.live b o e; ⟨o', sub _ _ e'⟩, SB.sub, fun b o e => sub b o (SB.keep b o e), SB.frs⟩, gd, eC ▸ hns, ⟨bn _ hC, by omega, FB.gd, FB.step.keep⟩, gn _ hC, fun p hp => ?_, by simp [nIl]⟩
    simp only [List.mem_cons, List.not_mem_nil, or_false] at hp
    rcases hp with rfl | rfl
    · exact ⟨el, gn _ fr, by simp, .inl (bn _ fr)⟩
    · exact ⟨sub _ _ eI, gI, nIC, .inl sBI⟩
  have key : codeAny (model PW w) A (.compLoop (.ListComp elt [⟨target, iter, ifs, 0⟩] scope pos) 0 (.ref I) (.ref s.heap.objs.size) (compEnvC scope cl (s.heap.objs.size + 1) env)) (compPost (model PW w) A E none Q (.ref s.heap.objs.size) (s.heap.objs.size + 1)) ⟨h4, s.gens, s.drawn, s.toks, s.os⟩ := by
    refine loop (s.heap.objs.size + 1) s.heap.objs.size _ _ F4 fun its n g' s2 m2 F2 post => ⟨m2, F2.ns, fun h' hsb => ?_⟩
    have old : ∀ b o, b ≠ s.heap.objs.size + 1 → s2.heap.get? b = some o → h'.get? b = some o := fun b o hb e => (hsb.2 b hb).trans e
    have hCB := bn _ hC
    have S : Step gB sB g' ⟨h', s2.gens, s2.drawn, s2.toks, s2.os⟩ := ⟨F2.step.gens, F2.step.drawn, F2.step.os, fun b o hb e => old b o (fun q => by rw [q, hCB] at e; cases e) (F2.step.old b o hb e),
      fun b o e => let ⟨o', e'⟩ := F2.step.live b o e; ⟨o', old b o' (fun q => by rw [q, hCB] at e; cases e) e'⟩, F2.step.sub, fun b o e => old b o (fun q => by rw [q, F2.gL] at e; cases e) (F2.step.keep b o e), F2.step.frs⟩
    have l0 : s0.heap.get? s.heap.objs.size = none := by
      cases q : s0.heap.get? s.heap.objs.size with
      | none => rfl
      | some o => obtain ⟨o', e'⟩ := FB.step.live _ _ q; rw [bn _ fr] at e'; cases e'
    refine h _ its n g' _ F2.step.sub (FB.calledW S (by simp) ((s.heap.objs.size, listOf its n) :: ms) (fun p hp => ?_) ?_) l0 post
    · rcases List.mem_cons.mp hp with rfl | hp
      · exact ⟨old _ _ (by simp) (F2.mu _ (.head _)).1, (F2.mu _ (.head _)).2.1, .inr (bn _ fr)⟩
      · have M := FB.mu p hp
        refine ⟨S.old _ _ (by simp) M.1, ?_, .inl (List.mem_map.mpr ⟨p, hp, rfl⟩)⟩
        cases z : g'.get? p.1 with
        | none => rfl
        | some o2 =>
          rcases S.frs _ _ z with y | y
          · rw [M.2.1] at y; cases y
          · rw [M.1] at y; cases y
    · rw [List.map_cons, List.nodup_cons]
      refine ⟨fun q => ?_, FB.nd⟩
      obtain ⟨p, hp, e⟩ := List.mem_map.mp q
      have := (FB.mu p hp).1
      rw [e] at this
      have this : sB.heap.get? s.heap.objs.size = some p.2 := this
      rw [bn _ fr] at this; cases this
  show codeAny (model PW w) A (.compStart (.ListComp elt [⟨target, iter, ifs, 0⟩] scope pos) 0 (.ref I) (.ref s.heap.objs.size) (compEnvC scope cl (s.heap.push (listOf #[] 0)).objs.size env)) (compPost (model PW w) A E none Q (.ref s.heap.objs.size) (s.heap.push (listOf #[] 0)).objs.size) ⟨h4, s.gens, s.drawn, s.toks, s.os⟩
  rw [eC]
  exact codeAny_compStart_list key (wpAny_mono (hself _ (fun v s' => codeAny (model PW w) A (.compLoop (.ListComp elt [⟨target, iter, ifs, 0⟩] scope pos) 0 v (.ref s.heap.objs.size) (compEnvC scope cl (s.heap.objs.size + 1) env)) _ s') (sub _ _ eI) key) (fun _ _ z => z) fun _ _ z => z.elim)
end
abbrev en (u : Int) (k : Str) (t : Tok) (v : Value) : DictEntry := ⟨u, .str k t, v⟩
abbrev emptyD : Obj := ⟨.type "dict", none, .dict #[] 0, #[]⟩
abbrev dictO (es : List DictEntry) (n : Nat) : Obj := ⟨.type "dict", none, .dict es.toArray n, #[]⟩
abbrev instO (c d : Addr) : Obj := ⟨.ref c, some d, .plain, #[]⟩
abbrev w_keyspaces : Str := (⟨⟨[107, 101, 121, 115, 112, 97, 99, 101, 115]⟩⟩ : Str)
abbrev w_dbaas : Str := (⟨⟨[100, 98, 97, 97, 115]⟩⟩ : Str)
abbrev w__hosts : Str := (⟨⟨[95, 104, 111, 115, 116, 115]⟩⟩ : Str)
abbrev w_token_class : Str := (⟨⟨[116, 111, 107, 101, 110, 95, 99, 108, 97, 115, 115]⟩⟩ : Str)
abbrev w_ring : Str := (⟨⟨[114, 105, 110, 103]⟩⟩ : Str)
abbrev w_token_to_host_owner : Str := (⟨⟨[116, 111, 107, 101, 110, 95, 116, 111, 95, 104, 111, 115, 116, 95, 111, 119, 110, 101, 114]⟩⟩ : Str)
abbrev w_tokens_to_hosts_by_ks : Str := (⟨⟨[116, 111, 107, 101, 110, 115, 95, 116, 111, 95, 104, 111, 115, 116, 115, 95, 98, 121, 95, 107, 115]⟩⟩ : Str)
abbrev w__metadata : Str := (⟨⟨[95, 109, 101, 116, 97, 100, 97, 116, 97]⟩⟩ : Str)
abbrev w_value : Str := (⟨⟨[118, 97, 108, 117, 101]⟩⟩ : Str)
abbrev w_name : Str := (⟨⟨[110, 97, 109, 101]⟩⟩ : Str)
abbrev w_durable_writes : Str := (⟨⟨[100, 117, 114, 97, 98, 108, 101, 95, 119, 114, 105, 116, 101, 115]⟩⟩ : Str)
abbrev w_replication_strategy : Str := (⟨⟨[114, 101, 112, 108, 105, 99, 97, 116, 105, 111, 110, 95, 115, 116, 114, 97, 116, 101, 103, 121]⟩⟩ : Str)
abbrev w_tables : Str := (⟨⟨[116, 97, 98, 108, 101, 115]⟩⟩ : Str)
abbrev w_indexes : Str := (⟨⟨[105, 110, 100, 101, 120, 101, 115]⟩⟩ : Str)
abbrev w_user_types : Str := (⟨⟨[117, 115, 101, 114, 95, 116, 121, 112, 101, 115]⟩⟩ : Str)
abbrev w_functions : Str := (⟨⟨[102, 117, 110, 99, 116, 105, 111, 110, 115]⟩⟩ : Str)
abbrev w_aggregates : Str := (⟨⟨[97, 103, 103, 114, 101, 103, 97, 116, 101, 115]⟩⟩ : Str)
abbrev w_views : Str := (⟨⟨[118, 105, 101, 119, 115]⟩⟩ : Str)
abbrev w_graph_engine : Str := (⟨⟨[103, 114, 97, 112, 104, 95, 101, 110, 103, 105, 110, 101]⟩⟩ : Str)
abbrev w_replication_factor_info : Str := (⟨⟨[114, 101, 112, 108, 105, 99, 97, 116, 105, 111, 110, 95, 102, 97, 99, 116, 111, 114, 95, 105, 110, 102, 111]⟩⟩ : Str)
abbrev w_all_replicas : Str := (⟨⟨[97, 108, 108, 95, 114, 101, 112, 108, 105, 99, 97, 115]⟩⟩ : Str)
abbrev w_transient_replicas : Str := (⟨⟨[116, 114, 97, 110, 115, 105, 101, 110, 116, 95, 114, 101, 112, 108, 105, 99, 97, 115]⟩⟩ : Str)
abbrev w_full_replicas : Str := (⟨⟨[102, 117, 108, 108, 95, 114, 101, 112, 108, 105, 99, 97, 115]⟩⟩ : Str)
abbrev w_partitioner : Str := (⟨⟨[112, 97, 114, 116, 105, 116, 105, 111, 110, 101, 114]⟩⟩ : Str)
abbrev w_token_map : Str := (⟨⟨[116, 111, 107, 101, 110, 95, 109, 97, 112]⟩⟩ : Str)
def KsD (h : Heap) (d : Addr) (st : Value) : Prop := ∃ u1 t1 u2 t2 u3 t3 u4 t4 u5 t5 u6 t6 u7 t7 u8 t8 u9 t9 u10 t10 v1 v2 v4 v5 v6 v7 v8 v9 v10 n, h.get? d = some (dictO [en u1 w_name t1 v1, en u2 w_durable_writes t2 v2, en u3 w_replication_strategy t3 st, en u4 w_tables t4 v4, en u5 w_indexes t5 v5, en u6 w_user_types t6 v6, en u7 w_functions t7 v7, en u8 w_aggregates t8 v8, en u9 w_views t9 v9, en u10 w_graph_engine t10 v10] n)
theorem ksOf {h h' : Heap} {news : List (Addr × Obj)} (D : Mem h h' [] news) {d : Addr} {st : Value} {u1 : Int} {t1 : Tok} {u2 : Int} {t2 : Tok} {u3 : Int} {t3 : Tok} {u4 : Int} {t4 : Tok} {u5 : Int} {t5 : Tok} {u6 : Int} {t6 : Tok} {u7 : Int} {t7 : Tok} {u8 : Int} {t8 : Tok} {u9 : Int} {t9 : Tok} {u10 : Int} {t10 : Tok} {v1 v2 v4 v5 v6 v7 v8 v9 v10 : Value} {n : Nat} (m : (d, dictO [en u1 w_name t1 v1, en u2 w_durable_writes t2 v2, en u3 w_replication_strategy t3 st, en u4 w_tables t4 v4, en u5 w_indexes t5 v5, en u6 w_user_types t6 v6, en u7 w_functions t7 v7, en u8 w_aggregates t8 v8, en u9 w_views t9 v9, en u10 w_graph_engine t10 v10] n) ∈ news) : KsD h' d st ∧ h.get? d = none :=
  ⟨⟨_, _, _, _, _, _, _, _, _, _, _, _, _, _, _, _, _, _, _, _, _, _, _, _, _, _, _, _, _, _, (D.nw _ m).1⟩, (D.nw _ m).2⟩
section
variable {w : World} {W : List Addr} {g0 g : Heap} {s0 s : Shared} {C : Addr} {ms : List (Addr × Obj)} {m : Str → Option Value} {A : Around} {E : Value → Shared → Prop}
theorem comp_for {I l : Addr} {oI : Obj} {n : Nat} {It : Nat → Obj → Prop} {P : Nat → Value → Heap → Heap → Prop} {elt iter : Expr} {ifs : List Expr} {scope : Scope} {pos : Pos} {x : Str} {px : Pos} {env : Env} {R : Result → Shared → Prop}
    (J : Nat → Array Value → Heap → (Str → Option Value) → Prop)
    (Z : Iterates w A g I n It P) (F : Fm w W g0 s0 C [(l, listOf #[] 0), (I, oI)] g s m) (hI : It 0 oI) (hn : s0.heap.get? I = none) (h0 : J 0 #[] g m) (hz : n ≤ 100) (hJz : ∀ i xs g m, J i xs g m → xs.size ≤ i)
    (ea : EnvAt env C) (hl : env.kindOf x = some .local)
    (turn : ∀ i xs k g1 g2 s1 m' v oi, i < n → Sub g g1 → Sub g1 g2 → J i xs g1 m' → (∃ h1 h2, P i v h1 h2 ∧ (∀ b ob, h2.get? b = some ob → h1.get? b = none → g2.get? b = some ob)) →
      Fm w W g0 s0 C [(l, listOf xs k), (I, oi)] g2 s1 (fun y => if y = x then some v else m' y) →
      wpAny (model PW w) A (forIn ifs true fun c r => if r = true then do let ok ← PySem.isTrue c env (eval c env); pure (ForInStep.yield ok) else pure (ForInStep.yield r)) (fun ok s₄ =>
            if ok = true then wpAny (model PW w) A (eval elt env) (fun y s₅ => ∃ g3 m3, Sub g2 g3 ∧ Fm w W g0 s0 C [(l, listOf xs k), (I, oi)] g3 s₅ m3 ∧ J (i + 1) (xs.push y) g3 m3) NE s₄
            else ∃ g3 m3, Sub g2 g3 ∧ Fm w W g0 s0 C [(l, listOf xs k), (I, oi)] g3 s₄ m3 ∧ J (i + 1) xs g3 m3) NE s1)
    (done : ∀ xs k g1 s1 m', Sub g g1 → J n xs g1 m' → Fm w W g0 s0 C [(l, listOf xs k)] g1 s1 m' → R (.ok .next) s1) :
    codeAny (model PW w) A (.compLoop (.ListComp elt [⟨.Name x px, iter, ifs, 0⟩] scope pos) 0 (.ref I) (.ref l) env) R s := by
  refine comp_loop (fun k s1 => ∃ i xs kk g1 m' oi, i ≤ n ∧ k = n - i ∧ Sub g g1 ∧ J i xs g1 m' ∧ It i oi ∧ Fm w W g0 s0 C [(l, listOf xs kk), (I, oi)] g1 s1 m') ?_ n ⟨0, #[], 0, g, m, oI, Nat.zero_le _, rfl, Sub.refl _, h0, hI, F⟩
  rintro k s1 ⟨i, xs, kk, g1, m', oi, hi, rfl, hs, hJ, hIt, F1⟩
  have F1' := F1.perm (ms' := [(I, oi), (l, listOf xs kk)]) (List.Perm.swap _ _ _)
  by_cases hlt : i < n
  · refine wpAny_mono (Z.item i s1 oi hlt hIt (F1'.turnable (.head _)) (hs.trans F1.step.keep)) (fun r s2 h2 => ?_) fun _ _ q => q.elim
    obtain ⟨v, o', h', tk, rfl, rfl, hx, ho, hIt', hP⟩ := h2
    obtain ⟨g2, hs2, F2, hnew⟩ := F1'.turnE (tk := tk) hx ho
    refine wpAny_of_eq (a := ()) (by rfl) ?_
    refine wpAny_assign_Name (e_st ea (F2.perm (ms' := [(l, listOf xs kk), (I, o')]) (List.Perm.swap _ _ _)) (fun s3 F3 => ?_) hl)
    refine wpAny_mono (turn i xs kk g1 g2 s3 m' v o' hlt hs hs2 hJ ⟨_, _, hP, hnew⟩ F3) (fun ok s4 h4 => ?_) fun _ _ q => q.elim
    cases ok with
    | true =>
      rw [if_pos rfl] at h4 ⊢
      refine wpAny_mono h4 (fun y s5 h5 => ?_) fun _ _ q => q.elim
      obtain ⟨g3, m3, hs3, F5, hJ5⟩ := h5
      have := hJz _ _ _ _ hJ
      exact q_append F5 (by omega) fun s6 F6 => ⟨n - (i + 1), by omega, i + 1, _, _, g3, m3, o', hlt, rfl, (hs.trans hs2).trans hs3, hJ5, hIt', F6⟩
    | false =>
      rw [if_neg (by decide)] at h4 ⊢
      obtain ⟨g3, m3, hs3, F5, hJ5⟩ := h4
      exact ⟨n - (i + 1), by omega, i + 1, _, _, g3, m3, o', hlt, rfl, (hs.trans hs2).trans hs3, hJ5, hIt', F5⟩
  · obtain rfl : i = n := by omega
    refine wpAny_mono (Z.done s1 oi hIt (F1'.turnable (.head _)) (hs.trans F1.step.keep)) (fun r s2 h2 => ?_) fun _ _ q => q.elim
    obtain ⟨h', tk, rfl, rfl, hx⟩ := h2
    exact done xs kk g1 _ m' hs hJ (F1'.lost (tk := tk) hx hn)
end
theorem ext_of {h h' : Heap} {news : List (Addr × Obj)} (D : Mem h h' [] news) : Sub h h' := fun b o e => D.keep b o e (by simp [away])
abbrev hostO (k : Str) (t1 t2 t3 : Tok) (dd : Addr) : Obj := ⟨.ref 884, some dd, .seq #[.str k t1, .str (Str.ofString "d") t2, .str (Str.ofString "r") t3] 0, #[]⟩
def Tk (g : Heap) (a : Addr) (v : Int) : Prop := ∃ d1 u1 t1 t2 n1, g.get? a = some (instO 768 d1) ∧ g.get? d1 = some (dictO [en u1 w_value t1 (.int v t2)] n1)
def Hs (g : Heap) (a : Addr) (k : Nat) : Prop := ∃ t1 t2 t3 dd, g.get? a = some (hostO (nm k) t1 t2 t3 dd) ∧ g.get? dd = some emptyD
theorem Tk.keeps {g h : Heap} {a v} (x : Tk g a v) (k : Sub g h) : Tk h a v := let ⟨d1, u1, t1, t2, n1, e1, e2⟩ := x; ⟨d1, u1, t1, t2, n1, k _ _ e1, k _ _ e2⟩
theorem Hs.keeps {g h : Heap} {a v} (x : Hs g a v) (k : Sub g h) : Hs h a v := let ⟨t1, t2, t3, dd, e1, e2⟩ := x; ⟨t1, t2, t3, dd, k _ _ e1, k _ _ e2⟩
def hv (v : Int) : Int := if v = -1 then -2 else v
section
variable {M : Model} {A : Around} {E : Value → Shared → Prop} {s : Shared} {K : Frag} {x C f : Addr} {ox : Obj} {od : Option Obj}
theorem fnu_K {name : Str} {refuse : Sem Value} {Q : Option Value → Shared → Prop} {fv : Value} (X : K.In s.heap) (I : InstAt s.heap x ox C od) (hs : findIn K (.ref C) name = some (some fv)) (hb : (fv == Value.none) = false) (hbs : Looks M s.heap (bindSpecial fv (.ref x)) (fv, [.ref x]))
    (h : wpAny M A (call fv [.ref x]) (fun v => Q (some v)) E s) : wpAny M A (callSpecialIfBoundUnlessNone? (.ref x) name refuse) Q E s := by
  simp only [callSpecialIfBoundUnlessNone?, bindSpecialIfBound?]
  refine wpAny_holding (wpAny_bind (wpAny_bind (wpAny_bind (I.type.here ((looks_findIn X hs).here ?_)))))
  refine wpAny_bind (wpAny_askSetting (wpAny_ite ?_))
  have fin : wpAny M A (if (fv == Value.none) = true then (refuse >>= fun v => pure (some v)) else (call fv [.ref x] >>= fun v => pure (some v))) Q E s := by
    rw [if_neg (by rw [hb]; exact Bool.false_ne_true)]
    exact wpAny_bind (wpAny_mono h (fun v s' h' => wpAny_pure h') fun _ _ h' => h')
  split
  · exact wpAny_bind (hbs.here (wpAny_pure (by exact fin)))
  · exact wpAny_tryCatch (wpAny_bind (hbs.here (wpAny_pure (by exact fin))))
theorem hash_K {Q : Int → Shared → Prop} {fv : Value} (hu : A.units < cLine) (X : K.In s.heap) (I : InstAt s.heap x ox C od) (hs : findIn K (.ref C) "__hash__" = some (some fv)) (hb : (fv == Value.none) = false) (hbs : Looks M s.heap (bindSpecial fv (.ref x)) (fv, [.ref x]))
    (h : wpAny M A (call fv [.ref x]) (fun v s' => ∃ i t, v = .int i t ∧ (-(2 ^ 63 : Int) ≤ i ∧ i < 2 ^ 63) ∧ Q (if i == -1 then -2 else i) s') E s) : wpAny M A (pyHash (.ref x)) Q E s := by
  show wpAny M A (pyHashByItsType (.ref x)) Q E s
  unfold pyHashByItsType
  refine wpAny_bind (wpAny_cRoomFor hu ?_)
  refine wpAny_bind (wpAny_bind (I.type.here ((looks_findIn X hs).here ?_)))
  have : (some fv == some Value.none) = false := by show (fv == Value.none) = false; exact hb
  rw [if_neg (by rw [this]; exact Bool.false_ne_true)]
  refine wpAny_bind (wpAny_bind (I.type.here ((looks_findIn X hs).here ?_)))
  show wpAny _ _ (if (some fv).isNone = true then _ else _) _ _ _
  rw [if_neg (by simp)]
  refine wpAny_bind (fnu_K X I hs hb hbs (wpAny_mono h (fun r s' hr => ?_) fun _ _ y => y))
  obtain ⟨i, t, rfl, hi, hq⟩ := hr
  show wpAny _ _ (pyHashByItsType.reduced i) _ _ _
  unfold pyHashByItsType.reduced
  rw [if_pos (by simp; omega)]
  exact wpAny_pure hq
end
section
variable {w : World} {A : Around} {E : Value → Shared → Prop} {s : Shared} {d : Addr} {es : List DictEntry} {n : Nat}
abbrev itO (d : Addr) (own : Value) (i len ep : Nat) (a b : Value) : Obj := { cls := .type "dict_itemiterator", data := .fields #[own, .bool false, .ref d, .int i 0, .int len 0, .int ep 0, a, b] }
theorem call_items {Q : Value → Shared → Prop} (ho : s.heap.get? d = some (dictO es n)) (hd : (d == sysModules) = false)
    (h : Q (.ref s.heap.objs.size) { s with heap := s.heap.push { cls := .type "dict_items", data := .fields #[.ref d] } }) : wpAny (model PW w) A (call (.builtin "dict.items") [.ref d]) Q E s := by
  have hT : s.TypeIs (.ref d) "dict" := ⟨_, ho, rfl⟩
  have m : MeetsIn PW w (Builtin.«dict.items» ⟨[.ref d], []⟩) (fun _ R s => s.TypeIs (.ref d) "dict" ∧ R (.ok (.ret (.ref s.heap.objs.size))) { s with heap := s.heap.push { cls := .type "dict_items", data := .fields #[.ref d] } }) :=
    .of_wp fun A R s ⟨hT, h⟩ => by
      unfold Builtin.«dict.items» Builtin.Dict.noArgs
      refine wpAny_bind (wpAny_bind (wpAny_notOrdered_dict hT ?_))
      refine wpAny_pure ?_
      show wpAny _ _ (Builtin.Dict.showsAll d >>= _) _ _ s
      unfold Builtin.Dict.showsAll
      rw [if_neg (by rw [hd]; exact Bool.false_ne_true)]
      exact wpAny_bind (wpAny_pure (wpAny_bind (wpAny_newObj_type (wpAny_pure ⟨_, rfl, h⟩))))
  exact call_meetsIn PySem.F.slot_dict_items hT PySem.F.entry_dict_items (PySem.F.args_dict_items_1 _) m ⟨hT, h⟩
theorem iter_items {v : Addr} {Q : Value → Shared → Prop} (hv : s.heap.get? v = some { cls := .type "dict_items", data := .fields #[.ref d] }) (ho : s.heap.get? d = some (dictO es n))
    (h : Q (.ref s.heap.objs.size) { s with heap := s.heap.push (itO d .none 0 es.length n .none .none) }) : wpAny (model PW w) A (pyIter (.ref v)) Q E s := by
  have hT : s.TypeIs (.ref v) "dict_items" := ⟨_, hv, rfl⟩
  refine wpAny_pyIter_slot hT PySem.F.slot_dict_items_iter (wpAny_call_entry PySem.F.slot_dict_items_iter hT PySem.F.entry_dict_items_iter ?_ (PySem.F.args_dict_items_iter_1 _))
  unfold Builtin.«dict_items.__iter__» Builtin.Dict_items.dictOf Builtin.Dict_items.newIterator
  refine wpAny_bind (wpAny_pure (wpAny_bind (wpAny_bind (wpAny_field hv rfl (x := .ref d) rfl (wpAny_pure ?_)))))
  refine wpAny_bind (wpAny_bind (wpAny_dictEntries ho rfl (wpAny_bind (wpAny_dictEpoch ho rfl ?_))))
  have hown : Builtin.Dict_items.ownsTuple "dict_itemiterator" = true := by decide
  simp only [Bool.false_eq_true, if_false, hown, if_true]
  refine wpAny_newObj_type (wpAny_pure ⟨_, rfl, "dict_itemiterator", _, ⟨_, Heap.get?_push_size _ rfl, rfl⟩, PySem.F.slot_dict_itemiterator_next.lookup, ?_⟩) (by simp [sizeOk, Builtin.Dict_items.ownedTupleFields, sizeLine_eq])
  simpa [rawInt, Builtin.Dict_items.ownedTupleFields, itO] using h
theorem next_items {it : Addr} {i : Nat} {e : DictEntry} {a b : Value} {Q : Option Value → Shared → Prop} (hit : s.heap.get? it = some (itO d .none i es.length n a b)) (ho : s.heap.get? d = some (dictO es n)) (hx : es[i]? = some e)
    (h : ∀ h', h'.get? it = some (itO d (rawInt s.heap.objs.size) (i + 1) es.length n e.key e.val) → h'.get? s.heap.objs.size = some { cls := .type "tuple", data := .seq #[e.key, e.val] } → Heap.ExtBut it s.heap h' → Q (some (.ref s.heap.objs.size)) { s with heap := h' }) :
    wpAny (model PW w) A (pyNext (.ref it)) Q E s := by
  obtain ⟨hp, g, dr, tk, os⟩ := s
  have hT : Shared.TypeIs ⟨hp, g, dr, tk, os⟩ (.ref it) "dict_itemiterator" := ⟨_, hit, rfl⟩
  have hlt : i < es.length := (List.getElem?_eq_some_iff.mp hx).1
  have hex : es.toArray[i]? = some e := by simpa using hx
  unfold pyNext
  refine wpAny_bind (wpAny_attempt (wpAny_callSpecial?_slot (name := Str.ofString "__next__") hT PySem.F.slot_dict_itemiterator_next
    (wpAny_call_entry PySem.F.slot_dict_itemiterator_next hT PySem.F.entry_dict_itemiterator_next ?_ (PySem.F.args_dict_itemiterator_next_1 _))))
  refine wpAny_bind (wpAny_pure (wpAny_bind (wpAny_bind ?_)))
  first | refine wpAny_bind (wpAny_typeNameOfWhole_itemiter hT (wpAny_pure ?_)) | refine wpAny_bind (wpAny_typeNameOf_itemiter hT (wpAny_pure ?_))
  refine wpAny_bind (wpAny_fieldsOf hit rfl ?_)
  have hown : Builtin.Dict_items.ownsTuple "dict_itemiterator" = true := by decide
  simp only [hown, if_true]
  show wpAny _ _ (if (Value.ref d == Value.none) = true then _ else _) _ _ _
  rw [if_neg (show ¬ ((Value.ref d == Value.none) = true) from Bool.false_ne_true)]
  refine wpAny_bind (wpAny_pure (wpAny_bind (wpAny_dictEntries ho rfl ?_)))
  rw [if_neg (by simp)]
  refine wpAny_bind (wpAny_pure (wpAny_bind (wpAny_dictEpoch ho rfl ?_)))
  rw [if_neg (by simp)]
  refine wpAny_pure ?_
  simp only [show ¬ ((i : Int) < 0) from by omega, if_false, Int.toNat_natCast, hex]
  refine wpAny_bind ?_
  first | refine wpAny_bind (wpAny_typeNameOfWhole_itemiter hT (wpAny_pure ?_)) | refine wpAny_bind (wpAny_typeNameOf_itemiter hT (wpAny_pure ?_))
  refine wpAny_bind (wpAny_isOneOf_itemiter hT ?_)
  show wpAny _ _ (setField (.ref it) 3 (rawInt ((i : Int) + 1)) >>= _) _ _ ⟨hp, g, dr, tk, os⟩
  refine wpAny_bind (wpAny_setField_rec hit (by simp) fun h₁ he₁ hs₁ => ?_)
  replace hs₁ : Heap.SameBut it hp h₁ := hs₁
  replace he₁ : h₁.get? it = some (itO d .none (i + 1) es.length n a b) := by
    have q : ((i + 1 : Nat) : Int) = (i : Int) + 1 := by omega
    unfold itO; rw [q]; simpa [rawInt] using he₁
  have hT₁ : Shared.TypeIs ⟨h₁, g, dr, tk, os⟩ (.ref it) "dict_itemiterator" := ⟨_, he₁, rfl⟩
  refine wpAny_bind (wpAny_holding ?_)
  refine wpAny_bind (wpAny_isOneOf_itemiter hT₁ ?_)
  refine wpAny_bind (wpAny_isOneOf_itemiter hT₁ ?_)
  show wpAny _ _ (Builtin.Dict_items.pairFromOwner (.ref it) 6 e.key e.val) _ _ ⟨h₁, g, dr, tk, os⟩
  unfold Builtin.Dict_items.pairFromOwner
  refine wpAny_bind (wpAny_newTuple ?_)
  have hz₁ : h₁.objs.size = hp.objs.size := hs₁.1
  have hil : it < hp.objs.size := Heap.lt_size hit
  have nil : hp.objs.size ≠ it := Nat.ne_of_gt hil
  have he₂ : (h₁.push { cls := .type "tuple", data := .seq #[e.key, e.val] }).get? it = some (itO d .none (i + 1) es.length n a b) := Heap.get?_push_of_some _ he₁
  have ht₂ : (h₁.push { cls := .type "tuple", data := .seq #[e.key, e.val] }).get? hp.objs.size = some { cls := .type "tuple", data := .seq #[e.key, e.val] } := by rw [← hz₁]; exact Heap.get?_push_size _ rfl
  have hx₂ : Heap.ExtBut it hp (h₁.push { cls := .type "tuple", data := .seq #[e.key, e.val] }) := fun b o hb q => Heap.get?_push_of_some _ (hs₁.extBut b o hb q)
  show wpAny _ _ (Builtin.Dict_items.ownedTupleIsFree (.ref it) >>= _) _ _ ⟨h₁.push { cls := .type "tuple", data := .seq #[e.key, e.val] }, g, dr, tk, os⟩
  generalize h₁.push { cls := .type "tuple", data := .seq #[e.key, e.val] } = h₂ at he₂ ht₂ hx₂
  rw [hz₁]
  refine wpAny_bind ?_
  unfold Builtin.Dict_items.ownedTupleIsFree
  refine wpAny_bind (wpAny_field he₂ rfl (x := .none) rfl (wpAny_pure ?_))
  simp only [if_true]
  refine wpAny_bind (wpAny_field he₂ rfl (x := a) rfl ?_)
  refine wpAny_bind (wpAny_field he₂ rfl (x := b) rfl ?_)
  refine wpAny_bind (wpAny_setField_rec he₂ (by simp) fun h₃ he₃ hs₃ => ?_)
  replace hs₃ : Heap.SameBut it h₂ h₃ := hs₃
  replace he₃ : h₃.get? it = some (itO d .none (i + 1) es.length n e.key b) := he₃
  refine wpAny_bind (wpAny_setField_rec he₃ (by simp) fun h₄ he₄ hs₄ => ?_)
  replace hs₄ : Heap.SameBut it h₃ h₄ := hs₄
  replace he₄ : h₄.get? it = some (itO d .none (i + 1) es.length n e.key e.val) := he₄
  refine wpAny_bind (wpAny_setField_rec he₄ (by simp) fun h₅ he₅ hs₅ => ?_)
  replace hs₅ : Heap.SameBut it h₄ h₅ := hs₅
  replace he₅ : h₅.get? it = some (itO d (rawInt hp.objs.size) (i + 1) es.length n e.key e.val) := he₅
  refine wpAny_bind (wpAny_setField_rec he₅ (by simp) fun h₆ he₆ hs₆ => ?_)
  replace hs₆ : Heap.SameBut it h₅ h₆ := hs₆
  replace he₆ : h₆.get? it = some (itO d (rawInt hp.objs.size) (i + 1) es.length n e.key e.val) := he₆
  have all : Heap.ExtBut it h₂ h₆ := fun b o hb q => hs₆.extBut b o hb (hs₅.extBut b o hb (hs₄.extBut b o hb (hs₃.extBut b o hb q)))
  exact wpAny_bind (wpAny_letGo (wpAny_pure (wpAny_pure ⟨_, rfl, wpAny_pure (h h₆ he₆ (all _ _ nil ht₂) fun b o hb q => all b o hb (hx₂ b o hb q))⟩)))
theorem end_items {it : Addr} {i : Nat} {a b : Value} {Q : Option Value → Shared → Prop} (hh : A.handled = none) (hit : s.heap.get? it = some (itO d .none i es.length n a b)) (ho : s.heap.get? d = some (dictO es n)) (hx : es.length ≤ i)
    (h : ∀ h', Heap.ExtBut it s.heap h' → Q none { s with heap := h' }) : wpAny (model PW w) A (pyNext (.ref it)) Q E s := by
  have hT : s.TypeIs (.ref it) "dict_itemiterator" := ⟨_, hit, rfl⟩
  have hex : es.toArray[i]? = none := Array.getElem?_eq_none (by simpa using hx)
  unfold pyNext
  refine wpAny_bind (wpAny_attempt (wpAny_callSpecial?_slot (name := Str.ofString "__next__") hT PySem.F.slot_dict_itemiterator_next
    (wpAny_call_entry PySem.F.slot_dict_itemiterator_next hT PySem.F.entry_dict_itemiterator_next ?_ (PySem.F.args_dict_itemiterator_next_1 _))))
  refine wpAny_bind (wpAny_pure (wpAny_bind (wpAny_bind ?_)))
  first | refine wpAny_bind (wpAny_typeNameOfWhole_itemiter hT (wpAny_pure ?_)) | refine wpAny_bind (wpAny_typeNameOf_itemiter hT (wpAny_pure ?_))
  refine wpAny_bind (wpAny_fieldsOf hit rfl ?_)
  have hown : Builtin.Dict_items.ownsTuple "dict_itemiterator" = true := by decide
  simp only [hown, if_true]
  show wpAny _ _ (if (Value.ref d == Value.none) = true then _ else _) _ _ s
  rw [if_neg (show ¬ ((Value.ref d == Value.none) = true) from Bool.false_ne_true)]
  refine wpAny_bind (wpAny_pure (wpAny_bind (wpAny_dictEntries ho rfl ?_)))
  rw [if_neg (by simp)]
  refine wpAny_bind (wpAny_pure (wpAny_bind (wpAny_dictEpoch ho rfl ?_)))
  rw [if_neg (by simp)]
  refine wpAny_pure ?_
  simp only [show ¬ ((i : Int) < 0) from by omega, if_false, Int.toNat_natCast, hex]
  refine wpAny_bind ?_
  first | refine wpAny_bind (wpAny_typeNameOfWhole_itemiter hT (wpAny_pure ?_)) | refine wpAny_bind (wpAny_typeNameOf_itemiter hT (wpAny_pure ?_))
  show wpAny _ _ (setField (.ref it) 2 .none >>= _) _ _ s
  refine wpAny_bind (wpAny_setField hit rfl (by simp) ?_)
  show wpAny _ _ (newExc (.type "StopIteration") [] >>= _) _ _ _
  refine wpAny_bind ?_
  simp only [newExc, newTuple]
  refine wpAny_bind (wpAny_newObj_type ?_ (by size_fits))
  refine wpAny_bind (m := firstArgMember _ _) (wpAny_of_eq (a := Value.none) (by first | rfl | (simp only [firstArgMember]; rfl)) ?_)
  refine wpAny_newObj_type ?_ (by size_fits)
  simp only [raiseNew]
  refine wpAny_bind (wpAny_handled ?_)
  rw [show A.in1.handled = none from hh]
  refine wpAny_bind (wpAny_pure (wpAny_throw ?_))
  refine wpAny_bind (wpAny_isInstance (T := "StopIteration") (b := true) ⟨_, Heap.get?_push_size _ rfl, rfl⟩ isSubtype_stop ?_)
  exact wpAny_pure (h _ (((Heap.SameBut.update ..).extBut.push _).push _))
end
theorem Rm.in1 {A : Around} {d u : Nat} (r : Rm A d (u + 1)) : Rm A.in1 d u := ⟨r.hd, r.dp, by have := r.un; show A.units + 1 + u ≤ 500; omega⟩
theorem Rm.cl {A : Around} {d u : Nat} (r : Rm A d u) : A.units < cLine := by have := r.units; omega
section
variable {M : Model} {A : Around} {E : Value → Shared → Prop} {s : Shared} {K : Frag} {x C : Addr} {ox : Obj} {od : Option Obj}
theorem ifBound_B {name : Str} {args : List Value} {Q : Option Value → Shared → Prop} {fv : Value} (X : K.In s.heap) (I : InstAt s.heap x ox C od) (hs : findIn K (.ref C) name = some (some fv)) (hbs : Looks M s.heap (bindSpecial fv (.ref x)) (fv, [.ref x]))
    (h : wpAny M A (call fv (.ref x :: args)) (fun v => Q (some v)) E s) : wpAny M A (callSpecialIfBound? (.ref x) name args) Q E s := by
  simp only [callSpecialIfBound?, bindSpecialIfBound?]
  refine wpAny_holding (wpAny_bind (wpAny_bind (wpAny_bind (I.type.here ((looks_findIn X hs).here ?_)))))
  refine wpAny_bind (wpAny_askSetting (wpAny_ite ?_))
  have fin : wpAny M A (call fv ([.ref x] ++ args) >>= fun v => pure (some v)) Q E s := wpAny_bind (wpAny_mono h (fun v s' h' => wpAny_pure h') fun _ _ h' => h')
  split
  · exact wpAny_bind (hbs.here (wpAny_pure (by exact fin)))
  · exact wpAny_tryCatch (wpAny_bind (hbs.here (wpAny_pure (by exact fin))))
theorem rcEq_B {Q : Value → Shared → Prop} {fv : Value} {y : Addr} {oy : Obj} {od' : Option Obj} (hu : A.units < cLine) (X : K.In s.heap) (I : InstAt s.heap x ox C od) (J : InstAt s.heap y oy C od')
    (hs : findIn K (.ref C) "__eq__" = some (some fv)) (hbs : Looks M s.heap (bindSpecial fv (.ref x)) (fv, [.ref x]))
    (h : wpAny M A (call fv [.ref x, .ref y]) (W.CmpBack Q) E s) : wpAny M A (richCompare .Eq (.ref x) (.ref y)) Q E s := by
  have one : wpAny M A (tryCompare (.ref x) (cmpInfo .Eq).2.1 (.ref y)) (fun r s' => ∃ v, r = some v ∧ Q v s') E s := by
    unfold tryCompare
    refine wpAny_bind (ifBound_B X I hs hbs (wpAny_mono h (fun v s' hv => ?_) fun _ _ e => e))
    cases v <;> first | exact hv.elim | exact wpAny_pure ⟨_, rfl, hv⟩
  unfold richCompare
  simp only [oneThing_ref]
  refine wpAny_holding (wpAny_bind (wpAny_cRoomFor hu ?_))
  refine wpAny_bind (I.type.here (wpAny_bind (J.type.here ?_)))
  split
  · rename_i q
    simp at q
  · refine wpAny_bind (wpAny_pure ?_)
    simp only [Bool.false_eq_true, if_false]
    refine wpAny_bind (wpAny_mono one (fun r s' z => ?_) fun _ _ e => e)
    obtain ⟨v, rfl, hq⟩ := z
    exact wpAny_pure hq
end
set_option hygiene false in
local macro_rules | `(tactic| x_close) => `(tactic| exact hc)
theorem x_heq01 {w : World} {s : Shared} {E} {Q : Value → Shared → Prop} {t1 t2 t3 u1 u2 u3 : Tok} {a b da db : Addr} (X : Frag.In (Mine.hd.heap_39 w.params) s.heap) 
   (ha : s.heap.get? a = some ⟨.ref 884, some da, .seq #[.str (Str.ofString "a") t1, .str (Str.ofString "d") t2, .str (Str.ofString "r") t3] 0, #[]⟩)
   (hb : s.heap.get? b = some ⟨.ref 884, some db, .seq #[.str (Str.ofString "b") u1, .str (Str.ofString "d") u2, .str (Str.ofString "r") u3] 0, #[]⟩)
   (hc : Q (.bool false) s) : wpAny (model PW w) A0 (call (.builtin "tuple.__eq__") [.ref a, .ref b]) Q E s := by
  x_run
theorem x_heq02 {w : World} {s : Shared} {E} {Q : Value → Shared → Prop} {t1 t2 t3 u1 u2 u3 : Tok} {a b da db : Addr} (X : Frag.In (Mine.hd.heap_39 w.params) s.heap) 
   (ha : s.heap.get? a = some ⟨.ref 884, some da, .seq #[.str (Str.ofString "a") t1, .str (Str.ofString "d") t2, .str (Str.ofString "r") t3] 0, #[]⟩)
   (hb : s.heap.get? b = some ⟨.ref 884, some db, .seq #[.str (Str.ofString "c") u1, .str (Str.ofString "d") u2, .str (Str.ofString "r") u3] 0, #[]⟩)
   (hc : Q (.bool false) s) : wpAny (model PW w) A0 (call (.builtin "tuple.__eq__") [.ref a, .ref b]) Q E s := by
  x_run
theorem x_heq10 {w : World} {s : Shared} {E} {Q : Value → Shared → Prop} {t1 t2 t3 u1 u2 u3 : Tok} {a b da db : Addr} (X : Frag.In (Mine.hd.heap_39 w.params) s.heap) 
   (ha : s.heap.get? a = some ⟨.ref 884, some da, .seq #[.str (Str.ofString "b") t1, .str (Str.ofString "d") t2, .str (Str.ofString "r") t3] 0, #[]⟩)
   (hb : s.heap.get? b = some ⟨.ref 884, some db, .seq #[.str (Str.ofString "a") u1, .str (Str.ofString "d") u2, .str (Str.ofString "r") u3] 0, #[]⟩)
   (hc : Q (.bool false) s) : wpAny (model PW w) A0 (call (.builtin "tuple.__eq__") [.ref a, .ref b]) Q E s := by
  x_run
theorem x_heq12 {w : World} {s : Shared} {E} {Q : Value → Shared → Prop} {t1 t2 t3 u1 u2 u3 : Tok} {a b da db : Addr} (X : Frag.In (Mine.hd.heap_39 w.params) s.heap) 
   (ha : s.heap.get? a = some ⟨.ref 884, some da, .seq #[.str (Str.ofString "b") t1, .str (Str.ofString "d") t2, .str (Str.ofString "r") t3] 0, #[]⟩)
   (hb : s.heap.get? b = some ⟨.ref 884, some db, .seq #[.str (Str.ofString "c") u1, .str (Str.ofString "d") u2, .str (Str.ofString "r") u3] 0, #[]⟩)
   (hc : Q (.bool false) s) : wpAny (model PW w) A0 (call (.builtin "tuple.__eq__") [.ref a, .ref b]) Q E s := by
  x_run
theorem x_heq20 {w : World} {s : Shared} {E} {Q : Value → Shared → Prop} {t1 t2 t3 u1 u2 u3 : Tok} {a b da db : Addr} (X : Frag.In (Mine.hd.heap_39 w.params) s.heap) 
   (ha : s.heap.get? a = some ⟨.ref 884, some da, .seq #[.str (Str.ofString "c") t1, .str (Str.ofString "d") t2, .str (Str.ofString "r") t3] 0, #[]⟩)
   (hb : s.heap.get? b = some ⟨.ref 884, some db, .seq #[.str (Str.ofString "a") u1, .str (Str.ofString "d") u2, .str (Str.ofString "r") u3] 0, #[]⟩)
   (hc : Q (.bool false) s) : wpAny (model PW w) A0 (call (.builtin "tuple.__eq__") [.ref a, .ref b]) Q E s := by
  x_run
theorem x_heq21 {w : World} {s : Shared} {E} {Q : Value → Shared → Prop} {t1 t2 t3 u1 u2 u3 : Tok} {a b da db : Addr} (X : Frag.In (Mine.hd.heap_39 w.params) s.heap) 
   (ha : s.heap.get? a = some ⟨.ref 884, some da, .seq #[.str (Str.ofString "c") t1, .str (Str.ofString "d") t2, .str (Str.ofString "r") t3] 0, #[]⟩)
   (hb : s.heap.get? b = some ⟨.ref 884, some db, .seq #[.str (Str.ofString "b") u1, .str (Str.ofString "d") u2, .str (Str.ofString "r") u3] 0, #[]⟩)
   (hc : Q (.bool false) s) : wpAny (model PW w) A0 (call (.builtin "tuple.__eq__") [.ref a, .ref b]) Q E s := by
  x_run
theorem x_heq {w : World} {s : Shared} {E} {Q : Value → Shared → Prop} {i j : Nat} {t1 t2 t3 u1 u2 u3 : Tok} {a b da db : Addr} (X : Frag.In (Mine.hd.heap_39 w.params) s.heap) (hi : i < 3) (hj : j < 3) (hij : i ≠ j)
   (ha : s.heap.get? a = some (hostO (nm i) t1 t2 t3 da)) (hb : s.heap.get? b = some (hostO (nm j) u1 u2 u3 db))
   (hc : Q (.bool false) s) : wpAny (model PW w) A0 (call (.builtin "tuple.__eq__") [.ref a, .ref b]) Q E s := by
  match i, j, hi, hj, hij, ha, hb with
  | 0, 1, _, _, _, ha, hb => exact x_heq01 X ha hb hc
  | 0, 2, _, _, _, ha, hb => exact x_heq02 X ha hb hc
  | 1, 0, _, _, _, ha, hb => exact x_heq10 X ha hb hc
  | 1, 2, _, _, _, ha, hb => exact x_heq12 X ha hb hc
  | 2, 0, _, _, _, ha, hb => exact x_heq20 X ha hb hc
  | 2, 1, _, _, _, ha, hb => exact x_heq21 X ha hb hc
  | 0, 0, _, _, h, _, _ | 1, 1, _, _, h, _, _ | 2, 2, _, _, h, _, _ => exact absurd rfl h
theorem host_eq {w : World} {A : Around} {s : Shared} {a b : Addr} {i j : Nat} {d u : Nat} (r : Rm A d u) (X : Frag.In (Mine.hd.heap_39 w.params) s.heap) (ha : Hs s.heap a i) (hb : Hs s.heap b j) (hi : i < 3) (hj : j < 3) (hab : i = j → a = b) {Q : Bool → Shared → Prop} {E : Value → Shared → Prop} (h : Q (decide (i = j)) s) :
    wpAny (model PW w) A (eqBool (.ref a) (.ref b)) Q E s := by
  obtain ⟨t1, t2, t3, da, ha, hda⟩ := ha
  obtain ⟨u1, u2, u3, db, hb, hdb⟩ := hb
  unfold eqBool
  refine wpAny_holding ?_
  refine wpAny_ite_split (fun hh => ?_) (fun hh => ?_)
  · have e : a = b := by have := eq_of_beq hh; injection this
    subst e
    rw [ha] at hb
    have : nm i = nm j := by injection hb with hb; injection hb with _ _ hb _; injection hb with hb; injection hb with hb; injection hb with hb; injection hb
    have e := nm_inj this
    subst e
    refine wpAny_bind (wpAny_rule (wpAny_pure ?_))
    simpa using h
  · have ne : i ≠ j := fun e => hh (by rw [hab e]; exact beq_self_eq_true _)
    rw [decide_eq_false ne] at h
    refine wpAny_bind (rcEq_B r.cl X (C := 884) (ox := hostO (nm i) t1 t2 t3 da) (od := some _) (oy := hostO (nm j) u1 u2 u3 db) (od' := some _) ⟨ha, rfl, rfl, hda⟩ ⟨hb, rfl, rfl, hdb⟩ (fv := .builtin "tuple.__eq__") (by k_is) ?_ (r.weak (x_heq X hi hj ne ha hb ?_)))
    · exact Looks.of_pure (PySem.F.slot_tuple_eq.bind _)
    · exact wpAny_truthy_bool h
def HsAll (g : Heap) : List Value → List Nat → Prop
  | [], [] => True
  | v :: vs, k :: ks => (∃ a, v = .ref a ∧ Hs g a k) ∧ HsAll g vs ks
  | _, _ => False
theorem HsAll.keeps {g h : Heap} (k : Sub g h) : ∀ {vs ks}, HsAll g vs ks → HsAll h vs ks
  | [], [], _ => trivial
  | _ :: _, _ :: _, ⟨⟨a, e, x⟩, y⟩ => ⟨⟨a, e, x.keeps k⟩, y.keeps k⟩
theorem HsAll.snoc {g : Heap} {a k} (x : Hs g a k) : ∀ {vs ks}, HsAll g vs ks → HsAll g (vs ++ [.ref a]) (ks ++ [k])
  | [], [], _ => ⟨⟨a, rfl, x⟩, trivial⟩
  | _ :: _, _ :: _, ⟨e, y⟩ => ⟨e, y.snoc x⟩
theorem HsAll.len {g : Heap} : ∀ {vs ks}, HsAll g vs ks → vs.length = ks.length
  | [], [], _ => rfl
  | _ :: _, _ :: _, ⟨_, y⟩ => by simp [y.len]
theorem hs_loop {w : World} {l : Addr} {its : Array Value} {n : Nat} {x : Addr} {j : Nat} (k : Nat) :
    ∀ i : Nat, its.size - i = k → ∀ ks, MeetsIn PW w (Builtin.«list.__contains__.loop» ⟨[.ref l, .ref x, rawInt i], []⟩)
      (fun A R s => s.heap.get? l = some (listOf its n) ∧ Rm A 0 10 ∧ Frag.In (Mine.hd.heap_39 w.params) s.heap ∧ HsAll s.heap (its.toList.drop i) ks ∧ Hs s.heap x j ∧ j < 3 ∧ (∀ k ∈ ks, k < 3) ∧ (∀ v ∈ its.toList.drop i, ∀ a, v = .ref a → Hs s.heap a j → a = x) ∧ R (.ok (.ret (.bool (decide (j ∈ ks))))) s) := by
  induction k with
  | zero =>
    intro i hk ks A R s h
    obtain ⟨hp, g, d, tk, os⟩ := s
    obtain ⟨hl, r, X, ha, hx, hj, hks, hu, h⟩ := h
    wp_walk using wpAny_loadPart' hl
    have hi : its[((i : Nat) : Int).toNat]? = none := by simp; omega
    have hd : its.toList.drop i = [] := by simp; omega
    rw [hd] at ha
    rw [hi]
    wp_walk
    cases ks with
    | nil => exact h
    | cons _ _ => exact ha.elim
  | succ k ih =>
    intro i hk ks A R s h
    obtain ⟨hp, g, d, tk, os⟩ := s
    obtain ⟨hl, r, X, ha, hx, hj, hks, hu, h⟩ := h
    wp_walk using wpAny_loadPart' hl
    have hlt : i < its.size := by omega
    have hi : its[((i : Nat) : Int).toNat]? = some its[i] := by simp [hlt]
    have hd : its.toList.drop i = its[i] :: its.toList.drop (i + 1) := by simp [List.drop_eq_getElem_cons, hlt]
    rw [hd] at ha hu
    rw [hi]
    cases ks with
    | nil => exact ha.elim
    | cons k0 ks =>
    obtain ⟨⟨a, e, hs⟩, ha⟩ := ha
    rw [e]
    refine wpAny_bind (host_eq (r.in1 (u := 9)) X hs hx (hks _ (.head _)) hj (fun q => hu _ (.head _) a e (q ▸ hs)) ?_)
    by_cases q : k0 = j
    · rw [decide_eq_true q]
      rw [decide_eq_true (show j ∈ k0 :: ks from q ▸ .head _)] at h
      wp_walk
      exact h
    · rw [decide_eq_false q]
      have hc : ((i : Int) + 1) = ((i + 1 : Nat) : Int) := by push_cast; rfl
      wp_walk
      rw [hc]
      refine ⟨plainId_quiet MeetsSeq.plain_contains_loop _, codeAny_builtin MeetsSeq.entry_contains_loop ?_⟩
      rw [Around.under_plainId MeetsSeq.plain_contains_loop _]
      refine ih (i + 1) (by omega) ks A R _ ⟨hl, r, X, ha, hx, hj, fun k hk => hks k (.tail _ hk), fun v hv => hu v (.tail _ hv), ?_⟩
      have : decide (j ∈ k0 :: ks) = decide (j ∈ ks) := by simp [Ne.symm q]
      rw [← this]; exact h
set_option hygiene false in
local macro_rules | `(tactic| x_close) => `(tactic| exact hc (ext_of D) (D.nw (_, _) (by k_mem)))
theorem x_list0 {w : World} {s : Shared} {E} {Q : Value → Shared → Prop} (X : Frag.In (Mine.hd.heap_39 w.params) s.heap) 
   (hc : ∀ {l h' tk'}, Sub s.heap h' → (h'.get? l = some (listOf #[] 0) ∧ s.heap.get? l = none) → Q (.ref l) ⟨h', s.gens, s.drawn, tk', s.os⟩) : wpAny (model PW w) A0 (call (.type "list") [] []) Q E s := by
  x_run
theorem q_list0 {w : World} {W : List Addr} {g0 g : Heap} {s0 s : Shared} {L : Addr} {ms : List (Addr × Obj)} {m : Str → Option Value} {A : Around} {E : Value → Shared → Prop} {Q : Value → Shared → Prop} {d u : Nat} (r : Rm A d u) (F : Fm w W g0 s0 L ms g s m)
    (h : ∀ l g' s', Sub g g' → Fm w W g0 s0 L ((l, listOf #[] 0) :: ms) g' s' m → s0.heap.get? l = none → Q (.ref l) s') : wpAny (model PW w) A (call (.type "list") [] []) Q E s := by
  refine r.weak (x_list0 F.X fun {l h' tk'} hs hn => ?_)
  obtain ⟨g', hs', F', ha, _⟩ := F.extM (tk := tk') hs [(l, listOf #[] 0)] (by simpa using hn) (by simp)
  exact h l g' _ hs' F' (ha _ (.head _))
section
variable {w : World} {W : List Addr} {g0 g : Heap} {s0 s : Shared} {C : Addr} {ms : List (Addr × Obj)} {m : Str → Option Value} {A : Around} {E : Value → Shared → Prop}
theorem e_bind {env : Env} {L : Addr} {x : Str} {v : Value} {Q : Unit → Shared → Prop} (ea : EnvAt env L) (F : Fm w W g0 s0 L ms g s m) (h : ∀ s', Fm w W g0 s0 L ms g s' (fun y => if y = x then some v else m y) → Q () s')
    (hl : env.kindOf x = some .local) : wpAny (model PW w) A (bindName env x v) Q E s := by
  unfold bindName
  refine wpAny_bind (wpAny_holding (wpAny_point (wpAny_bind ?_)))
  exact e_st ea F (fun s' F' => wpAny_point (h s' F')) hl
theorem comp_items {I l d : Addr} {es : List DictEntry} {nd : Nat} {a b : Value} {elt iter : Expr} {scope : Scope} {pos : Pos} {x y : Str} {px py tp : Pos} {kk : Nat} {env : Env} {R : Result → Shared → Prop}
    (J : Nat → Array Value → Heap → (Str → Option Value) → Prop) (hh : A.handled = none)
    (F : Fm w W g0 s0 C [(l, listOf #[] 0), (I, itO d .none 0 es.length nd a b)] g s m) (hd : g.get? d = some (dictO es nd)) (hn : s0.heap.get? I = none) (h0 : J 0 #[] g m) (hz : es.length ≤ 100) (hJz : ∀ i xs g m, J i xs g m → xs.size ≤ i)
    (ea : EnvAt env C) (hlx : env.kindOf x = some .local) (hly : env.kindOf y = some .local)
    (turn : ∀ i xs k g1 s1 m' e oi, es[i]? = some e → Sub g g1 → J i xs g1 m' →
      Fm w W g0 s0 C [(l, listOf xs k), (I, oi)] g1 s1 (fun z => if z = y then some e.val else if z = x then some e.key else m' z) →
      wpAny (model PW w) A (eval elt env) (fun v s₅ => ∃ g3 m3, Sub g1 g3 ∧ Fm w W g0 s0 C [(l, listOf xs k), (I, oi)] g3 s₅ m3 ∧ J (i + 1) (xs.push v) g3 m3) NE s1)
    (hmono : ∀ i xs g1 g2 m', Sub g1 g2 → J i xs g1 m' → J i xs g2 m')
    (done : ∀ xs k g1 s1 m', Sub g g1 → J es.length xs g1 m' → Fm w W g0 s0 C [(l, listOf xs k)] g1 s1 m' → R (.ok .next) s1) :
    codeAny (model PW w) A (.compLoop (.ListComp elt [⟨.Tuple [.Name x px, .Name y py] kk tp, iter, [], 0⟩] scope pos) 0 (.ref I) (.ref l) env) R s := by
  refine comp_loop (fun k s1 => ∃ i xs kk g1 m' a b, i ≤ es.length ∧ k = es.length - i ∧ Sub g g1 ∧ J i xs g1 m' ∧ Fm w W g0 s0 C [(l, listOf xs kk), (I, itO d .none i es.length nd a b)] g1 s1 m') ?_ es.length ⟨0, #[], 0, g, m, a, b, Nat.zero_le _, rfl, Sub.refl _, h0, F⟩
  rintro k s1 ⟨i, xs, kk, g1, m', a, b, hi, rfl, hs, hJ, F1⟩
  have F1' := F1.perm (ms' := [(I, itO d .none i es.length nd a b), (l, listOf xs kk)]) (List.Perm.swap _ _ _)
  have hI := F1'.turnable (.head _)
  have hdd := F1.get (hs _ _ hd)
  by_cases hlt : i < es.length
  · have hx : es[i]? = some es[i] := List.getElem?_eq_getElem hlt
    refine next_items hI hdd hx fun h' h1 h2 h3 => ?_
    obtain ⟨g2, hs2, F2, hnew⟩ := F1'.turnE (tk := s1.toks) h3 h1
    have htp := hnew _ _ h2 F1.fresh
    refine wpAny_letOwnedTupleGo_items (i := i + 1) (n := es.length) (ep := nd) (F2.turnable (.head _)) fun h'' h4 h5 => ?_
    have F3 := F2.turn (tk := s1.toks) h5 h4
    have F3' := F3.perm (ms' := [(l, listOf xs kk), (I, itO d .none (i + 1) es.length nd es[i].key es[i].val)]) (List.Perm.swap _ _ _)
    refine q_assignTup (items := [es[i].key, es[i].val]) hh F3' ⟨_, F3.get htp, rfl, _, rfl⟩ rfl rfl fun g4 s4 hs4 F4 => ?_
    show wpAny (model PW w) A (assignInOrder [assign (.Name x px) env, assign (.Name y py) env] [es[i].key, es[i].val]) _ _ s4
    refine assignInOrder_cons (wpAny_assign_Name (e_st ea F4 (fun s5 F5 => ?_) hlx))
    refine assignInOrder_cons (wpAny_assign_Name (e_st ea F5 (fun s6 F6 => assignInOrder_nil ?_) hly))
    refine wpAny_tests_nil ?_
    rw [if_pos rfl]
    refine wpAny_mono (turn i xs kk g4 s6 m' es[i] _ hx ((hs.trans hs2).trans hs4) (hmono _ _ _ _ _ (hs2.trans hs4) hJ) F6) (fun v s7 h7 => ?_) fun _ _ q => q.elim
    obtain ⟨g5, m5, hs5, F7, hJ5⟩ := h7
    have := hJz _ _ _ _ hJ
    exact q_append F7 (by omega) fun s8 F8 => ⟨es.length - (i + 1), by omega, i + 1, _, _, g5, m5, _, _, hlt, rfl, ((hs.trans hs2).trans hs4).trans hs5, hJ5, F8⟩
  · obtain rfl : i = es.length := by omega
    refine end_items hh hI hdd (Nat.le_refl _) fun h' hx => ?_
    exact done xs kk g1 _ m' hs hJ (F1'.lost (tk := s1.toks) hx hn)
theorem self_iter {I : Addr} {o : Obj} {T id : String} {f : Value} {P : Value → Shared → Prop} (slot : Slot T "__iter__" id) (ent : entryFor table id = some Builtin.«dict_keyiterator.__iter__») (ha : argsOk id ⟨[.ref I], []⟩) (nx : typeLookup (.type T) "__next__" = pure (some f))
    (hI : s.heap.get? I = some o) (hc : o.cls = .type T) (h : P (.ref I) s) : wpAny (model PW w) A (pyIter (.ref I)) P E s := by
  have hT : s.TypeIs (.ref I) T := ⟨_, hI, hc⟩
  refine wpAny_pyIter_slot hT slot (wpAny_call_entry slot hT ent ?_ ha)
  show wpAny _ _ (ret (.ref I)) _ _ s
  exact wpAny_pure ⟨_, rfl, T, _, hT, nx, h⟩
theorem self_items {I : Addr} {o : Obj} {P : Value → Shared → Prop} (hI : s.heap.get? I = some o) (hc : o.cls = .type "dict_itemiterator") (h : P (.ref I) s) : wpAny (model PW w) A (pyIter (.ref I)) P E s :=
  self_iter PySem.F.slot_dict_itemiterator_iter (entryFor_alias (id' := "dict_keyiterator.__iter__") (by kernel_rfl) (by first | rfl | decide +kernel) (by decide +kernel) (by kernel_rfl)) (PySem.F.args_dict_itemiterator_iter_1 _) PySem.F.slot_dict_itemiterator_next.lookup hI hc h
theorem self_list {I : Addr} {o : Obj} {P : Value → Shared → Prop} (hI : s.heap.get? I = some o) (hc : o.cls = .type "list_iterator") (h : P (.ref I) s) : wpAny (model PW w) A (pyIter (.ref I)) P E s :=
  self_iter slot_listiter_iter entry_listiter_iter (args_listiter_iter _) slot_listiter_next.lookup hI hc h
theorem self_range {I : Addr} {o : Obj} {P : Value → Shared → Prop} (hI : s.heap.get? I = some o) (hc : o.cls = .type "range_iterator") (h : P (.ref I) s) : wpAny (model PW w) A (pyIter (.ref I)) P E s :=
  self_iter PySem.F.slot_range_iterator_iter PySem.F.entry_range_iterator_iter (PySem.F.args_range_iterator_iter_1 _) PySem.F.slot_range_iterator_next.lookup hI hc h
end
section
variable {w : World} {A : Around} {E : Value → Shared → Prop} {s : Shared} {K : Frag} {x C : Addr} {ox : Obj} {od : Option Obj}
theorem call_subB {id owner n : String} {b : Builtin} {rest : List Value} {Q : Value → Shared → Prop} (hkd : builtinKind id = some .slot) (hsp : splitId id = some (owner, n)) (hpl : plainId id = true) (hb : entryFor table id = some b)
    (X : K.In s.heap) (I : InstAt s.heap x ox C od) (hsub : subIn K (.ref C) (.type owner) = some true) (ha : argsOk id ⟨.ref x :: rest, []⟩)
    (hc : wpAny (model PW w) A.in1 (b ⟨.ref x :: rest, []⟩) (fun fin s' => ∃ v, fin = .done (.ret v) ∧ Q v s') E s) : wpAny (model PW w) A (call (.builtin id) (.ref x :: rest)) Q E s := by
  have chk : ∀ (A' : Around) (Q' : Unit → Shared → Prop) (E' : Value → Shared → Prop), Q' () s → wpAny (model PW w) A' (checkBuiltinCall id ⟨.ref x :: rest, []⟩) Q' E' s := by
    intro A' Q' E' hq
    simp only [checkBuiltinCall, hkd, hsp]
    refine wpAny_bind (wpAny_bind (I.type.here ((looks_subIn X hsub).here ?_)))
    simp only [Bool.not_true, Bool.false_eq_true, if_false]
    cases hsig : Manifest.signature? id with
    | none => exact wpAny_pure hq
    | some sig =>
      simp only [argsOk, hsig] at ha
      have h2 : Bind.checkArgs id sig ⟨.ref x :: rest, []⟩ = pure () := ha
      show wpAny _ _ (Bind.checkArgs id sig ⟨.ref x :: rest, []⟩) _ _ s
      rw [h2]; exact wpAny_pure hq
  refine wpAny_call (codeAny_call_builtin hpl hb (chk _ _ _ (wpAny_mono hc (fun fin s' h' => ?_) fun _ _ h' => h')))
  obtain ⟨v, rfl, hv⟩ := h'; exact hv
end
section
variable {w : World} {A : Around} {E : Value → Shared → Prop} {s : Shared} {K : Frag} {x C : Addr} {ox : Obj} {od : Option Obj} {name : Str} {expr : Bool}
theorem get_tup {g a : Value} {Q : Value → Shared → Prop} (X : K.In s.heap) (I : InstAt s.heap x ox C od) (hga : findIn K (.ref C) "__getattribute__" = some (some (.builtin "tuple.__getattribute__")))
    (hk : findIn K (.ref C) "__getattr__" = some none) (hsub : subIn K (.ref C) (.type "tuple") = some true) (hf : findObj K C od name = some (.bind g a))
    (h : wpAny (model PW w) A.in1 (call g [a, .ref x, .ref C]) (fun v s' => handedIn v = true ∧ Q v s') NE { s with toks := s.toks + 1 }) : wpAny (model PW w) A (getAttr (.ref x) name expr) Q E s := by
  obtain ⟨hh', gg, d, t, os⟩ := s
  have L0 := I.type (M := model PW w)
  have L1 := looks_findIn (M := model PW w) X hga
  have L2 := looks_findIn (M := model PW w) X hk
  have L3 := looks_find (M := model PW w) X I hf
  unfold getAttr getAttrBy
  refine wpAny_bind (wpAny_mkText (wpAny_holding (wpAny_bind (L0.at (wpAny_bind (L1.at ?_))))))
  show wpAny _ _ (getAttrByItsOwn _ _ _ _ _ _) _ _ _
  unfold getAttrByItsOwn
  refine wpAny_bind (L2.at (wpAny_bind (wpAny_attempt (wpAny_holding ?_))))
  have e1 : callGetattribute (.ref x) (.str name t) (.builtin "tuple.__getattribute__") expr = boundAndCalled (.builtin "tuple.__getattribute__") (.ref x) (.str name t) := by
    unfold callGetattribute
    rw [if_neg (by simp [onTheHeap])]
  rw [e1]
  unfold boundAndCalled
  refine wpAny_bind (wpAny_of_eq (PySem.F.slot_tuple_getattribute.bind _) ?_)
  refine call_subB (owner := "tuple") (n := "__getattribute__") (by decide +kernel) (by decide +kernel) PySem.F.slot_tuple_getattribute.plain PySem.F.entry_tuple_ga X I hsub (PySem.F.args_tuple_getattribute_2 _ _) ?_
  unfold Builtin.«object.__getattribute__»
  refine wpAny_bind (m := slotArgs "__getattribute__" 1 _) (wpAny_pure ?_)
  refine wpAny_bind (wpAny_pure (wpAny_bind (L0.at (wpAny_bind (L3.at ?_)))))
  show wpAny _ _ (holding [a] (call g [a, .ref x, .ref C]) >>= ret) _ _ _
  refine wpAny_bind (wpAny_holding (wpAny_mono h (fun v s' z => wpAny_pure ⟨v, rfl, ?_⟩) fun _ _ z => z.elim))
  show wpAny _ _ (handedOut v) _ _ _
  rw [handedOut_of z.1]; exact wpAny_pure z.2
end
def New (h h' : Heap) (a : Addr) (o : Obj) : Prop := h'.get? a = some o ∧ h.get? a = none
theorem nwOf {h h' : Heap} {news : List (Addr × Obj)} (D : Mem h h' [] news) {a : Addr} {o : Obj} (m : (a, o) ∈ news) : New h h' a o := D.nw (a, o) m
set_option hygiene false in
local macro_rules | `(tactic| x_close) => `(tactic| exact hc (ext_of D) (nwOf D (by k_mem)) (nwOf D (by k_mem)))
theorem x_host {w : World} {s : Shared} {E} {Q : Value → Shared → Prop} {word : Str} {t1 t2 t3 : Tok} (X : Frag.In (Mine.hd.heap_39 w.params) s.heap) 
   (hc : ∀ {a dd h' tk'}, Sub s.heap h' → New s.heap h' a (hostO word t1 t2 t3 dd) → New s.heap h' dd emptyD → Q (.ref a) ⟨h', s.gens, s.drawn, tk', s.os⟩) : wpAny (model PW w) A0 (call (.ref 884) [.str word t1, .str (Str.ofString "d") t2, .str (Str.ofString "r") t3] []) Q E s := by
  x_run
set_option hygiene false in
local macro_rules | `(tactic| x_close) => `(tactic| exact hc (ext_of D) (nwOf D (by k_mem)) (nwOf D (by k_mem)) (nwOf D (by k_mem)))

theorem x_meta {w : World} {s : Shared} {E} {Q : Value → Shared → Prop} (X : Frag.In (Mine.hd.heap_39 w.params) s.heap) 
   (hc : ∀ {a dM sp d3 h' tk' u1 u2 u3 t1 t2 t3 n}, Sub s.heap h' → New s.heap h' a (instO 159 dM) → New s.heap h' dM (dictO [en u1 w_keyspaces t1 (.ref sp), en u2 w_dbaas t2 (.bool false), en u3 w__hosts t3 (.ref d3)] n) → New s.heap h' sp emptyD → Q (.ref a) ⟨h', s.gens, s.drawn, tk', s.os⟩) : wpAny (model PW w) A0 (call (.ref 159) [] []) Q E s := by
  x_run
theorem x_tm {w : World} {s : Shared} {E} {Q : Value → Shared → Prop} {a b c : Addr} (X : Frag.In (Mine.hd.heap_39 w.params) s.heap) 
   (hc : ∀ {T dT H h' tk' u1 u2 u3 u4 u5 t1 t2 t3 t4 t5 n}, Sub s.heap h' → New s.heap h' T (instO 531 dT) → New s.heap h' dT (dictO [en u1 w_token_class t1 (.ref 768), en u2 w_ring t2 (.ref b), en u3 w_token_to_host_owner t3 (.ref a), en u4 w_tokens_to_hosts_by_ks t4 (.ref H), en u5 w__metadata t5 (.ref c)] n) → New s.heap h' H emptyD → Q (.ref T) ⟨h', s.gens, s.drawn, tk', s.os⟩) : wpAny (model PW w) A0 (call (.ref 531) [.ref 768, .ref a, .ref b, .ref c] []) Q E s := by
  x_run
set_option hygiene false in
local macro_rules | `(tactic| x_close) => `(tactic| exact hc (ext_of D) (nwOf D (by k_mem)) (nwOf D (by k_mem)))
theorem x_tok {w : World} {s : Shared} {E} {Q : Value → Shared → Prop} {v : Int} {t : Tok} (X : Frag.In (Mine.hd.heap_39 w.params) s.heap) 
   (hc : ∀ {a d h' tk' u1 t1 t2 n}, Sub s.heap h' → New s.heap h' a (instO 768 d) → New s.heap h' d (dictO [en u1 w_value t1 (.int v t2)] n) →  Q (.ref a) ⟨h', s.gens, s.drawn, tk', s.os⟩) : wpAny (model PW w) A0 (call (.ref 768) [.int v t] []) Q E s := by
  x_run
set_option hygiene false in
local macro_rules | `(tactic| x_close) => `(tactic| first | exact hc _ _ (ext_of D) | exact hc _ _ (Sub.refl _))
theorem x_typeof {w : World} {s : Shared} {E} {Q : Value → Shared → Prop} {x dd : Addr} {k : Str} {t1 t2 t3 : Tok} (X : Frag.In (Mine.hd.heap_39 w.params) s.heap) (hd : s.heap.get? dd = some ⟨.type "dict", none, .dict #[] 0, #[]⟩)
   (ha : s.heap.get? x = some ⟨.ref 884, some dd, .seq #[.str k t1, .str (Str.ofString "d") t2, .str (Str.ofString "r") t3] 0, #[]⟩)
   (hc : ∀ h' tk', Sub s.heap h' → Q (.ref 884) ⟨h', s.gens, s.drawn, tk', s.os⟩) : wpAny (model PW w) A0 (call (.type "type") [.ref x] []) Q E s := by
  x_run
theorem x_issub {w : World} {s : Shared} {E} {Q : Value → Shared → Prop} (X : Frag.In (Mine.hd.heap_39 w.params) s.heap) 
   (hc : ∀ h' tk', Sub s.heap h' → Q (.bool true) ⟨h', s.gens, s.drawn, tk', s.os⟩) : wpAny (model PW w) A0 (call (.builtin "issubclass") [.ref 884, .type "tuple"] []) Q E s := by
  x_run
section
variable {w : World} {W : List Addr} {g0 g : Heap} {s0 s : Shared} {L : Addr} {ms : List (Addr × Obj)} {m : Str → Option Value} {A : Around} {E : Value → Shared → Prop} {env : Env}
theorem q_not {e : Expr} {pos : Pos} {Q : Bool → Shared → Prop} {t : Sem Value} (h : wpAny (model PW w) A (PySem.isTrue e env (eval e env)) (fun b s1 => Q (!b) s1) E s) : wpAny (model PW w) A (PySem.isTrue (.UnaryOp .Not e pos) env t) Q E s := by
  rw [arm_isTrue_UnaryOp]
  exact wpAny_bind (wpAny_mono h (fun _ _ z => wpAny_pure z) fun _ _ z => z)
theorem Fm.extQ {h' : Heap} {tk : Nat} (F : Fm w W g0 s0 L ms g s m) (hx : Sub s.heap h') (P : Shared → Prop) (h : ∀ g' s', Sub g g' → Fm w W g0 s0 L ms g' s' m → P s') : P ⟨h', s.gens, s.drawn, tk, s.os⟩ := by
  obtain ⟨g', hs, F', _⟩ := F.ext (tk := tk) hx
  exact h g' _ hs F'
end
theorem q_mType {T : String} {name : Str} {v : Value} {pl : Sem Bool} {Q : Value × List Value → Shared → Prop} {W : List Addr} {g0 g : Heap} {s0 s : Shared} {L : Addr} {ms : List (Addr × Obj)} {m : Str → Option Value} {w : World} {A : Around} {E : Value → Shared → Prop}
    (F : Fm w W g0 s0 L ms g s m) (ht : typeOf (.type T) = pure (.type "type")) (hs : Manifest.isStub T = false)
    (e : findCls (Mine.hd.heap_39 w.params) (.type T) (.type "type") name = some (.val v)) (hh : handedIn v = true) (h : ∀ s', Fm w W g0 s0 L ms g s' m → Q (v, []) s') : wpAny (model PW w) A (getMethod (.type T) name pl) Q E s := by
  obtain ⟨h0, F0, X0⟩ := F.fr
  exact method_type F0 X0 ht hs e hh (h _ F.tok)
theorem tt1 : typeOf (.type "tuple") = pure (.type "type") := by kernel_rfl
theorem tt2 : Manifest.isStub "tuple" = false := by decide +kernel
theorem tt3 : handedIn (.builtin "tuple.__getitem__") = true := by k_handed
theorem tt4 {w : World} : findCls (Mine.hd.heap_39 w.params) (.type "tuple") (.type "type") (Str.ofString "__getitem__") = some (.val (.builtin "tuple.__getitem__")) := by k_is
theorem q_own {C x dx : Addr} {od : Obj} {attr : Option Value} {v : Value} {name : Str} {expr : Bool} {Q : Value → Shared → Prop} {W : List Addr} {g0 g : Heap} {s0 s : Shared} {L : Addr} {ms : List (Addr × Obj)} {m : Str → Option Value} {w : World} {A : Around} {E : Value → Shared → Prop}
    (F : Fm w W g0 s0 L ms g s m) (h1 : s.heap.get? x = some ⟨.ref C, some dx, .plain, #[]⟩) (h2 : s.heap.get? dx = some od) (hg : plainGet (Mine.hd.heap_39 w.params) C name = true) (hh : hasDictIn (Mine.hd.heap_39 w.params) C = true)
    (ha : findIn (Mine.hd.heap_39 w.params) (.ref C) name = some attr) (hn : noGet (Mine.hd.heap_39 w.params) attr = true) (hl : lookIn name od = some (some v)) (hv : handedIn v = true) (h : ∀ s', Fm w W g0 s0 L ms g s' m → Q v s') :
    wpAny (model PW w) A (getAttr (.ref x) name expr) Q E s :=
  get_value F.X ⟨h1, rfl, rfl, h2⟩ (plainGet_of hg).1 (findObj_own hh ha hn hl) hv (h _ F.tok)
theorem Fm.gd_sub {w : World} {W : List Addr} {g0 g : Heap} {s0 s : Shared} {L : Addr} {ms : List (Addr × Obj)} {m : Str → Option Value} (F : Fm w W g0 s0 L ms g s m) {a : Addr} {o : Obj} (h : g0.get? a = some o) : g.get? a = some o := F.step.sub _ _ h
theorem c_tgi {w : World} {A : Around} {s : Shared} {E : Value → Shared → Prop} {Q : Value → Shared → Prop} {x dd : Addr} {k : Str} {t1 t2 t3 u : Tok} (X : Frag.In (Mine.hd.heap_39 w.params) s.heap)
   (hl : s.heap.get? x = some (hostO k t1 t2 t3 dd)) (hd : s.heap.get? dd = some ⟨.type "dict", none, .dict #[] 0, #[]⟩) (h : Q (.str k t1) s) :
   wpAny (model PW w) A (call (.builtin "tuple.__getitem__") [.ref x, .int 0 u] []) Q E s := by
  refine call_subB (owner := "tuple") (n := "__getitem__") (C := 884) (od := some _) (by decide +kernel) (by decide +kernel) PySem.F.slot_tuple_getitem.plain PySem.F.entry_tuple_getitem X ⟨hl, rfl, rfl, hd⟩ (by k_is) (PySem.F.args_tuple_getitem_2 _ _) ?_
  obtain ⟨hp, g, d, tk, os⟩ := s
  have f1 := AutoSeq1.idx_int
  wp_walk using wpAny_loadPart' hl
  exact ⟨_, rfl, h⟩
theorem c_tg {w : World} {A : Around} {g0 : Heap} {sE : Shared} {E : Value → Shared → Prop} {Q : Value → Shared → Prop} {x : Addr} {k : Nat}
    (r : Rm A 10 30) (gd : Gd w g0) (hg : Sub g0 sE.heap) (hx : Hs g0 x k)
    (h : ∀ g' s' t, Step g0 sE g' s' → Q (.str (nm k) t) s') :
    wpAny (model PW w) A (call (.ref 792) [.ref 873, .ref x, .ref 884] []) Q E sE := by
  have r1 : Rm A 1 10 := r.less
  obtain ⟨t1, t2, t3, dd, hx, hdd⟩ := hx
  refine fn_call (binds := [("self", .ref 873), ("obj", .ref x), ("objtype", .ref 884)]) [] [] gd hg r (by k_is) (by k_is) (binds_K (gd.keeps hg).1 rfl (by k_is) rfl rfl rfl) (locs rfl) (by simp) (by simp) rfl rfl rfl (by decide) fun L s F => ?_
  have rd : ∀ env, Rm (A.deeper env) 9 27 := fun _ => r.deeper
  walk_at "mm"
  refine q_bi (v := .builtin "issubclass") F (by k_is) (by kernel_rfl) (by decide) ?_ (by with_unfolding_all rfl) (by with_unfolding_all rfl) (by decide)
  walk_at "mm"
  refine (rd _).weak (x_typeof F.X (F.get (F.step.sub _ _ hdd)) (F.get (F.step.sub _ _ hx)) fun h' tk' hs => ?_)
  refine F.extQ hs _ fun g s hs F => ?_
  walk_at "mm"
  refine (rd _).weak (x_issub F.X fun h' tk' hs => ?_)
  refine F.extQ hs _ fun g s hs F => ?_
  walk_at "mm"
  refine q_mType (T := "tuple") (name := Str.ofString "__getitem__") (v := .builtin "tuple.__getitem__") F ?_ ?_ ?_ ?_ ?_
  · exact tt1
  · exact tt2
  · exact tt4
  · exact tt3
  intro s F
  walk_at "mm"
  refine q_own (C := 809) F (F.X _ _ (by k_is)) (F.X _ _ (by k_is)) (by k_is) (by k_is) (by k_is) (by k_is) (by rfl) (by k_handed) fun s F => ?_
  walk_at "mm"
  refine ((rd _).less (d' := 0) (u' := 20)).weak (c_tgi F.X (F.get (F.gd_sub hx)) (F.get (F.gd_sub hdd)) ?_)
  exact h g s t1 F.step
theorem isSome_of {α : Type} {x : Option α} {a : α} (h : x = some a) : x.isSome = true := by rw [h]; rfl
theorem q_name {x : Addr} {k : Nat} {expr : Bool} {Q : Value → Shared → Prop} {W : List Addr} {g0 g : Heap} {s0 s : Shared} {L : Addr} {ms : List (Addr × Obj)} {m : Str → Option Value} {w : World} {A : Around} {E : Value → Shared → Prop}
    (r : Rm A 10 31) (F : Fm w W g0 s0 L ms g s m) (hx : Hs g x k) (h : ∀ g' s' t, Sub g g' → Fm w W g0 s0 L ms g' s' m → Q (.str (nm k) t) s') : wpAny (model PW w) A (getAttr (.ref x) (Str.ofString "name") expr) Q E s := by
  have hx' := hx
  obtain ⟨t1, t2, t3, dd, hx, hdd⟩ := hx
  refine get_tup (g := .ref 792) (a := .ref 873) (od := some _) F.X ⟨F.get hx, rfl, rfl, F.get hdd⟩ (by k_is) (by k_is) (by k_is) ?_ ?_
  · exact findObj_data (K := Mine.hd.heap_39 w.params) (isSome_of (by k_is)) (by k_is) (by k_is) (by k_is)
  · refine c_tg r.in1 F.gd F.step.keep hx' fun g' s' t S => ?_
    exact ⟨rfl, h g' s' t S.sub ((F.tok (tk := s.toks + 1)).called S)⟩
set_option hygiene false in
local macro_rules | `(tactic| x_close) => `(tactic| exact hc (ext_of D) (nwOf D (by k_mem)) (nwOf D (by k_mem)) (ksOf D (by k_mem)) (nwOf D (by k_mem)) (nwOf D (by k_mem)) (nwOf D (by k_mem)) (nwOf D (by k_mem)))
theorem x_ks0 {w : World} {s : Shared} {E} {Q : Value → Shared → Prop} {x : Str} {t u : Tok} (X : Frag.In (Mine.hd.heap_39 w.params) s.heap) 
   (hc : ∀ {p h' tk' q ks dk st ds rf dr u1 u2 u3 u4 t1 n1 t2 t3 t4 q2 q3 n2}, Sub s.heap h' → New s.heap h' p ⟨.type "tuple", none, .seq #[.ref ks, .int 1 q] 0, #[]⟩ → New s.heap h' ks (instO 481 dk) →
     (KsD h' dk (.ref st) ∧ s.heap.get? dk = none) →
     New s.heap h' st (instO 368 ds) → New s.heap h' ds (dictO [en u1 w_replication_factor_info t1 (.ref rf)] n1) → New s.heap h' rf (instO 318 dr) →
     New s.heap h' dr (dictO [en u2 w_all_replicas t2 (.int 1 q2), en u3 w_transient_replicas t3 .none, en u4 w_full_replicas t4 (.int 1 q3)] n2) →
     Q (.ref p) ⟨h', s.gens, s.drawn, tk', s.os⟩) : wpAny (model PW w) A0 (call (.ref 916) [.str x t, .int 0 u] []) Q E s := by
  x_run

set_option hygiene false in
local macro_rules | `(tactic| x_close) => `(tactic| exact hc (ext_of D) (nwOf D (by k_mem)) (nwOf D (by k_mem)) (ksOf D (by k_mem)) (nwOf D (by k_mem)) (nwOf D (by k_mem)) (nwOf D (by k_mem)) (nwOf D (by k_mem)))
theorem x_ks1 {w : World} {s : Shared} {E} {Q : Value → Shared → Prop} {x : Str} {t u : Tok} (X : Frag.In (Mine.hd.heap_39 w.params) s.heap) 
   (hc : ∀ {p h' tk' q ks dk st ds rf dr u1 u2 u3 u4 t1 n1 t2 t3 t4 q2 q3 n2}, Sub s.heap h' → New s.heap h' p ⟨.type "tuple", none, .seq #[.ref ks, .int 2 q] 0, #[]⟩ → New s.heap h' ks (instO 481 dk) →
     (KsD h' dk (.ref st) ∧ s.heap.get? dk = none) →
     New s.heap h' st (instO 368 ds) → New s.heap h' ds (dictO [en u1 w_replication_factor_info t1 (.ref rf)] n1) → New s.heap h' rf (instO 318 dr) →
     New s.heap h' dr (dictO [en u2 w_all_replicas t2 (.int 2 q2), en u3 w_transient_replicas t3 .none, en u4 w_full_replicas t4 (.int 2 q3)] n2) →
     Q (.ref p) ⟨h', s.gens, s.drawn, tk', s.os⟩) : wpAny (model PW w) A0 (call (.ref 916) [.str x t, .int 1 u] []) Q E s := by
  x_run

set_option hygiene false in
local macro_rules | `(tactic| x_close) => `(tactic| exact hc (ext_of D) (nwOf D (by k_mem)) (nwOf D (by k_mem)) (ksOf D (by k_mem)) (nwOf D (by k_mem)) (nwOf D (by k_mem)) (nwOf D (by k_mem)) (nwOf D (by k_mem)))
theorem x_ks2 {w : World} {s : Shared} {E} {Q : Value → Shared → Prop} {x : Str} {t u : Tok} (X : Frag.In (Mine.hd.heap_39 w.params) s.heap) 
   (hc : ∀ {p h' tk' q ks dk st ds rf dr u1 u2 u3 u4 t1 n1 t2 t3 t4 q2 q3 n2}, Sub s.heap h' → New s.heap h' p ⟨.type "tuple", none, .seq #[.ref ks, .int 3 q] 0, #[]⟩ → New s.heap h' ks (instO 481 dk) →
     (KsD h' dk (.ref st) ∧ s.heap.get? dk = none) →
     New s.heap h' st (instO 368 ds) → New s.heap h' ds (dictO [en u1 w_replication_factor_info t1 (.ref rf)] n1) → New s.heap h' rf (instO 318 dr) →
     New s.heap h' dr (dictO [en u2 w_all_replicas t2 (.int 3 q2), en u3 w_transient_replicas t3 .none, en u4 w_full_replicas t4 (.int 3 q3)] n2) →
     Q (.ref p) ⟨h', s.gens, s.drawn, tk', s.os⟩) : wpAny (model PW w) A0 (call (.ref 916) [.str x t, .int 2 u] []) Q E s := by
  x_run

set_option hygiene false in
local macro_rules | `(tactic| x_close) => `(tactic| exact hc (ext_of D) (nwOf D (by k_mem)) (nwOf D (by k_mem)) (ksOf D (by k_mem)) (nwOf D (by k_mem)) (nwOf D (by k_mem)))
theorem x_ks3 {w : World} {s : Shared} {E} {Q : Value → Shared → Prop} {x : Str} {t u : Tok} (X : Frag.In (Mine.hd.heap_39 w.params) s.heap) 
   (hc : ∀ {p h' tk' q ks dk st ds}, Sub s.heap h' → New s.heap h' p ⟨.type "tuple", none, .seq #[.ref ks, .int 0 q] 0, #[]⟩ → New s.heap h' ks (instO 481 dk) →
     (KsD h' dk (.ref st) ∧ s.heap.get? dk = none) →
     New s.heap h' st (instO 446 ds) → New s.heap h' ds emptyD →
     Q (.ref p) ⟨h', s.gens, s.drawn, tk', s.os⟩) : wpAny (model PW w) A0 (call (.ref 916) [.str x t, .int 3 u] []) Q E s := by
  x_run
set_option hygiene false in
local macro_rules | `(tactic| x_close) => `(tactic| exact hc (ext_of D) (nwOf D (by k_mem)) (nwOf D (by k_mem)) (ksOf D (by k_mem)))
theorem x_ks4 {w : World} {s : Shared} {E} {Q : Value → Shared → Prop} {x : Str} {t u : Tok} (X : Frag.In (Mine.hd.heap_39 w.params) s.heap) 
   (hc : ∀ {p h' tk' ks dk}, Sub s.heap h' → New s.heap h' p ⟨.type "tuple", none, .seq #[.ref ks, .none] 0, #[]⟩ → New s.heap h' ks (instO 481 dk) →
     (KsD h' dk .none ∧ s.heap.get? dk = none) →
     Q (.ref p) ⟨h', s.gens, s.drawn, tk', s.os⟩) : wpAny (model PW w) A0 (call (.ref 916) [.str x t, .int 4 u] []) Q E s := by
  x_run
theorem rawHash_small {v : Int} (h0 : -1000 < v) (h1 : v < 1000) : hashInt v = hv v := by
  unfold hashInt rawHash hv
  have : ((v.natAbs : Nat) : Int) % ((2 ^ 61 - 1 : Nat) : Int) = v.natAbs := Int.emod_eq_of_lt (by omega) (by omega)
  simp only [this, beq_iff_eq]
  split <;> split <;> split <;> (try split) <;> omega
theorem hv_inj {v u : Int} (h : ¬ (v = -1 ∧ u = -2)) (h' : ¬ (v = -2 ∧ u = -1)) (e : hv v = hv u) : v = u := by
  unfold hv at e; split at e <;> split at e <;> omega
theorem hash_int {w : World} {A : Around} {E : Value → Shared → Prop} {s : Shared} {v : Int} {t : Tok} {Q : Value → Shared → Prop} (h : ∀ tk t, Q (.int (hashInt v) t) { s with toks := tk }) :
    wpAny (model PW w) A (call (.builtin "hash") [.int v t]) Q E s := by
  refine Calls.call_function_entry (by decide +kernel) (by decide +kernel) (b := Builtin.«hash») (entryFor_of_tree (by kernel_rfl)) (by unfold argsOk; kernel_rfl) ?_
  unfold Builtin.«hash»
  refine wpAny_bind (m := oneArg "hash" _) (wpAny_pure ?_)
  refine wpAny_bind (wpAny_pyHash_int ?_)
  exact wpAny_bind (wpAny_mkInt (wpAny_pure ⟨_, rfl, h _ _⟩))
theorem c_hash {w : World} {A : Around} {g0 : Heap} {sE : Shared} {E : Value → Shared → Prop} {Q : Value → Shared → Prop} {a : Addr} {v : Int}
    (r : Rm A 1 20) (gd : Gd w g0) (hg : Sub g0 sE.heap) (hx : Tk g0 a v) (h0 : -1000 < v) (h1 : v < 1000)
    (h : ∀ g' s' t, Step g0 sE g' s' → Q (.int (hv v) t) s') :
    wpAny (model PW w) A (call (.ref 691) [.ref a] []) Q E sE := by
  obtain ⟨d1, u1, t1, t2, n1, e1, e2⟩ := hx
  refine fn_call (binds := [("self", .ref a)]) [] [] gd hg r (by k_is) (by k_is) (BindsTo.of_eq rfl) (locs rfl) (by simp) (by simp) rfl rfl rfl (by decide) fun L s F => ?_
  walk_at "mm"
  refine q_own F (F.get (F.gd_sub e1)) (F.get (F.gd_sub e2)) (by k_is) (by k_is) (by k_is) (by k_is) (by rfl) (by k_handed) fun s F => ?_
  walk_at "mm"
  refine hash_int fun tk t => ?_
  refine q_tok F _ fun s F => ?_
  rw [rawHash_small h0 h1]
  exact h _ s t F.step
theorem c_lt {w : World} {A : Around} {g0 : Heap} {sE : Shared} {E : Value → Shared → Prop} {Q : Value → Shared → Prop} {a b : Addr} {v u : Int}
    (r : Rm A 1 20) (gd : Gd w g0) (hg : Sub g0 sE.heap) (hx : Tk g0 a v) (hy : Tk g0 b u)
    (h : ∀ g' s', Step g0 sE g' s' → Q (.bool (decide (v < u))) s') :
    wpAny (model PW w) A (call (.ref 684) [.ref a, .ref b] []) Q E sE := by
  obtain ⟨d1, u1, t1, t2, n1, e1, e2⟩ := hx
  obtain ⟨d3, u3, t3, t4, n3, e3, e4⟩ := hy
  refine fn_call (binds := [("self", .ref a), ("other", .ref b)]) [] [] gd hg r (by k_is) (by k_is) (BindsTo.of_eq rfl) (locs rfl) (by simp) (by simp) rfl rfl rfl (by decide) fun L s F => ?_
  walk_at "mm"
  refine q_own F (F.get (F.gd_sub e1)) (F.get (F.gd_sub e2)) (by k_is) (by k_is) (by k_is) (by k_is) (by rfl) (by k_handed) fun s F => ?_
  walk_at "mm"
  refine q_own F (F.get (F.gd_sub e3)) (F.get (F.gd_sub e4)) (by k_is) (by k_is) (by k_is) (by k_is) (by rfl) (by k_handed) fun s F => ?_
  walk_at "mm"
  exact h _ s F.step

theorem filt_one (p : Nat → Bool) (j : Nat) (hp : p j = true) : ∀ n, j < n → (∀ i, i < n → p i = true → i = j) → (List.range n).filter p = [j] := by
  intro n
  induction n with
  | zero => intro h; omega
  | succ n ih =>
    intro hj hu
    rw [List.range_succ, List.filter_append]
    by_cases e : j = n
    · subst e
      have : (List.range j).filter p = [] := by
        rw [List.filter_eq_nil_iff]
        intro i hi hpi
        have := List.mem_range.mp hi
        have := hu i (by omega) hpi
        omega
      rw [this, List.filter_cons_of_pos hp]; rfl
    · rw [ih (by omega) (fun i hi => hu i (by omega))]
      rw [List.filter_cons_of_neg (fun hn => e (hu n (by omega) hn).symm)]; rfl
section
variable {w : World} {A : Around} {E : Value → Shared → Prop} {s : Shared} {d a : Addr} {es : List DictEntry} {n : Nat} {hh : Int}
theorem find_one {j : Nat} {e : DictEntry} {Q : Option Nat → Shared → Prop} (ho : s.heap.get? d = some (dictO es n)) (hj : es[j]? = some e) (he : e.hash = hh) (hk : e.key = .ref a)
    (hu : ∀ i e', es[i]? = some e' → e'.hash = hh → i = j) (hs : ∀ e' ∈ es, e'.key = .ref a → e'.hash = hh) (h : Q (some j) s) : wpAny (model PW w) A (dictFind d (.ref a) hh) Q E s := by
  have hlt : j < es.length := (List.getElem?_eq_some_iff.mp hj).1
  have pl : placesWithHash es.toArray.size (fun i => es.toArray[i]?.map (·.hash)) hh = [j] := by
    unfold placesWithHash
    refine filt_one _ j ?_ _ (by simpa using hlt) fun i hi hp => ?_
    · simp [hj, he]
    · have hi' : i < es.length := by simpa using hi
      have e1 : es[i]? = some es[i] := List.getElem?_eq_getElem hi'
      refine hu i _ e1 ?_
      simpa [e1] using hp
  have hany : ¬ (es.toArray.any fun e => e.key == Value.ref a && e.hash != hh) = true := by
    rw [← Array.any_toList, List.any_eq_true]
    rintro ⟨e', hin, hc⟩
    simp only [Bool.and_eq_true, beq_iff_eq, bne_iff_ne, ne_eq] at hc
    exact hc.2 (hs e' (by simpa using hin) hc.1)
  unfold dictFind
  refine wpAny_holding (wpAny_bind (wpAny_dictEntries ho rfl ?_))
  dsimp only
  rw [pl]
  have st : [j].filterMap (fun i => es.toArray[i]?.map (·.key)) = [.ref a] := by simp [hj, hk]
  rw [st]
  rw [if_neg (by simp [carriedByValue]), if_neg hany, if_pos (by simp)]
  refine wpAny_bind (wpAny_pure ?_)
  rw [if_neg (by simp)]
  have ej : es.toArray[j]? = some e := by simpa using hj
  simp only [List.forIn_cons, List.forIn_nil]
  refine wpAny_bind (wpAny_bind ?_)
  rw [ej]
  dsimp only
  rw [if_pos (by simp [he])]
  refine wpAny_bind (wpAny_dictEpoch ho rfl (wpAny_bind ?_))
  rw [hk]
  refine SeqAt.EqAt.same (A := A) (s := s) (.ref a) PW w E _ ?_
  refine wpAny_bind (wpAny_dictEpoch ho rfl ?_)
  rw [if_neg (by simp)]
  rw [if_pos rfl]
  rw [if_neg (by simp)]
  refine wpAny_bind (wpAny_rule ?_)
  rw [if_pos (by simp)]
  exact wpAny_pure (wpAny_pure (wpAny_pure h))
theorem find_none {Q : Option Nat → Shared → Prop} (ho : s.heap.get? d = some (dictO es n)) (hu : ∀ e' ∈ es, e'.hash ≠ hh) (hs : ∀ e' ∈ es, e'.key ≠ .ref a) (h : Q none s) : wpAny (model PW w) A (dictFind d (.ref a) hh) Q E s := by
  have pl : placesWithHash es.toArray.size (fun i => es.toArray[i]?.map (·.hash)) hh = [] := by
    unfold placesWithHash
    rw [List.filter_eq_nil_iff]
    intro i hi hp
    have hi' : i < es.length := by simpa using hi
    have e1 : es[i]? = some es[i] := List.getElem?_eq_getElem hi'
    refine hu es[i] (List.getElem_mem hi') ?_
    simpa [e1] using hp
  have hany : ¬ (es.toArray.any fun e => e.key == Value.ref a && e.hash != hh) = true := by
    rw [← Array.any_toList, List.any_eq_true]
    rintro ⟨e', hin, hc⟩
    simp only [Bool.and_eq_true, beq_iff_eq, bne_iff_ne, ne_eq] at hc
    exact hs e' (by simpa using hin) hc.1
  unfold dictFind
  refine wpAny_holding (wpAny_bind (wpAny_dictEntries ho rfl ?_))
  dsimp only
  rw [pl]
  rw [if_neg (by simp [carriedByValue]), if_neg hany, if_neg (by simp)]
  refine wpAny_bind ?_
  unfold tableMayTell
  rw [if_pos (by simp)]
  refine wpAny_pure ?_
  rw [if_neg (by simp)]
  simp only [List.forIn_nil]
  exact wpAny_bind (wpAny_pure (wpAny_pure h))
end
def tdE (kvs : List (Int × Addr × Value)) : List DictEntry := kvs.map fun x => ⟨hv x.1, .ref x.2.1, x.2.2⟩
abbrev tdO (kvs : List (Int × Addr × Value)) (n : Nat) : Obj := dictO (tdE kvs) n
structure TdOk (g : Heap) (kvs : List (Int × Addr × Value)) : Prop where
  tk : ∀ x ∈ kvs, Tk g x.2.1 x.1
  nd : (kvs.map (fun x => hv x.1)).Nodup
theorem Tk.val {g : Heap} {a v u} (x : Tk g a v) (y : Tk g a u) : v = u := by
  obtain ⟨d1, u1, t1, t2, n1, e1, e2⟩ := x
  obtain ⟨d3, u3, t3, t4, n3, e3, e4⟩ := y
  rw [e1] at e3
  have : d1 = d3 := by injection e3 with e3; injection e3 with _ e3; injection e3
  subst this
  rw [e2] at e4
  injection e4 with e4; injection e4 with _ _ e4; injection e4 with e4; injection e4 with e4; injection e4 with e4; injection e4 with _ _ e4; injection e4
theorem TdOk.keeps {g h : Heap} {kvs} (x : TdOk g kvs) (k : Sub g h) : TdOk h kvs := ⟨fun y hy => (x.tk y hy).keeps k, x.nd⟩
theorem TdOk.idx {g : Heap} {kvs : List (Int × Addr × Value)} (ok : TdOk g kvs) {j i : Nat} {x y : Int × Addr × Value} (hj : kvs[j]? = some x) (hi : kvs[i]? = some y) (e : hv y.1 = hv x.1) : i = j := by
  have h1 : (kvs.map (fun x => hv x.1))[j]? = some (hv x.1) := by rw [List.getElem?_map, hj]; rfl
  have h2 : (kvs.map (fun x => hv x.1))[i]? = some (hv x.1) := by rw [List.getElem?_map, hi]; exact congrArg some e
  exact (List.getElem?_inj (List.getElem?_eq_some_iff.mp h2).1 ok.nd).mp (h2.trans h1.symm)
theorem tk_hash {w : World} {A : Around} {g0 : Heap} {sE : Shared} {E : Value → Shared → Prop} {Q : Int → Shared → Prop} {a : Addr} {v : Int}
    (r : Rm A 1 20) (gd : Gd w g0) (hg : Sub g0 sE.heap) (hx : Tk g0 a v) (h0 : -1000 < v) (h1 : v < 1000)
    (h : ∀ g' s', Step g0 sE g' s' → Q (hv v) s') : wpAny (model PW w) A (pyHash (.ref a)) Q E sE := by
  have hx' := hx
  obtain ⟨d1, u1, t1, t2, n1, e1, e2⟩ := hx
  have X := (gd.keeps hg).1
  refine hash_K (C := 768) (fv := .ref 691) (od := some _) r.cl X ⟨hg _ _ e1, rfl, rfl, hg _ _ e2⟩ (by k_is) (by rfl) (bind_fn X _ (beq_iff_eq.mp (by k_is : isFn (Mine.hd.heap_39 w.params) (.ref 691) = true))) ?_
  refine c_hash r gd hg hx' h0 h1 fun g' s' t S => ⟨_, t, rfl, ?_, ?_⟩
  · unfold hv; split <;> omega
  · have : (hv v == -1) = false := by unfold hv; split <;> simp <;> omega
    rw [this]
    exact h g' s' S
theorem td_get {w : World} {A : Around} {g0 : Heap} {sE : Shared} {E : Value → Shared → Prop} {Q : Option Value → Shared → Prop} {d a : Addr} {v : Int} {kvs : List (Int × Addr × Value)} {n j : Nat} {x : Value}
    (r : Rm A 1 20) (gd : Gd w g0) (hg : Sub g0 sE.heap) (ok : TdOk g0 kvs) (ho : sE.heap.get? d = some (tdO kvs n)) (hj : kvs[j]? = some (v, a, x)) (h0 : -1000 < v) (h1 : v < 1000)
    (h : ∀ g' s', Step g0 sE g' s' → Q (some x) s') : wpAny (model PW w) A (dictGet d (.ref a)) Q E sE := by
  have ta := ok.tk _ (List.mem_of_getElem? hj)
  unfold dictGet
  refine wpAny_holding (wpAny_bind (tk_hash r gd hg ta h0 h1 fun g' s' S => wpAny_bind ?_))
  have ho' := S.old _ _ (by simp) ho
  have ej : (tdE kvs)[j]? = some ⟨hv v, .ref a, x⟩ := by unfold tdE; rw [List.getElem?_map, hj]; rfl
  refine find_one ho' ej rfl rfl ?_ ?_ ?_
  · intro i e' hi he
    unfold tdE at hi
    rw [List.getElem?_map] at hi
    obtain ⟨y, hy, rfl⟩ := Option.map_eq_some_iff.mp hi
    exact ok.idx hj hy he
  · intro e' he hk
    unfold tdE at he
    obtain ⟨y, hy, rfl⟩ := List.mem_map.mp he
    have hk : y.2.1 = a := by injection hk
    have := ok.tk y hy
    rw [hk] at this
    rw [this.val ta]
  · refine wpAny_bind (wpAny_dictEntries ho' rfl ?_)
    have ej' : (tdE kvs).toArray[j]? = some ⟨hv v, .ref a, x⟩ := by simpa using ej
    rw [ej']
    exact wpAny_pure (h g' s' S)
theorem td_set {w : World} {A : Around} {g0 : Heap} {sE : Shared} {E : Value → Shared → Prop} {Q : Unit → Shared → Prop} {d a : Addr} {v : Int} {kvs : List (Int × Addr × Value)} {n : Nat} {x : Value}
    (r : Rm A 1 20) (gd : Gd w g0) (hg : Sub g0 sE.heap) (ok : TdOk g0 kvs) (ho : sE.heap.get? d = some (tdO kvs n)) (ta : Tk g0 a v) (hn : hv v ∉ kvs.map (fun x => hv x.1)) (hz : kvs.length ≤ 100) (h0 : -1000 < v) (h1 : v < 1000)
    (h : ∀ g' s' h', Step g0 sE g' s' → Heap.SameBut d s'.heap h' → h'.get? d = some (tdO (kvs ++ [(v, a, x)]) (n + 1)) → Q () { s' with heap := h' }) : wpAny (model PW w) A (dictSet d (.ref a) x) Q E sE := by
  unfold dictSet
  refine wpAny_holding (wpAny_bind (tk_hash r gd hg ta h0 h1 fun g' s' S => ?_))
  have ho' := S.old _ _ (by simp) ho
  unfold dictSetHashed
  refine wpAny_holding (wpAny_bind ?_)
  refine find_none ho' ?_ ?_ ?_
  · intro e' he hk
    unfold tdE at he
    obtain ⟨y, hy, rfl⟩ := List.mem_map.mp he
    exact hn (List.mem_map.mpr ⟨y, hy, hk⟩)
  · intro e' he hk
    unfold tdE at he
    obtain ⟨y, hy, rfl⟩ := List.mem_map.mp he
    have hk : y.2.1 = a := by injection hk
    have := ok.tk y hy
    rw [hk] at this
    exact hn (List.mem_map.mpr ⟨y, hy, by rw [this.val ta]⟩)
  · refine wpAny_bind (wpAny_rule (wpAny_updateDictKeys (hz := by simp [tdE, sizeLine_eq]; omega) ho' rfl ?_))
    refine h g' s' _ S (Heap.SameBut.update ..) ?_
    rw [Heap.get?_update_self _ ho' rfl]
    simp [Obj.mapDictKeys, tdE]
section
variable {w : World} {W : List Addr} {g0 g : Heap} {s0 s : Shared} {L : Addr} {ms : List (Addr × Obj)} {m : Str → Option Value} {A : Around} {E : Value → Shared → Prop}
theorem td_item {Q : Value → Shared → Prop} {d a : Addr} {v : Int} {kvs : List (Int × Addr × Value)} {n j : Nat} {x : Value}
    (r : Rm A 1 21) (F : Fm w W g0 s0 L ms g s m) (ok : TdOk g kvs) (ho : s.heap.get? d = some (tdO kvs n)) (hj : kvs[j]? = some (v, a, x)) (h0 : -1000 < v) (h1 : v < 1000)
    (h : ∀ g' s', Sub g g' → Fm w W g0 s0 L ms g' s' m → Q x s') : wpAny (model PW w) A (getItem (.ref d) (.ref a)) Q E s := by
  have hT : s.TypeIs (.ref d) "dict" := ⟨_, ho, rfl⟩
  unfold getItem
  refine wpAny_holding (wpAny_bind (wpAny_sequenceKey hT (by decide) ?_))
  refine wpAny_bind (wpAny_callSpecial?_slot (name := Str.ofString "__getitem__") hT slot_dict_getitem (wpAny_call_entry slot_dict_getitem hT entry_dict_getitem ?_ (args_dict_getitem _ _)))
  show wpAny _ _ (dictGet d (.ref a) >>= _) _ _ s
  refine wpAny_bind (td_get r.in1 F.gd F.step.keep ok ho hj h0 h1 fun g' s' S => ?_)
  exact wpAny_pure ⟨x, rfl, wpAny_pure (h g' s' S.sub (F.called S))⟩
theorem q_tdGet {value slice : Expr} {Q : Value → Shared → Prop} {d a : Addr} {v : Int} {kvs : List (Int × Addr × Value)} {n j : Nat} {x : Value}
    (r : Rm A 1 21) (F : Fm w W g0 s0 L ms g s m) (ok : TdOk g kvs) (ho : s.heap.get? d = some (tdO kvs n)) (hj : kvs[j]? = some (v, a, x)) (h0 : -1000 < v) (h1 : v < 1000)
    (h : ∀ g' s', Sub g g' → Fm w W g0 s0 L ms g' s' m → Q x s')
    (hs : subscripted slice false (.ref d) (.ref a) = operate [.ref d, .ref a] (getItem (.ref d) (.ref a)) := by with_unfolding_all rfl) (hg : ∀ r, letTemporaryGo value (.ref d) r = pure () := by intro _; with_unfolding_all rfl) :
    wpAny (model PW w) A (subscriptTail value slice (.ref d) (.ref a)) Q E s :=
  subscriptTail_builtin ⟨_, ho, rfl⟩ slot_dict_getitem.lookup (td_item r F ok ho hj h0 h1 h) hs hg
theorem q_tdSet {Q : Unit → Shared → Prop} {d a : Addr} {v : Int} {kvs : List (Int × Addr × Value)} {n : Nat} {x : Value}
    (r : Rm A 1 21) (F : Fm w W g0 s0 L ((d, tdO kvs n) :: ms) g s m) (ok : TdOk g kvs) (ta : Tk g a v) (hn : hv v ∉ kvs.map (fun x => hv x.1)) (hz : kvs.length ≤ 100) (h0 : -1000 < v) (h1 : v < 1000)
    (h : ∀ g' s', Sub g g' → Fm w W g0 s0 L ((d, tdO (kvs ++ [(v, a, x)]) (n + 1)) :: ms) g' s' m → Q () s') : wpAny (model PW w) A (setItem (.ref d) (.ref a) x) Q E s := by
  have ho := F.turnable (.head _)
  have hT : s.TypeIs (.ref d) "dict" := ⟨_, ho, rfl⟩
  unfold setItem
  refine wpAny_holding (wpAny_bind (wpAny_sequenceKey hT (by decide) ?_))
  refine wpAny_bind (wpAny_callSpecial?_slot (name := Str.ofString "__setitem__") hT slot_dict_setitem (wpAny_call_entry slot_dict_setitem hT entry_dict_setitem ?_ (args_dict_setitem _ _ _)))
  show wpAny _ _ (Builtin.Dict.notOrdered "__setitem__" ⟨[.ref d, .ref a, x], []⟩ >>= _) _ _ s
  refine wpAny_bind (wpAny_notOrdered_dict hT ?_)
  show wpAny _ _ (dictSet d (.ref a) x >>= _) _ _ s
  refine wpAny_bind (td_set r.in1 F.gd F.step.keep ok ho ta hn hz h0 h1 fun g' s' h' S hs he => ?_)
  exact wpAny_pure ⟨.none, rfl, wpAny_pure (h g' _ S.sub ((F.called S).turn (tk := s'.toks) hs he))⟩
theorem q_newDictM {env : Env} {pos : Pos} {Q : Value → Shared → Prop} (F : Fm w W g0 s0 L ms g s m)
    (h : ∀ l s', Fm w W g0 s0 L ((l, emptyD) :: ms) g s' m → s0.heap.get? l = none → Q (.ref l) s') : wpAny (model PW w) A (eval (.Dict [] [] pos) env) Q E s :=
  wpAny_Dict_empty (h _ _ (F.pushM (o := emptyD) (tk := s.toks) rfl) F.absent)
theorem q_hsNotIn {Q : Value → Shared → Prop} {l x : Addr} {its : Array Value} {n : Nat} {j : Nat} {ks : List Nat} (r : Rm A 1 12) (F : Fm w W g0 s0 L ms g s m) (hl : s.heap.get? l = some (listOf its n))
    (ha : HsAll g its.toList ks) (hx : Hs g x j) (hj : j < 3) (hks : ∀ k ∈ ks, k < 3) (hu : ∀ v ∈ its.toList, ∀ a, v = .ref a → Hs s.heap a j → a = x) (h : Q (.bool (!decide (j ∈ ks))) s) :
    wpAny (model PW w) A (compareOp .NotIn (.ref x) (.ref l)) Q E s := by
  have hT : s.TypeIs (.ref l) "list" := ⟨_, hl, rfl⟩
  show wpAny _ A (do return .bool (!(← contains (.ref l) (.ref x)))) Q E s
  refine wpAny_bind (wpAny_contains_slot hT PySem.F.slot_list_contains ?_)
  refine wpAny_mono (Q := fun v s' => v = .bool (decide (j ∈ ks)) ∧ s' = s) (call_meetsIn PySem.F.slot_list_contains hT PySem.F.entry_list_contains (PySem.F.args_list_contains_2 _ _) (S := fun A R s' => s' = s ∧ Rm A 0 10 ∧ R (.ok (.ret (.bool (decide (j ∈ ks))))) s) ?_ ⟨rfl, r.less, rfl, rfl⟩) (fun v s' q => ?_) fun _ _ e => e
  · intro A R s1 h1
    obtain ⟨rfl, r1, h1⟩ := h1
    have ha := ha.keeps F.step.keep
    have hx := hx.keeps F.step.keep
    have X := F.X
    obtain ⟨hp, gg, d, tk, os⟩ := s1
    wp_walk using wpAny_loadPart' hl
    refine ⟨plainId_quiet MeetsSeq.plain_contains_loop _, codeAny_builtin MeetsSeq.entry_contains_loop ?_⟩
    rw [Around.under_plainId MeetsSeq.plain_contains_loop _]
    exact hs_loop (w := w) (n := n) _ 0 rfl ks A R _ ⟨hl, r1, X, by simpa using ha, hx, hj, hks, by simpa using hu, h1⟩
  · obtain ⟨rfl, rfl⟩ := q
    exact wpAny_truthy_bool (wpAny_pure h)
end
abbrev SK (w : World) := strKind PW w
theorem emptyD_is {w : World} (h : Heap) : emptyD.IsDictOf (SK w) [] := by
  obtain ⟨o, e, hh⟩ := Heap.dictOf_iff.mp (Heap.DictOf.new (knd := SK w) h)
  have e2 : (h.push emptyD).get? h.objs.size = some emptyD := Heap.get?_push_size _ rfl
  rw [show (h.push { cls := .type "dict", data := .dict #[] }).get? h.objs.size = some emptyD from e2] at e
  cases e
  exact hh
section
variable {w : World} {W : List Addr} {g0 g : Heap} {s0 s : Shared} {L : Addr} {ms : List (Addr × Obj)} {m : Str → Option Value} {A : Around} {E : Value → Shared → Prop} {d : Addr} {o : Obj} {kvs : List (Str × Value)} {x : Str} {t : Tok}
theorem Fm.lo (F : Fm w W g0 s0 L ms g s m) (hp : (d, o) ∈ ms) : (d == sysModules) = false := by
  have h1 := (F.mu _ hp).2.1
  have : ∃ o, (Mine.hd.heap_39 w.params).lookup 1 = some o := ⟨_, by k_is⟩
  obtain ⟨o1, e1⟩ := this
  have h2 := F.gd.1 _ _ e1
  rw [beq_eq_false_iff_ne]
  intro e
  have e : d = 1 := e
  have h1 : g.get? d = none := h1
  rw [e, h2] at h1
  cases h1
theorem Fm.dictOf (F : Fm w W g0 s0 L ms g s m) (hp : (d, o) ∈ ms) (hd : o.IsDictOf (SK w) kvs) : s.heap.DictOf (SK w) d kvs := Heap.dictOf_iff.mpr ⟨o, F.turnable hp, hd⟩
theorem q_sM {name : Str} {id : String} {pl : Sem Bool} {Q : Value × List Value → Shared → Prop} (slot : Slot "dict" name id) (ty : typeOf (.builtin id) = pure (.type "method_descriptor")) (F : Fm w W g0 s0 L ms g s m) (hp : (d, o) ∈ ms) (hd : o.IsDictOf (SK w) kvs) (h : Q (.builtin id, [.ref d]) s) :
    wpAny (model PW w) A (getMethod (.ref d) name pl) Q E s :=
  have hD := F.dictOf hp hd
  getMethod_builtin hD.typeIs PySem.F.plainAttrs_dict slot ty hD.mapOf.noDict h
theorem q_sget1 {Q : Value → Shared → Prop} (F : Fm w W g0 s0 L ms g s m) (hp : (d, o) ∈ ms) (hd : o.IsDictOf (SK w) kvs) (h : ∀ s', Fm w W g0 s0 L ms g s' m → Q ((valueAt kvs x).getD .none) s') :
    wpAny (model PW w) A (call (.builtin "dict.get") [.ref d, .str x t]) Q E s :=
  have hD := F.dictOf hp hd
  call_meetsIn PySem.F.slot_dict_get hD.typeIs PySem.F.entry_dict_get (PySem.F.args_dict_get_2 _ _) (meets_dict_get (SK w) d (strKind_is PW w x t) (F.lo hp)) ⟨_, hD.mapOf, h _ F.tok⟩
theorem q_sget2 {dflt : Value} {Q : Value → Shared → Prop} (F : Fm w W g0 s0 L ms g s m) (hp : (d, o) ∈ ms) (hd : o.IsDictOf (SK w) kvs) (h : ∀ s', Fm w W g0 s0 L ms g s' m → Q ((valueAt kvs x).getD dflt) s') :
    wpAny (model PW w) A (call (.builtin "dict.get") [.ref d, .str x t, dflt]) Q E s :=
  have hD := F.dictOf hp hd
  call_meetsIn PySem.F.slot_dict_get hD.typeIs PySem.F.entry_dict_get (PySem.F.args_dict_get_3 _ _ _) (meets_dict_get_default (SK w) d (strKind_is PW w x t) (F.lo hp) dflt) ⟨_, hD.mapOf, h _ F.tok⟩
theorem q_sin {Q : Value → Shared → Prop} (F : Fm w W g0 s0 L ms g s m) (hp : (d, o) ∈ ms) (hd : o.IsDictOf (SK w) kvs) (h : ∀ s', Fm w W g0 s0 L ms g s' m → Q (.bool (valueAt kvs x).isSome) s') :
    wpAny (model PW w) A (compareOp .In (.str x t) (.ref d)) Q E s := wpAny_in_of (strKind_is PW w x t) (F.lo hp) (F.dictOf hp hd).mapOf (h _ F.tok)
theorem q_sitem {value slice : Expr} {v : Value} {Q : Value → Shared → Prop} (F : Fm w W g0 s0 L ms g s m) (hp : (d, o) ∈ ms) (hd : o.IsDictOf (SK w) kvs) (hl : valueAt kvs x = some v) (h : ∀ s', Fm w W g0 s0 L ms g s' m → Q v s')
    (hs : subscripted slice false (.ref d) (.str x t) = operate [.ref d, .str x t] (getItem (.ref d) (.str x t)) := by with_unfolding_all rfl) :
    wpAny (model PW w) A (subscriptTail value slice (.ref d) (.str x t)) Q E s :=
  have hD := F.dictOf hp hd
  subscriptTail_builtinR (x := v) hD.typeIs slot_dict_getitem.lookup (wpAny_getItem_of (strKind_is PW w x t) hD.mapOf hl ⟨rfl, h _ F.tok⟩) hs
theorem q_sset {v : Value} {Q : Unit → Shared → Prop} (F : Fm w W g0 s0 L ((d, o) :: ms) g s m) (hd : o.IsDictOf (SK w) kvs) (hz : kvs.length ≤ 100)
    (h : ∀ o' s', Fm w W g0 s0 L ((d, o') :: ms) g s' m → o'.IsDictOf (SK w) (stored kvs x v) → Q () s') : wpAny (model PW w) A (setItem (.ref d) (.str x t) v) Q E s := by
  refine wpAny_setItem_pairs (hsz := by rw [sizeLine_eq]; omega) (strKind_is PW w x t) (F.dictOf (.head _) hd) fun h' hm hs => ?_
  obtain ⟨o', ho', hd'⟩ := Heap.dictOf_iff.mp hm
  exact h o' _ (F.turn (tk := s.toks + 1) hs ho') hd'
theorem q_spop {v : Value} {Q : Value → Shared → Prop} (F : Fm w W g0 s0 L ((d, o) :: ms) g s m) (hd : o.IsDictOf (SK w) kvs) (hz : kvs.length ≤ 100)
    (h : ∀ o' s', Fm w W g0 s0 L ((d, o') :: ms) g s' m → o'.IsDictOf (SK w) (without kvs x) → Q ((valueAt kvs x).getD v) s') : wpAny (model PW w) A (call (.builtin "dict.pop") [.ref d, .str x t, v]) Q E s := by
  have hD := F.dictOf (.head _) hd
  cases hl : valueAt kvs x with
  | some v' =>
    refine call_meetsIn PySem.F.slot_dict_pop hD.typeIs PySem.F.entry_dict_pop (PySem.F.args_dict_pop_3 _ _ _) (meets_dict_pop_there (SK w) d (strKind_is PW w x t) [v] (.inr ⟨v, rfl⟩) rfl) ⟨kvs, v', hD, by rw [sizeLine_eq]; omega, hl, fun h' hm hs => ?_⟩
    obtain ⟨o', ho', hd'⟩ := Heap.dictOf_iff.mp hm
    rw [hl] at h
    exact h o' _ (F.turn (tk := s.toks + 1) hs ho') hd'
  | none =>
    refine call_meetsIn PySem.F.slot_dict_pop hD.typeIs PySem.F.entry_dict_pop (PySem.F.args_dict_pop_3 _ _ _) (meets_dict_pop_default (SK w) d (strKind_is PW w x t) (F.lo (.head _)) rfl v) ⟨kvs, hD, hl, ?_⟩
    rw [hl] at h
    refine h o _ F.tok ?_
    have : without kvs x = kvs := by
      refine without_of_not_mem kvs x fun hm => ?_
      obtain ⟨p, hp, e⟩ := List.mem_map.mp hm
      have : (valueAt kvs x).isSome = true := by
        unfold valueAt
        rw [Option.isSome_map, List.find?_isSome]
        exact ⟨p, hp, by simp [e]⟩
      rw [hl] at this; cases this
    rw [this]; exact hd
end
theorem q_truthyI {w : World} {W : List Addr} {g0 g : Heap} {s0 s : Shared} {L : Addr} {ms : List (Addr × Obj)} {m : Str → Option Value} {A : Around} {E : Value → Shared → Prop} {C x dx : Addr} {od : Obj} {Q : Bool → Shared → Prop}
    (F : Fm w W g0 s0 L ms g s m) (h1 : s.heap.get? x = some (instO C dx)) (h2 : s.heap.get? dx = some od) (hs : findIn (Mine.hd.heap_39 w.params) (.ref C) "__bool__" = some none) (hl : findIn (Mine.hd.heap_39 w.params) (.ref C) "__len__" = some none) (h : Q true s) :
    wpAny (model PW w) A (truthy (.ref x)) Q E s := by
  obtain ⟨h0, F0, X0⟩ := F.fr
  exact truthy_K0 (ox := instO C dx) (od := some od) F0 X0 ⟨h1, rfl, rfl, h2⟩ hs hl h
theorem q_meth {w : World} {W : List Addr} {g0 g : Heap} {s0 s : Shared} {L : Addr} {ms : List (Addr × Obj)} {m : Str → Option Value} {A : Around} {E : Value → Shared → Prop} {C x dx f : Addr} {od : Obj} {name : Str} {pl : Sem Bool} {Q : Value × List Value → Shared → Prop}
    (F : Fm w W g0 s0 L ms g s m) (h1 : s.heap.get? x = some (instO C dx)) (h2 : s.heap.get? dx = some od) (hg : plainGet (Mine.hd.heap_39 w.params) C name = true) (hf : findIn (Mine.hd.heap_39 w.params) (.ref C) name = some (some (.ref f))) (ht : isFn (Mine.hd.heap_39 w.params) (.ref f) = true) (hs : lookIn name od = some none) (h : Q (.ref f, [.ref x]) s) :
    wpAny (model PW w) A (getMethod (.ref x) name pl) Q E s :=
  method_fn (ox := instO C dx) (od := some od) F.X ⟨h1, rfl, rfl, h2⟩ (plainGet_of hg).1 (plainGet_of hg).2 hf (beq_iff_eq.mp ht) (by unfold shadowIn; simp only; rw [hs]; rfl) h
theorem bis_start {w : World} {A : Around} {hp : Heap} {gg : Array GenState} {d : Drawn} {tk : Nat} {os : OsState} {E : Value → Shared → Prop} {Q : Fin → Shared → Prop} {l x : Addr} {its : Array Value} {n : Nat}
    (hz : its.size ≤ 100) (hl : hp.get? l = some { cls := .type "list", data := .seq its n }) (h : ∀ tk', Q (.again (.builtin "_bisect.bisect_right.loop" ⟨[.ref l, .ref x, rawInt 0, rawInt its.size, .none, .bool false, .bool true, rawInt 0], []⟩)) ⟨hp, gg, d, tk', os⟩) : wpAny (model PW w) A (Builtin.«_bisect.bisect_left» ⟨[.ref l, .ref x], []⟩) Q E ⟨hp, gg, d, tk, os⟩ := by
  have f1 := PySem.F.slot_list_len.lookup
  have f2 := PySem.F.slot_list_getitem.lookup
  unfold Builtin.«_bisect.bisect_left»
  wp_walk using wpAny_loadPart' hl
  refine codeAny_builtin entry_len ?_
  rw [Around.under_plainId plain_len _]
  have hT : (⟨hp, gg, d, tk, os⟩ : Shared).TypeIs (.ref l) "list" := ⟨_, hl, rfl⟩
  unfold Builtin.«len»
  refine wpAny_bind (m := oneArg "len" _) (wpAny_pure ?_)
  refine wpAny_bind (m := callSpecial? (.ref l) (Str.ofString "__len__")) (wpAny_callSpecial?_slot (name := Str.ofString "__len__") hT slot_list_len (wpAny_call_entry slot_list_len hT entry_list_len ?_ (args_list_len _)))
  show wpAny _ _ (do retInt (← seqSize l)) _ _ _
  unfold seqSize
  refine wpAny_bind (wpAny_bind (wpAny_load hl ?_))
  refine wpAny_pure (wpAny_bind (wpAny_mkInt (wpAny_pure ⟨_, rfl, ?_⟩)))
  refine wpAny_bind (wpAny_holding (wpAny_pure ?_))
  refine wpAny_bind (wpAny_letGo ?_)
  show wpAny _ _ (if (its.size : Int) < 0 then _ else _) _ _ _
  rw [if_neg (by omega)]
  show wpAny _ _ (if (its.size : Int) ≥ 2 ^ 63 then _ else _) _ _ _
  rw [if_neg (by omega)]
  refine wpAny_bind (wpAny_mkInt (wpAny_pure ?_))
  wp_walk using wpAny_loadPart' hl
  exact h _
theorem cs_list {prog : Program} {w : World} {A : Around} {s : Shared} {E : Value → Shared → Prop} {l : Addr} {its : Array Value} {k : Int} {t : Tok} {x : Value} {Q : Option Value → Shared → Prop} (hl : s.heap.IsList l its) (h0 : 0 ≤ k) (hfit : k < 2 ^ 63) (hx : its[k.toNat]? = some x) (h : Q (some x) s) :
    wpAny (model prog w) A (callSpecial? (.ref l) (Str.ofString "__getitem__") [.int k t]) Q E s := by
  obtain ⟨o, ho, hc, ne, hd⟩ := id hl
  refine wpAny_callSpecial?_slot (name := Str.ofString "__getitem__") hl.typeIs slot_list_getitem (wpAny_call_entry slot_list_getitem hl.typeIs entry_list_getitem ?_ (args_list_getitem _ _))
  show wpAny _ _ (Builtin.List.listSubscript? (.int k t) >>= _) _ _ s
  refine wpAny_bind (wpAny_listSubscript_int (fitsIndex_of h0 hfit) ?_)
  clear hfit
  obtain ⟨j, rfl⟩ := Int.eq_ofNat_of_zero_le h0
  have hx' : its[j]? = some x := hx
  show wpAny _ _ ((seqItemAt l j >>= fun r => pure (r.map (j, ·))) >>= _) _ _ s
  refine wpAny_bind (wpAny_bind (wpAny_seqItemAt ho hd (wpAny_pure ?_)))
  rw [hx']
  exact wpAny_pure ⟨x, rfl, h⟩
theorem bis_plain : plainId "_bisect.bisect_right.loop" = true := by decide +kernel
theorem bis_entry : entryFor table "_bisect.bisect_right.loop" = some Builtin.«_bisect.bisect_right.loop» := entryFor_of_tree (by kernel_rfl)
theorem bis_loop {w : World} {R : Ring} {tok : Nat → Addr} {l x : Addr} {its : Array Value} {n : Nat} {u : Int} (ok : RingOk R) (hsz : its.size = R.length) (k : Nat) :
    ∀ lo hi : Nat, hi - lo = k → lo ≤ hi → hi ≤ R.length → ∀ g : Heap, MeetsIn PW w (Builtin.«_bisect.bisect_right.loop» ⟨[.ref l, .ref x, rawInt lo, rawInt hi, .none, .bool false, .bool true, rawInt 0], []⟩)
      (fun A Rr s => s.heap.get? l = some { cls := .type "list", data := .seq its n } ∧ Rm A 1 30 ∧ Gd w g ∧ Sub g s.heap ∧ Tk g x u ∧ (∀ i, i < R.length → its[i]? = some (.ref (tok i)) ∧ Tk g (tok i) (R.getD i (0, 0)).1) ∧
        (∀ i, i < lo → (R.getD i (0, 0)).1 < u) ∧ (∀ i, hi ≤ i → i < R.length → u ≤ (R.getD i (0, 0)).1) ∧
        ∀ (p : Nat) g' s' t, Step g s g' s' → p ≤ R.length → (∀ i, i < p → (R.getD i (0, 0)).1 < u) → (∀ i, p ≤ i → i < R.length → u ≤ (R.getD i (0, 0)).1) → Rr (.ok (.ret (.int p t))) s') := by
  induction k using Nat.strongRecOn with
  | ind k ih =>
  intro lo hi hk hlh hhn g A Rr s h
  obtain ⟨hl, r, gd, hg, hx, hit, h1, h2, h⟩ := h
  obtain ⟨hp, gg, d, tk, os⟩ := s
  unfold Builtin.«_bisect.bisect_right.loop»
  wp_walk using wpAny_loadPart' hl
  have st0 : ∀ tk', Step g ⟨hp, gg, d, tk, os⟩ g ⟨hp, gg, d, tk', os⟩ := fun tk' => ⟨rfl, rfl, rfl, fun _ _ _ e => e, fun _ o e => ⟨o, e⟩, Sub.refl _, hg, fun _ _ e => .inl e⟩
  by_cases hlt : lo < hi
  · refine wpAny_ite_true (decide_eq_true (by omega)) ?_
    have hT : (⟨hp, gg, d, tk, os⟩ : Shared).TypeIs (.ref l) "list" := ⟨_, hl, rfl⟩
    refine wpAny_bind (wpAny_mkInt ?_)
    have em : ((lo : Int) + hi) / 2 = ((lo + hi) / 2 : Nat) := by omega
    have hm : (lo + hi) / 2 < R.length := by omega
    obtain ⟨hi1, hi2⟩ := hit _ hm
    have hn' := ok.le
    refine wpAny_bind (cs_list ⟨_, hl, rfl, _, rfl⟩ (by omega) (by omega) (by rw [show (((lo : Int) + hi) / 2).toNat = (lo + hi) / 2 by omega]; exact hi1) ?_)
    dsimp only
    rw [if_pos (by rfl)]
    refine wpAny_bind (wpAny_pure (wpAny_holding ?_))
    rw [if_pos rfl]
    have hi2' := hi2
    obtain ⟨d1, u1, t1, t2, n1, e1, e2⟩ := hi2'
    have hx' := hx
    obtain ⟨d3, u3, t3, t4, n3, e3, e4⟩ := hx'
    have I : W.InstAt hp (tok ((lo + hi) / 2)) (instO 768 d1) 768 (some _) := ⟨hg _ _ e1, rfl, rfl, hg _ _ e2⟩
    have J : W.InstAt hp x (instO 768 d3) 768 (some _) := ⟨hg _ _ e3, rfl, rfl, hg _ _ e4⟩
    have X : Frag.In (Mine.hd.heap_39 w.params) hp := (gd.keeps hg).1
    refine wpAny_bind (I.type.at (wpAny_bind (J.type.at ?_)))
    rw [if_pos (by simp)]
    refine wpAny_bind (wpAny_cRoomFor r.in1.cl ?_)
    simp only [Bool.false_eq_true, if_false]
    refine wpAny_bind (ifBound_K X I (f := 684) (by k_is) (by k_is) ?_)
    refine c_lt r.in1.less gd hg hi2 hx fun g' s' S => ?_
    dsimp only
    refine wpAny_bind (wpAny_truthy_bool ?_)
    refine wpAny_bind (wpAny_pure ?_)
    by_cases hv : (R.getD ((lo + hi) / 2) (0, 0)).1 < u
    · rw [decide_eq_true hv, if_neg (by decide)]
      rw [show ((lo : Int) + hi) / 2 + 1 = ((lo + hi) / 2 + 1 : Nat) by omega]
      refine wpAny_pure ⟨plainId_quiet bis_plain _, codeAny_builtin bis_entry ?_⟩
      rw [Around.under_plainId bis_plain _]
      refine ih (hi - ((lo + hi) / 2 + 1)) (by omega) ((lo + hi) / 2 + 1) hi rfl (by omega) hhn g' A Rr _ ⟨S.old _ _ (by simp) hl, r, gd.keeps S.sub, S.keep, hx.keeps S.sub, fun i q => ⟨(hit i q).1, (hit i q).2.keeps S.sub⟩, ?_, h2, ?_⟩
      · intro i q
        by_cases e : i = (lo + hi) / 2
        · rw [e]; exact hv
        · have := ok.inc i ((lo + hi) / 2) (by omega) hm
          omega
      · intro p g2 s2 t S2
        exact h p g2 s2 t (((st0 (tk + 1)).trans S).trans S2)
    · rw [decide_eq_false hv, if_pos (by decide)]
      rw [show ((lo : Int) + hi) / 2 = ((lo + hi) / 2 : Nat) by omega]
      refine wpAny_pure ⟨plainId_quiet bis_plain _, codeAny_builtin bis_entry ?_⟩
      rw [Around.under_plainId bis_plain _]
      refine ih ((lo + hi) / 2 - lo) (by omega) lo ((lo + hi) / 2) rfl (by omega) (by omega) g' A Rr _ ⟨S.old _ _ (by simp) hl, r, gd.keeps S.sub, S.keep, hx.keeps S.sub, fun i q => ⟨(hit i q).1, (hit i q).2.keeps S.sub⟩, h1, ?_, ?_⟩
      · intro i q q2
        by_cases e : i = (lo + hi) / 2
        · rw [e]; omega
        · have := ok.inc ((lo + hi) / 2) i (by omega) q2
          omega
      · intro p g2 s2 t S2
        exact h p g2 s2 t (((st0 (tk + 1)).trans S).trans S2)
  · refine wpAny_ite_false (decide_eq_false (by omega)) ?_
    wp_walk using wpAny_loadPart' hl
    have e : lo = hi := by omega
    subst e
    exact h lo g _ tk (st0 _) hhn h1 h2
theorem bis_meets {w : World} {R : Ring} {tok : Nat → Addr} {l x : Addr} {its : Array Value} {n : Nat} {u : Int} (ok : RingOk R) (hsz : its.size = R.length) (g : Heap) : MeetsIn PW w (Builtin.«_bisect.bisect_left» ⟨[.ref l, .ref x], []⟩)
      (fun A Rr s => s.heap.get? l = some { cls := .type "list", data := .seq its n } ∧ Rm A 1 30 ∧ Gd w g ∧ Sub g s.heap ∧ Tk g x u ∧ (∀ i, i < R.length → its[i]? = some (.ref (tok i)) ∧ Tk g (tok i) (R.getD i (0, 0)).1) ∧
        ∀ (p : Nat) g' s' t, Step g s g' s' → p ≤ R.length → (∀ i, i < p → (R.getD i (0, 0)).1 < u) → (∀ i, p ≤ i → i < R.length → u ≤ (R.getD i (0, 0)).1) → Rr (.ok (.ret (.int p t))) s') := by
  intro A Rr s h
  obtain ⟨hl, r, gd, hg, hx, hit, h⟩ := h
  obtain ⟨hp, gg, d, tk, os⟩ := s
  have hn' := ok.le
  refine bis_start (n := n) (by omega) hl fun tk' => ?_
  refine ⟨plainId_quiet bis_plain _, codeAny_builtin bis_entry ?_⟩
  rw [Around.under_plainId bis_plain _, hsz]
  refine bis_loop (w := w) (tok := tok) (n := n) ok hsz _ 0 R.length rfl (by omega) (by omega) g A Rr _ ⟨hl, r, gd, hg, hx, hit, fun i q => by omega, fun i q q2 => by omega, fun p g' s' t S => h p g' s' t ?_⟩
  exact StepW.trans (show Step g ⟨hp, gg, d, tk, os⟩ g ⟨hp, gg, d, tk', os⟩ from ⟨rfl, rfl, rfl, fun _ _ _ e => e, fun _ o e => ⟨o, e⟩, Sub.refl _, hg, fun _ _ e => .inl e⟩) S
theorem call_fnIn {w : World} {A : Around} {E : Value → Shared → Prop} {s : Shared} {id : String} {B : Builtin} {args : List Value} {S : PySem.Spec} {Q : Value → Shared → Prop} (kind : builtinKind id = none) (plain : plainId id = true)
    (entry : entryFor table id = some B) (ok : argsOk id ⟨args, []⟩) (g : MeetsIn PW w (B ⟨args, []⟩) S) (h : S A (wants Q E) s) : wpAny (model PW w) A (call (.builtin id) args) Q E s := by
  refine wpAny_call (codeAny_call_builtin plain entry ?_)
  have hfin := g A (wants Q E) s h
  simp only [checkBuiltinCall, kind]
  cases hsig : Manifest.signature? id with
  | none => exact wpAny_pure hfin
  | some sig =>
    simp only [argsOk, hsig] at ok
    have h2 : Bind.checkArgs id sig ⟨args, []⟩ = pure () := ok
    show wpAny _ _ (Bind.checkArgs id sig ⟨args, []⟩) _ _ s
    rw [h2]
    exact wpAny_pure hfin
theorem c_bisect {w : World} {A : Around} {g0 : Heap} {sE : Shared} {E : Value → Shared → Prop} {Q : Value → Shared → Prop} {R : Ring} {tok : Nat → Addr} {l x : Addr} {u : Int} (ok : RingOk R)
    (r : Rm A 1 30) (gd : Gd w g0) (hg : Sub g0 sE.heap) (hr : ∃ its n, sE.heap.get? l = some { cls := .type "list", data := .seq its n } ∧ its.size = R.length ∧ ∀ k, k < R.length → its[k]? = some (.ref (tok k)) ∧ Tk g0 (tok k) (R.getD k (0, 0)).1) (hx : Tk g0 x u)
    (h : ∀ (p : Nat) g' s' t, Step g0 sE g' s' → p ≤ R.length → (∀ i, i < p → (R.getD i (0, 0)).1 < u) → (∀ i, p ≤ i → i < R.length → u ≤ (R.getD i (0, 0)).1) → Q (.int p t) s') :
    wpAny (model PW w) A (call (.builtin "_bisect.bisect_left") [.ref l, .ref x]) Q E sE := by
  obtain ⟨its, n, hl, hsz, hit⟩ := hr
  exact call_fnIn (by decide +kernel) (by decide +kernel) (entryFor_of_tree (by kernel_rfl)) (by unfold argsOk; kernel_rfl) (bis_meets (w := w) (tok := tok) (n := n) (u := u) ok hsz g0) ⟨hl, r, gd, hg, hx, hit, h⟩
theorem valueAt_stored (kvs : List (Str × Value)) (x : Str) (v : Value) : valueAt (stored kvs x v) x = some v := by
  unfold stored
  split
  · rename_i h
    induction kvs with
    | nil => simp at h
    | cons p kvs ih =>
      by_cases e : p.1 = x
      · simp [valueAt, e]
      · have h' : (kvs.any fun kv => decide (kv.1 = x)) = true := by simpa [e] using h
        have := ih h'
        simp only [valueAt, List.map_cons, if_neg e, List.find?_cons, decide_eq_false e] at this ⊢
        exact this
  · rename_i h
    have hn : kvs.find? (fun kv => decide (kv.1 = x)) = none := by
      rw [List.find?_eq_none]
      intro p hp hx
      exact h (List.any_eq_true.mpr ⟨p, hp, hx⟩)
    simp [valueAt, List.find?_append, hn]
theorem valueAt_stored_ne (kvs : List (Str × Value)) {x y : Str} (v : Value) (h : y ≠ x) : valueAt (stored kvs x v) y = valueAt kvs y := by
  unfold stored
  split
  · rename_i hh
    clear hh
    induction kvs with
    | nil => rfl
    | cons p kvs ih =>
      by_cases e : p.1 = x
      · have e2 : ¬ p.1 = y := fun q => h (q.symm.trans e)
        have e3 : ¬ x = y := fun q => h q.symm
        simp only [valueAt, List.map_cons, if_pos e, List.find?_cons, decide_eq_false e2, decide_eq_false e3] at ih ⊢
        simpa [e, e3, valueAt] using ih
      · by_cases e2 : p.1 = y
        · simp only [valueAt, List.map_cons, if_neg e, List.find?_cons, decide_eq_true e2]
        · simp only [valueAt, List.map_cons, if_neg e, List.find?_cons, decide_eq_false e2] at ih ⊢
          exact ih
  · have e3 : ¬ x = y := fun q => h q.symm
    simp [valueAt, List.find?_append, e3]
theorem valueAt_without (kvs : List (Str × Value)) (x : Str) : valueAt (without kvs x) x = none := by
  unfold valueAt without
  rw [Option.map_eq_none_iff, List.find?_eq_none]
  intro p hp
  have := (List.mem_filter.mp hp).2
  simpa using this
theorem valueAt_without_ne (kvs : List (Str × Value)) {x y : Str} (h : y ≠ x) : valueAt (without kvs x) y = valueAt kvs y := by
  unfold valueAt without
  congr 1
  induction kvs with
  | nil => rfl
  | cons p kvs ih =>
    by_cases e : p.1 = x
    · have e2 : ¬ p.1 = y := fun q => h (q.symm.trans e)
      rw [List.filter_cons_of_neg (by simp [e]), List.find?_cons, decide_eq_false e2]
      exact ih
    · rw [List.filter_cons_of_pos (by simp [e]), List.find?_cons, List.find?_cons]
      by_cases e2 : p.1 = y
      · rw [decide_eq_true e2]
      · rw [decide_eq_false e2]; exact ih

theorem truthyD {w : World} {A : Around} {s : Shared} {E : Value → Shared → Prop} {d : Addr} {es : List DictEntry} {n : Nat} {Q : Bool → Shared → Prop} (ho : s.heap.get? d = some (dictO es n)) (hd : (d == sysModules) = false) (hz : es.length ≤ 100)
    (h : ∀ tk, Q (!es.isEmpty) { s with toks := tk }) : wpAny (model PW w) A (truthy (.ref d)) Q E s := by
  have hT : s.TypeIs (.ref d) "dict" := ⟨_, ho, rfl⟩
  have hne : ((es.length : Int) != 0) = !es.isEmpty := by cases es <;> simp <;> omega
  have m : MeetsIn PW w (Builtin.«dict.__len__» ⟨[.ref d], []⟩) (fun _ R s => s.heap.get? d = some (dictO es n) ∧ R (.ok (.ret (.int es.length s.toks))) { s with toks := s.toks + 1 }) :=
    .of_wp fun A R s ⟨ho, h⟩ => by
      show wpAny _ _ (dictSize d >>= _) _ _ s
      unfold dictSize
      refine wpAny_bind (wpAny_bind (wpAny_dictEntries ho rfl (wpAny_pure ?_)))
      show wpAny _ _ (Builtin.Dict.pendingCount d >>= _) _ _ s
      refine wpAny_bind (wpAny_pendingCount_other hd ?_)
      refine wpAny_ret_mkInt ?_
      rw [Nat.add_zero, show es.toArray.size = es.length by simp]; exact h
  have key : wpAny (model PW w) A (runValue (.builtin "len" ⟨[.ref d], []⟩)) (fun r s' => (∃ t, r = .int es.length t) ∧ Q (!es.isEmpty) s') E s := by
    refine wpAny_runValue (codeAny_builtin entry_len ?_)
    rw [Around.under_plainId plain_len _]
    unfold Builtin.«len»
    refine wpAny_bind (m := oneArg "len" _) (wpAny_pure ?_)
    refine wpAny_bind (m := callSpecial? (.ref d) (Str.ofString "__len__")) (wpAny_callSpecial?_slot (name := Str.ofString "__len__") hT PySem.F.slot_dict_len
      (call_meetsIn PySem.F.slot_dict_len hT PySem.F.entry_dict_len (PySem.F.args_dict_len_1 _) m ⟨ho, ?_⟩))
    show wpAny _ _ _ _ _ { s with toks := s.toks + 1 }
    refine wpAny_bind (wpAny_holding (wpAny_pure ?_))
    refine wpAny_bind (wpAny_letGo ?_)
    show wpAny _ _ (if ((es.length : Nat) : Int) < 0 then _ else _) _ _ _
    rw [if_neg (by omega)]
    show wpAny _ _ (if ((es.length : Nat) : Int) ≥ 2 ^ 63 then _ else _) _ _ _
    rw [if_neg (by omega)]
    exact wpAny_bind (wpAny_mkInt (wpAny_pure ⟨⟨_, rfl⟩, h _⟩))
  unfold truthy
  refine wpAny_bind (wpAny_callSpecial?_none (name := Str.ofString "__bool__") hT noBool_dict ?_)
  refine wpAny_bind (wpAny_specialOf (name := Str.ofString "__len__") hT PySem.F.slot_dict_len.lookup ?_)
  exact wpAny_bind (wpAny_mono key (fun r s' h' => by obtain ⟨⟨t, rfl⟩, hq⟩ := h'; exact wpAny_pure (hne ▸ hq)) fun _ _ e => e)
def IsSimple (g : Heap) (st : Addr) (c : Int) : Prop := ∃ ds rf dr u1 t1 n1 u2 t2 q2 u3 t3 u4 t4 q3 n2, g.get? st = some (instO 368 ds) ∧ g.get? ds = some (dictO [en u1 w_replication_factor_info t1 (.ref rf)] n1) ∧
  g.get? rf = some (instO 318 dr) ∧ g.get? dr = some (dictO [en u2 w_all_replicas t2 (.int c q2), en u3 w_transient_replicas t3 .none, en u4 w_full_replicas t4 (.int c q3)] n2)
theorem IsSimple.keeps {g h : Heap} {a v} (x : IsSimple g a v) (k : Sub g h) : IsSimple h a v := by
  obtain ⟨a1, a2, a3, a4, a5, a6, a7, a8, a9, b1, b2, b3, b4, b5, b6, e1, e2, e3, e4⟩ := x
  exact ⟨a1, a2, a3, a4, a5, a6, a7, a8, a9, b1, b2, b3, b4, b5, b6, k _ _ e1, k _ _ e2, k _ _ e3, k _ _ e4⟩
theorem c_rf {w : World} {A : Around} {g0 : Heap} {sE : Shared} {R : Result → Shared → Prop} {st : Addr} {c : Int}
    (r : Rm A 1 20) (gd : Gd w g0) (hg : Sub g0 sE.heap) (hx : IsSimple g0 st c)
    (h : ∀ g' s' t, Step g0 sE g' s' → R (.ok (.ret (.int c t))) s') :
    codeAny (model PW w) A (.call (.ref 336) ⟨[.ref st], []⟩) R sE := by
  obtain ⟨ds, rf, dr, u1, t1, n1, u2, t2, q2, u3, t3, u4, t4, q3, n2, e1, e2, e3, e4⟩ := hx
  refine fn_code (binds := [("self", .ref st)]) [] [] gd hg r (by k_is) (by k_is) (BindsTo.of_eq rfl) (locs rfl) (by simp) (by simp) rfl rfl rfl (by decide) fun L s F => ?_
  walk_at "mm"
  refine q_own F (F.get (F.gd_sub e1)) (F.get (F.gd_sub e2)) (by k_is) (by k_is) (by k_is) (by k_is) (by rfl) (by k_handed) fun s F => ?_
  walk_at "mm"
  refine q_own F (F.get (F.gd_sub e3)) (F.get (F.gd_sub e4)) (by k_is) (by k_is) (by k_is) (by k_is) (by rfl) (by k_handed) fun s F => ?_
  walk_at "mm"
  exact h _ s _ F.step
theorem q_rf {st : Addr} {c : Int} {expr : Bool} {Q : Value → Shared → Prop} {W : List Addr} {g0 g : Heap} {s0 s : Shared} {L : Addr} {ms : List (Addr × Obj)} {m : Str → Option Value} {w : World} {A : Around} {E : Value → Shared → Prop}
    (r : Rm A 1 30) (F : Fm w W g0 s0 L ms g s m) (hx : IsSimple g st c) (h : ∀ g' s' t, Sub g g' → Fm w W g0 s0 L ms g' s' m → Q (.int c t) s') : wpAny (model PW w) A (getAttr (.ref st) (Str.ofString "replication_factor") expr) Q E s := by
  obtain ⟨h0, F0, X0⟩ := F.fr
  have hx' := hx
  obtain ⟨ds, rf, dr, u1, t1, n1, u2, t2, q2, u3, t3, u4, t4, q3, n2, e1, e2, e3, e4⟩ := hx
  have hp : ∃ rest, recIn (Mine.hd.heap_39 w.params) 337 "property" = some (.ref 336 :: rest) := ⟨_, by k_is⟩
  obtain ⟨rest, hp⟩ := hp
  refine get_prop (rest := rest) (C := 368) (p := 337) (fget := 336) (ox := instO 368 ds) (od := dictO [en u1 w_replication_factor_info t1 (.ref rf)] n1) F0 X0 ⟨F.get e1, rfl, rfl, F.get e2⟩ ?_ ?_ ?_ ?_ ?_ ?_ ?_
  · k_is
  · k_is
  · k_is
  · k_is
  · k_is
  · exact hp
  · refine c_rf r.in1.less F.gd F.step.keep hx' fun g' s' t S => ?_
    show wpAny _ _ (handedOut _) _ _ _
    rw [handedOut_of (by rfl)]
    exact wpAny_pure (h g' s' t S.sub ((F.tok (tk := s.toks + 1)).called S))
def hostsV (HA : Nat → Addr) (ks : List Nat) : List Value := ks.map fun k => .ref (HA k)
def HsOf (g : Heap) (HA : Nat → Addr) : Prop := ∀ k, k < 3 → Hs g (HA k) k
def RgOf (g : Heap) (R : Ring) (tok : Nat → Addr) (rl : Addr) : Prop := ∃ its n, g.get? rl = some (listOf its n) ∧ its.size = R.length ∧ ∀ k, k < R.length → its[k]? = some (.ref (tok k)) ∧ Tk g (tok k) (R.getD k (0, 0)).1
def OwOf (g : Heap) (R : Ring) (HA tok : Nat → Addr) (d : Addr) : Prop := ∃ kvs n, g.get? d = some (tdO kvs n) ∧ TdOk g kvs ∧ ∀ k, k < R.length → ∃ j : Nat, kvs[j]? = some ((R.getD k (0, 0)).1, tok k, Value.ref (HA (R.getD k (0, 0)).2))
def rmK (R : Ring) (tok ls : Nat → Addr) (i : Nat) : List (Int × Addr × Value) := (List.range i).map fun k => ((R.getD k (0, 0)).1, tok k, .ref (ls k))
def RmOf (g : Heap) (R : Ring) (HA tok : Nat → Addr) (c : Nat) (d : Addr) : Prop := ∃ ls n, g.get? d = some (tdO (rmK R tok ls R.length) n) ∧ ∀ i, i < R.length → ∃ n, g.get? (ls i) = some (listOf (hostsV HA (wlk R c i R.length)).toArray n)
theorem HsOf.keeps {g h : Heap} {HA} (x : HsOf g HA) (k : Sub g h) : HsOf h HA := fun i hi => (x i hi).keeps k
theorem RgOf.keeps {g h : Heap} {R tok rl} (x : RgOf g R tok rl) (k : Sub g h) : RgOf h R tok rl := let ⟨its, n, a, b, c⟩ := x; ⟨its, n, k _ _ a, b, fun i hi => ⟨(c i hi).1, (c i hi).2.keeps k⟩⟩
theorem OwOf.keeps {g h : Heap} {R HA tok d} (x : OwOf g R HA tok d) (k : Sub g h) : OwOf h R HA tok d := let ⟨kvs, n, a, b, c⟩ := x; ⟨kvs, n, k _ _ a, b.keeps k, c⟩
theorem RmOf.keeps {g h : Heap} {R HA tok c d} (x : RmOf g R HA tok c d) (k : Sub g h) : RmOf h R HA tok c d := let ⟨ls, n, a, b⟩ := x; ⟨ls, n, k _ _ a, fun i hi => let ⟨n, e⟩ := b i hi; ⟨n, k _ _ e⟩⟩
theorem Hs.val {g : Heap} {a i j} (x : Hs g a i) (y : Hs g a j) : i = j := by
  obtain ⟨t1, t2, t3, dd, e1, _⟩ := x
  obtain ⟨u1, u2, u3, de, e2, _⟩ := y
  rw [e1] at e2
  have : nm i = nm j := by injection e2 with e2; injection e2 with _ _ e2 _; injection e2 with e2; injection e2 with e2; injection e2 with e2; injection e2
  exact nm_inj this
theorem hsAll_of {g : Heap} {HA : Nat → Addr} (h : HsOf g HA) : ∀ {ks : List Nat}, (∀ k ∈ ks, k < 3) → HsAll g (hostsV HA ks) ks
  | [], _ => trivial
  | k :: ks, hk => ⟨⟨HA k, rfl, h k (hk k (.head _))⟩, hsAll_of h fun j hj => hk j (.tail _ hj)⟩
theorem hosts_uniq {g : Heap} {HA : Nat → Addr} (h : HsOf g HA) {ks : List Nat} (hk : ∀ k ∈ ks, k < 3) {j : Nat} : ∀ v ∈ hostsV HA ks, ∀ a, v = .ref a → Hs g a j → a = HA j := by
  intro v hv a e hs
  obtain ⟨k, hk', rfl⟩ := List.mem_map.mp hv
  have e : HA k = a := by injection e
  subst e
  rw [(h k (hk k hk')).val hs]
theorem hostsV_push (HA : Nat → Addr) (ks : List Nat) (k : Nat) : (hostsV HA ks).toArray.push (.ref (HA k)) = (hostsV HA (ks ++ [k])).toArray := by simp [hostsV]
theorem wlk_full (R : Ring) (c i j : Nat) (h : c ≤ (wlk R c i j).length) (k : Nat) : wlk R c i (j + k) = wlk R c i j := by
  induction k with
  | zero => rfl
  | succ k ih =>
    show wlk R c i ((j + k) + 1) = _
    simp only [wlk]
    rw [ih, if_neg (by omega)]
theorem rmK_succ (R : Ring) (tok ls : Nat → Addr) (i l : Nat) : rmK R tok (fun k => if k = i then l else ls k) (i + 1) = rmK R tok ls i ++ [((R.getD i (0, 0)).1, tok i, .ref l)] := by
  unfold rmK
  rw [List.range_succ, List.map_append]
  congr 1
  · refine List.map_congr_left fun k hk => ?_
    have := List.mem_range.mp hk
    simp only []
    rw [if_neg (by omega)]
  · simp
theorem rmK_tk {g : Heap} {R : Ring} {tok ls : Nat → Addr} (ok : RingOk R) {i : Nat} (hi : i ≤ R.length) (h : ∀ k, k < R.length → Tk g (tok k) (R.getD k (0, 0)).1) : TdOk g (rmK R tok ls i) := by
  refine ⟨fun x hx => ?_, ?_⟩
  · obtain ⟨k, hk, rfl⟩ := List.mem_map.mp hx
    exact h k (by have := List.mem_range.mp hk; omega)
  · unfold rmK
    rw [List.map_map]
    refine List.pairwise_map.mpr ((List.pairwise_lt_range (n := i)).imp_of_mem fun {a b} ha hb q e => ?_)
    have ha := List.mem_range.mp ha
    have hb := List.mem_range.mp hb
    have e : hv (R.getD a (0, 0)).1 = hv (R.getD b (0, 0)).1 := e
    have := ok.inc a b q (by omega)
    have := hv_inj (by omega) (by omega) e
    omega
theorem rmK_new {R : Ring} {tok ls : Nat → Addr} (ok : RingOk R) {i : Nat} (hi : i < R.length) : hv (R.getD i (0, 0)).1 ∉ (rmK R tok ls i).map (fun x => hv x.1) := by
  intro h
  obtain ⟨x, hx, e⟩ := List.mem_map.mp h
  obtain ⟨k, hk, rfl⟩ := List.mem_map.mp hx
  have hk := List.mem_range.mp hk
  have e : hv (R.getD k (0, 0)).1 = hv (R.getD i (0, 0)).1 := e
  have := ok.inc k i hk hi
  have := hv_inj (by omega) (by omega) e
  omega

theorem c_simple {w : World} {A : Around} {g0 : Heap} {sE : Shared} {E : Value → Shared → Prop} {Q : Value → Shared → Prop} {st ow rl : Addr} {R : Ring} {HA tok : Nat → Addr} {c : Nat}
    (r : Rm A 10 60) (gd : Gd w g0) (hg : Sub g0 sE.heap) (hst : IsSimple g0 st c) (hH : HsOf g0 HA) (hr : RgOf g0 R tok rl) (how : OwOf g0 R HA tok ow) (ok : RingOk R) (hc : c ≤ 3)
    (h : ∀ d g' s', Step g0 sE g' s' → RmOf g' R HA tok c d → Q (.ref d) s') :
    wpAny (model PW w) A (call (.ref 351) [.ref st, .ref ow, .ref rl] []) Q E sE := by
  have hn := ok.pos
  have hn' := ok.le
  have ru := r.un
  obtain ⟨its, nr, hl0, hsz, hit⟩ := hr
  have hl : g0.IsList rl its := ⟨_, hl0, rfl, _, rfl⟩
  obtain ⟨kvs, nk, hod, hok, hown⟩ := how
  have ow3 := fun j i => wlk_own ok c i j
  refine fn_call (binds := [("self", .ref st), ("token_to_host_owner", .ref ow), ("ring", .ref rl)]) [] [] gd hg r (by k_is) (by k_is) (BindsTo.of_eq rfl) (locs rfl) (by simp) (by simp) rfl rfl rfl (by decide) fun L s F => ?_
  have rd : ∀ env, Rm (A.deeper env) 9 57 := fun _ => r.deeper
  walk_at "mm"
  refine q_newDictM F fun D s F nD => ?_
  walk_at "mm"
  refine q_len F (isl hl (F.step.sub.trans F.step.keep)) (by omega) fun s t F => ?_
  walk_at "mm"
  refine q_range F fun rr g s t u v S F hrr => ?_
  walk_at "mm"
  rw [hsz] at hrr
  refine for_range (fun i ms' g1 m' => ∃ ls n, ms' = [(D, tdO (rmK R tok ls i) n)] ∧ (∀ k, k < i → ∃ n, g1.get? (ls k) = some (listOf (hostsV HA (wlk R c k R.length)).toArray n)) ∧ m' "self" = some (.ref st) ∧ m' "token_to_host_owner" = some (.ref ow) ∧ m' "ring" = some (.ref rl) ∧ m' "replica_map" = some (.ref D))
    r.hd (by omega) F hrr ⟨fun _ => 0, 0, rfl, by simp, rfl, rfl, rfl, rfl⟩ rfl rfl ?_ ?_ ?_
  · rintro i ms' g1 s m' t I oi hi hs1 ⟨ls, n, rfl, hls, hm1, hm2, hm3, hm4⟩ F
    simp only [List.cons_append, List.nil_append] at F
    clear hrr
    walk_at "mm"
    refine Assign_Tuple_swapped (names := ["j", "hosts"]) ?_
    walk_at "mm"
    refine callWith_type0 (q_list0 (rd _) F fun hl0 g2 s hs2 F nhl => ?_)
    walk_at "mm"
    refine q_newTup F (by simp) fun tp g3 s hs3 F htp => ?_
    refine q_unpack r.hd F ⟨_, F.get htp, rfl, _, rfl⟩ rfl fun g4 s hs4 F => ?_
    refine assignInOrder_cons (q_bind F fun s F => assignInOrder_cons (q_bind F fun s F => assignInOrder_nil ?_))
    walk_at "mm"
    refine wpAny_While ?_
    refine while_loop R.length (fun k ms' g5 m5 => ∃ j n5, j ≤ R.length ∧ k = R.length - j ∧ ms' = (hl0, listOf (hostsV HA (wlk R c i j)).toArray n5) :: (D, tdO (rmK R tok ls i) n) :: [(I, oi)] ∧ m5 "self" = some (.ref st) ∧ m5 "token_to_host_owner" = some (.ref ow) ∧ m5 "ring" = some (.ref rl) ∧ m5 "replica_map" = some (.ref D) ∧ m5 "hosts" = some (.ref hl0) ∧ (∃ t, m5 "i" = some (.int i t)) ∧ (∃ t, m5 "j" = some (.int j t)))
      F ⟨0, 0, Nat.zero_le _, rfl, rfl, by walk_at "hv", by walk_at "hv", by walk_at "hv", by walk_at "hv", by walk_at "hv", ⟨_, by walk_at "hv"⟩, ⟨_, by walk_at "hv"⟩⟩ ?_
    rintro k ms' g5 s m5 hs5 ⟨j, n5, hj, rfl, rfl, hm1, hm2, hm3, hm4, hm5, ⟨ti, hm6⟩, ⟨tj, hm7⟩⟩ F
    have hlen : (hostsV HA (wlk R c i j)).toArray.size = (wlk R c i j).length := by simp [hostsV]
    have hwl := wlk_len R c i j
    refine q_cut (fun b s2 => ∃ g6, Sub g5 g6 ∧ Fm w [] g0 sE L ((hl0, listOf (hostsV HA (wlk R c i j)).toArray n5) :: (D, tdO (rmK R tok ls i) n) :: [(I, oi)]) g6 s2 m5 ∧ b = (decide ((wlk R c i j).length < c) && decide (j < R.length))) ?_ ?_
    · walk_at "mm"
      refine q_len F ⟨_, F.turnable (.head _), rfl, _, rfl⟩ (by omega) fun s t F => ?_
      walk_at "mm"
      refine q_rf (rd _).less F (hst.keeps F.step.sub) fun g6 s t hs6 F => ?_
      walk_at "mm"
      by_cases h1 : (wlk R c i j).length < c
      · refine q_if_t (by rw [hlen]; simp; omega) ?_
        walk_at "mm"
        refine q_len F (isl hl (F.step.sub.trans F.step.keep)) (by omega) fun s t F => ?_
        walk_at "mm"
        by_cases h2 : j < R.length
        · refine q_if_t (by rw [hsz]; simp; omega) ?_
          walk_at "mm"
          refine ⟨g6, hs6, F, ?_⟩
          rw [decide_eq_true h1, decide_eq_true h2]; rfl
        · refine q_if_f (by rw [hsz]; simp; omega) ?_
          refine ⟨g6, hs6, F, ?_⟩
          rw [decide_eq_true h1, decide_eq_false h2]; rfl
      · refine q_if_f (by rw [hlen]; simp; omega) ?_
        refine ⟨g6, hs6, F, ?_⟩
        rw [decide_eq_false h1]; rfl
    rintro b s ⟨g6, hs6, F, hb⟩
    refine ⟨g6, _, hs6, F, fun hbt => ?_, fun hbf => ?_⟩
    · rw [hbt] at hb
      have hb := hb.symm
      rw [Bool.and_eq_true, decide_eq_true_eq, decide_eq_true_eq] at hb
      obtain ⟨hcl, hjl⟩ := hb
      have hk : (i + j) % R.length < R.length := Nat.mod_lt _ (by omega)
      obtain ⟨hT, hTk⟩ := hit _ hk
      obtain ⟨jj, hjj⟩ := hown _ hk
      walk_at "mm"
      refine q_len F (isl hl (F.step.sub.trans F.step.keep)) (by omega) fun s t F => ?_
      walk_at "mm"
      refine q_mod F (by omega) fun s t F => ?_
      walk_at "mm"
      refine q_itemN ((i + j) % R.length) (isl hl (F.step.sub.trans F.step.keep)) (by rw [hsz]; simp) (by omega) hT ?_
      walk_at "mm"
      refine q_tdGet (rd _).less F (hok.keeps F.step.sub) (F.get (F.gd_sub hod)) hjj (by have := ok.lo ((i + j) % R.length); omega) (by have := ok.hi ((i + j) % R.length); omega) fun g7 s hs7 F => ?_
      walk_at "mm"
      refine q_hsNotIn (ks := wlk R c i j) (j := (R.getD ((i + j) % R.length) (0, 0)).2) (rd _).less F (F.turnable (.head _)) (hsAll_of (hH.keeps F.step.sub) (ow3 j i)) (hH.keeps F.step.sub _ (ok.own _)) (ok.own _) (ow3 j i) (hosts_uniq (hH.keeps (F.step.sub.trans F.step.keep)) (ow3 j i)) ?_
      walk_at "mm"
      have fin : ∀ s (its3 : Nat) n3 g8 m8, Sub g5 g8 → Fm w [] g0 sE L ((hl0, listOf (hostsV HA (wlk R c i (j + 1))).toArray n3) :: (D, tdO (rmK R tok ls i) n) :: [(I, oi)]) g8 s m8 → m8 "self" = some (.ref st) → m8 "token_to_host_owner" = some (.ref ow) → m8 "ring" = some (.ref rl) → m8 "replica_map" = some (.ref D) → m8 "hosts" = some (.ref hl0) → (∃ t, m8 "i" = some (.int i t)) → (∃ t, m8 "j" = some (.int ((j : Int) + 1) t)) → Sub g6 g8 →
          ∃ k' ms3 g3 m3, k' < R.length - j ∧ Sub g6 g3 ∧ Fm w [] g0 sE L ms3 g3 s m3 ∧ ∃ j n5, j ≤ R.length ∧ k' = R.length - j ∧ ms3 = (hl0, listOf (hostsV HA (wlk R c i j)).toArray n5) :: (D, tdO (rmK R tok ls i) n) :: [(I, oi)] ∧ m3 "self" = some (.ref st) ∧ m3 "token_to_host_owner" = some (.ref ow) ∧ m3 "ring" = some (.ref rl) ∧ m3 "replica_map" = some (.ref D) ∧ m3 "hosts" = some (.ref hl0) ∧ (∃ t, m3 "i" = some (.int i t)) ∧ (∃ t, m3 "j" = some (.int j t)) := by
        rintro s its3 n3 g8 m8 hs8 F a1 a2 a3 a4 a5 a6 a7 hg
        exact ⟨R.length - (j + 1), _, g8, m8, by omega, hg, F, j + 1, n3, by omega, rfl, rfl, a1, a2, a3, a4, a5, a6, by obtain ⟨t, h⟩ := a7; exact ⟨t, by rw [h]; rfl⟩⟩
      by_cases hin : (R.getD ((i + j) % R.length) (0, 0)).2 ∈ wlk R c i j
      · refine q_if_f (by simp only [hin]; rfl) ?_
        walk_at "mm"
        have e : wlk R c i (j + 1) = wlk R c i j := by simp only [wlk]; rw [if_neg fun h => h.1 hin]
        exact ⟨.inl rfl, fin _ 0 _ _ _ (hs6.trans hs7) (by rw [e]; exact F) (by walk_at "hv") (by walk_at "hv") (by walk_at "hv") (by walk_at "hv") (by walk_at "hv") ⟨_, by walk_at "hv"⟩ ⟨_, by walk_at "hv"⟩ hs7⟩
      · refine q_if_t (by simp only [hin]; rfl) ?_
        walk_at "mm"
        have e : wlk R c i (j + 1) = wlk R c i j ++ [(R.getD ((i + j) % R.length) (0, 0)).2] := by simp only [wlk]; rw [if_pos ⟨hin, hcl⟩]; rfl
        refine q_append F (by omega) fun s F => ?_
        rw [hostsV_push, ← e] at F
        walk_at "mm"
        exact ⟨.inl rfl, fin _ 0 _ _ _ (hs6.trans hs7) F (by walk_at "hv") (by walk_at "hv") (by walk_at "hv") (by walk_at "hv") (by walk_at "hv") ⟨_, by walk_at "hv"⟩ ⟨_, by walk_at "hv"⟩ hs7⟩
    · rw [hbf] at hb
      have hb : ¬ ((wlk R c i j).length < c ∧ j < R.length) := by
        intro h
        rw [decide_eq_true h.1, decide_eq_true h.2] at hb
        cases hb
      have e : wlk R c i R.length = wlk R c i j := by
        by_cases hjn : j < R.length
        · have := wlk_full R c i j (by omega) (R.length - j)
          rwa [Nat.add_sub_cancel' (by omega)] at this
        · rw [show R.length = j from by omega]
      rw [← e] at F
      obtain ⟨g7, hs7, F, hhl⟩ := F.rest nhl
      obtain ⟨hT, hTk⟩ := hit i hi
      have hsub := ((hs2.trans hs3).trans hs4).trans ((hs5.trans hs6).trans hs7)
      walk_at "mm"
      refine wpAny_Assign_Subscript ?_
      walk_at "mm"
      refine q_itemN i (isl hl (F.step.sub.trans F.step.keep)) rfl (by omega) hT ?_
      refine q_tdSet (rd _).less F (rmK_tk ok (by omega) fun k hk => (hit k hk).2.keeps F.step.sub) (hTk.keeps F.step.sub) (rmK_new ok hi) (by simp [rmK]; omega) (by have := ok.lo i; omega) (by have := ok.hi i; omega) fun g8 s hs8 F => ?_
      rw [← rmK_succ] at F
      walk_at "mm"
      refine ⟨.inl rfl, _, g8, m5, hsub.trans hs8, F, _, _, rfl, ?_, hm1, hm2, hm3, hm4⟩
      intro k hk
      by_cases q : k = i
      · subst q
        exact ⟨n5, by rw [if_pos rfl]; exact hs8 _ _ hhl⟩
      · obtain ⟨nn, hh⟩ := hls k (by omega)
        exact ⟨nn, by rw [if_neg q]; exact hs8 _ _ (hsub _ _ hh)⟩
  · rintro i ms' g1 g2 m' hs2 ⟨ls, n, e, hls, hm⟩
    exact ⟨ls, n, e, fun k hk => let ⟨nn, hh⟩ := hls k hk; ⟨nn, hs2 _ _ hh⟩, hm⟩
  · rintro ms' g1 s m' hs1 ⟨ls, n, rfl, hls, hm1, hm2, hm3, hm4⟩ F
    obtain ⟨g2, hs2, F, hD⟩ := F.rest nD
    walk_at "mm"
    exact h D g2 _ F.step ⟨ls, n, hD, fun i hi => let ⟨nn, hh⟩ := hls i hi; ⟨nn, hs2 _ _ hh⟩⟩
def IsTm (g : Heap) (T rl ow H M : Addr) : Prop := ∃ dT u1 t1 u2 t2 u3 t3 u4 t4 u5 t5 n, g.get? T = some (instO 531 dT) ∧
  g.get? dT = some (dictO [en u1 w_token_class t1 (.ref 768), en u2 w_ring t2 (.ref rl), en u3 w_token_to_host_owner t3 (.ref ow), en u4 w_tokens_to_hosts_by_ks t4 (.ref H), en u5 w__metadata t5 (.ref M)] n)
theorem IsTm.keeps {g h : Heap} {T rl ow H M} (x : IsTm g T rl ow H M) (k : Sub g h) : IsTm h T rl ow H M := by
  obtain ⟨a1, a2, a3, a4, a5, a6, a7, a8, a9, b1, b2, b3, e1, e2⟩ := x
  exact ⟨a1, a2, a3, a4, a5, a6, a7, a8, a9, b1, b2, b3, k _ _ e1, k _ _ e2⟩
def StOf (g : Heap) : Option Nat → Value → Prop
  | none, v => v = .none
  | some 0, v => ∃ a d, v = .ref a ∧ g.get? a = some (instO 446 d) ∧ g.get? d = some emptyD
  | some (c + 1), v => ∃ a, v = .ref a ∧ IsSimple g a ((c + 1 : Nat) : Int)
def KsOf (g : Heap) (ks : Addr) (cp : Option Nat) : Prop := ∃ dk st, g.get? ks = some (instO 481 dk) ∧ KsD g dk st ∧ StOf g cp st
def MpOf (g : Heap) (R : Ring) (HA tok : Nat → Addr) (c : Nat) (d : Addr) : Prop := if c = 0 then g.get? d = some emptyD else RmOf g R HA tok c d
def RvOf (g : Heap) (R : Ring) (HA tok : Nat → Addr) : Option Nat → Value → Prop
  | none, v => v = .none
  | some c, v => ∃ d, v = .ref d ∧ MpOf g R HA tok c d
theorem StOf.keeps {g h : Heap} {v} (k : Sub g h) : ∀ {c}, StOf g c v → StOf h c v
  | none, x => x
  | some 0, ⟨a, d, e, e1, e2⟩ => ⟨a, d, e, k _ _ e1, k _ _ e2⟩
  | some (_ + 1), ⟨a, e, x⟩ => ⟨a, e, x.keeps k⟩
theorem KsD.keeps {g h : Heap} {d st} (x : KsD g d st) (k : Sub g h) : KsD h d st := by
  obtain ⟨a1, a2, a3, a4, a5, a6, a7, a8, a9, b1, b2, b3, b4, b5, b6, b7, b8, b9, c1, c2, c3, c4, c5, c6, c7, c8, c9, d1, d2, d3, e⟩ := x
  exact ⟨a1, a2, a3, a4, a5, a6, a7, a8, a9, b1, b2, b3, b4, b5, b6, b7, b8, b9, c1, c2, c3, c4, c5, c6, c7, c8, c9, d1, d2, d3, k _ _ e⟩
theorem KsOf.keeps {g h : Heap} {ks cp} (x : KsOf g ks cp) (k : Sub g h) : KsOf h ks cp := let ⟨dk, st, e, a, b⟩ := x; ⟨dk, st, k _ _ e, a.keeps k, b.keeps k⟩
theorem MpOf.keeps {g h : Heap} {R HA tok c d} (x : MpOf g R HA tok c d) (k : Sub g h) : MpOf h R HA tok c d := by
  unfold MpOf at x ⊢
  split at x
  · rw [if_pos ‹_›]; exact k _ _ x
  · rw [if_neg ‹_›]; exact x.keeps k
theorem RvOf.keeps {g h : Heap} {R HA tok v} (k : Sub g h) : ∀ {cp}, RvOf g R HA tok cp v → RvOf h R HA tok cp v
  | none, x => x
  | some _, ⟨d, e, x⟩ => ⟨d, e, x.keeps k⟩
theorem c_local {w : World} {A : Around} {g0 : Heap} {sE : Shared} {E : Value → Shared → Prop} {Q : Value → Shared → Prop} {st : Addr} {v1 v2 : Value}
    (r : Rm A 2 20) (gd : Gd w g0) (hg : Sub g0 sE.heap) (h : ∀ d g' s', Step g0 sE g' s' → g'.get? d = some emptyD → Q (.ref d) s') :
    wpAny (model PW w) A (call (.ref 429) [.ref st, v1, v2] []) Q E sE := by
  refine fn_call (binds := [("self", .ref st), ("token_to_host_owner", v1), ("ring", v2)]) [] [] gd hg r (by k_is) (by k_is) (BindsTo.of_eq rfl) (locs rfl) (by simp) (by simp) rfl rfl rfl (by decide) fun L s F => ?_
  walk_at "mm"
  refine q_newDictM F fun D s F nD => ?_
  obtain ⟨g2, hs2, F, hD⟩ := F.rest nD
  exact h D g2 _ F.step hD
theorem c_rmk {w : World} {A : Around} {g0 : Heap} {sE : Shared} {E : Value → Shared → Prop} {Q : Value → Shared → Prop} {T rl ow H M ks : Addr} {R : Ring} {HA tok : Nat → Addr} {cp : Option Nat}
    (r : Rm A 11 70) (gd : Gd w g0) (hg : Sub g0 sE.heap) (hT : IsTm g0 T rl ow H M) (hks : KsOf g0 ks cp) (hH : HsOf g0 HA) (hr : RgOf g0 R tok rl) (how : OwOf g0 R HA tok ow) (ok : RingOk R) (hc : ∀ c, cp = some c → c ≤ 3)
    (h : ∀ v g' s', Step g0 sE g' s' → RvOf g' R HA tok cp v → Q v s') :
    wpAny (model PW w) A (call (.ref 514) [.ref T, .ref ks] []) Q E sE := by
  obtain ⟨dT, u1, t1, u2, t2, u3, t3, u4, t4, u5, t5, n, e1, e2⟩ := hT
  obtain ⟨dk, st, e3, e4, hst⟩ := hks
  obtain ⟨a1, a2, a3, a4, a5, a6, a7, a8, a9, b1, b2, b3, b4, b5, b6, b7, b8, b9, c1, c2, c3, c4, c5, c6, c7, c8, c9, d1, d2, d3, e4⟩ := e4
  refine fn_call (binds := [("self", .ref T), ("ks_metadata", .ref ks)]) [] [] gd hg r (by k_is) (by k_is) (BindsTo.of_eq rfl) (locs rfl) (by simp) (by simp) rfl rfl rfl (by decide) fun L s F => ?_
  have rd : ∀ env, Rm (A.deeper env) 10 67 := fun _ => r.deeper
  walk_at "mm"
  have hh : handedIn st = true := by
    rcases cp with _ | _ | c
    · rw [show st = .none from hst]; rfl
    · obtain ⟨a, d, rfl, _⟩ := hst; rfl
    · obtain ⟨a, rfl, _⟩ := hst; rfl
  refine q_own F (F.get (F.gd_sub e3)) (F.get (F.gd_sub e4)) (by k_is) (by k_is) (by k_is) (by k_is) (by rfl) hh fun s F => ?_
  walk_at "mm"
  rcases cp with _ | _ | c
  · rw [show st = .none from hst] at F ⊢
    refine truthy_none ?_
    walk_at "mm"
    exact h _ _ s F.step rfl
  · obtain ⟨a, d, rfl, ea, ed⟩ := hst
    refine q_truthyI F (F.get (F.gd_sub ea)) (F.get (F.gd_sub ed)) (by k_is) (by k_is) ?_
    walk_at "mm"
    refine q_meth (f := 429) F (F.get (F.gd_sub ea)) (F.get (F.gd_sub ed)) (by k_is) (by k_is) (by k_is) (by rfl) ?_
    walk_at "mm"
    refine q_own F (F.get (F.gd_sub e1)) (F.get (F.gd_sub e2)) (by k_is) (by k_is) (by k_is) (by k_is) (by rfl) (by k_handed) fun s F => ?_
    walk_at "mm"
    refine q_own F (F.get (F.gd_sub e1)) (F.get (F.gd_sub e2)) (by k_is) (by k_is) (by k_is) (by k_is) (by rfl) (by k_handed) fun s F => ?_
    walk_at "mm"
    refine c_local (rd _).less F.gd F.step.keep fun d' g' s' S hd => ?_
    exact h _ g' s' (F.called S).step ⟨d', rfl, hd⟩
  · obtain ⟨a, rfl, hs⟩ := hst
    have hs' := hs
    obtain ⟨ds, rf, dr, u1, t1, n1, u2, t2, q2, u3, t3, u4, t4, q3, n2, ea, ed, _, _⟩ := hs'
    refine q_truthyI F (F.get (F.gd_sub ea)) (F.get (F.gd_sub ed)) (by k_is) (by k_is) ?_
    walk_at "mm"
    refine q_meth (f := 351) F (F.get (F.gd_sub ea)) (F.get (F.gd_sub ed)) (by k_is) (by k_is) (by k_is) (by rfl) ?_
    walk_at "mm"
    refine q_own F (F.get (F.gd_sub e1)) (F.get (F.gd_sub e2)) (by k_is) (by k_is) (by k_is) (by k_is) (by rfl) (by k_handed) fun s F => ?_
    walk_at "mm"
    refine q_own F (F.get (F.gd_sub e1)) (F.get (F.gd_sub e2)) (by k_is) (by k_is) (by k_is) (by k_is) (by rfl) (by k_handed) fun s F => ?_
    walk_at "mm"
    refine c_simple (rd _).less F.gd F.step.keep (hs.keeps F.step.sub) (hH.keeps F.step.sub) (hr.keeps F.step.sub) (how.keeps F.step.sub) ok (hc _ rfl) fun d' g' s' S hd => ?_
    exact h _ g' s' (F.called S).step ⟨d', rfl, hd⟩
def HvOf (g : Heap) (R : Ring) (HA tok : Nat → Addr) (b : Option (Option Nat)) (v : Option Value) : Prop := match b, v with
  | none, none => True
  | some cp, some v => RvOf g R HA tok cp v
  | _, _ => False
theorem c_remove {w : World} {A : Around} {g0 : Heap} {sE : Shared} {E : Value → Shared → Prop} {Q : Value → Shared → Prop} {T rl ow H M : Addr} {o : Obj} {kvs : List (Str × Value)} {x : Str} {t : Tok}
    (r : Rm A 1 20) (gd : Gd w g0) (hg : Sub g0 sE.heap) (hT : IsTm g0 T rl ow H M) (hH : sE.heap.get? H = some o) (hn : g0.get? H = none) (hd : o.IsDictOf (SK w) kvs) (hz : kvs.length ≤ 100)
    (h : ∀ g' s' o', StepW [H] g0 sE g' s' → s'.heap.get? H = some o' → g'.get? H = none → o'.IsDictOf (SK w) (without kvs x) → Q .none s') :
    wpAny (model PW w) A (call (.ref 521) [.ref T, .str x t] []) Q E sE := by
  obtain ⟨dT, u1, t1, u2, t2, u3, t3, u4, t4, u5, t5, n, e1, e2⟩ := hT
  refine fn_call (binds := [("self", .ref T), ("keyspace", .str x t)]) [H] [(H, o)] gd hg r (by k_is) (by k_is) (BindsTo.of_eq rfl) (locs rfl) (by simpa using ⟨hH, hn⟩) (by simp) rfl rfl rfl (by decide) fun L s F => ?_
  walk_at "mm"
  refine q_own F (F.get (F.gd_sub e1)) (F.get (F.gd_sub e2)) (by k_is) (by k_is) (by k_is) (by k_is) (by rfl) (by k_handed) fun s F => ?_
  walk_at "mm"
  refine q_sM PySem.F.slot_dict_pop PySem.F.type_dict_pop F (.head _) hd ?_
  walk_at "mm"
  refine q_spop F hd hz fun o' s F hd' => ?_
  walk_at "mm"
  exact h _ s o' F.step (F.turnable (.head _)) (F.mu _ (.head _)).2.1 hd'
def SpAt (g : Heap) : Option Value → Option (Option Nat) → Prop
  | none, none => True
  | some v, some cp => ∃ ks, v = .ref ks ∧ KsOf g ks cp ∧ ∀ c, cp = some c → c ≤ 3
  | _, _ => False
theorem SpAt.keeps {g h : Heap} (k : Sub g h) : ∀ {v cp}, SpAt g v cp → SpAt h v cp
  | none, none, _ => trivial
  | some _, some _, ⟨ks, e, x, y⟩ => ⟨ks, e, x.keeps k, y⟩
structure MetaAt (g h : Heap) (M dM sp : Addr) (odM osp : Obj) : Prop where
  inst : g.get? M = some (instO 159 dM)
  dict : h.get? dM = some odM
  nD : g.get? dM = none
  spc : h.get? sp = some osp
  nS : g.get? sp = none
  ne : dM ≠ sp
  lk : lookIn (Str.ofString "keyspaces") odM = some (some (.ref sp))
theorem q_try {w : World} {A : Around} {E : Value → Shared → Prop} {s : Shared} {body : List Stmt} {h0 : ExceptHandler} {hs : List ExceptHandler} {env : Env} {pos : Pos} {Q : Flow → Shared → Prop}
    (h : wpAny (model PW w) A (execs body env) Q NE s) : wpAny (model PW w) A (exec (.Try body (h0 :: hs) [] [] pos) env) Q E s := by
  rw [arm_exec_Try]
  refine wpAny_bind (wpAny_standAt (wpAny_tryStmt_except (wpAny_mono h (fun f s1 q => ?_) fun _ _ q => q.elim)))
  cases f with
  | next => exact wpAny_execs_nil q
  | _ => exact q
theorem c_rebuild {w : World} {A : Around} {g0 : Heap} {sE : Shared} {E : Value → Shared → Prop} {Q : Value → Shared → Prop} {T rl ow H M dM sp : Addr} {odM osp o : Obj} {R : Ring} {HA tok : Nat → Addr} {kvs sps : List (Str × Value)} {x : Str} {t : Tok} {b : Bool} {cpo : Option (Option Nat)}
    (r : Rm A 12 80) (gd : Gd w g0) (hg : Sub g0 sE.heap) (hT : IsTm g0 T rl ow H M) (hM : MetaAt g0 sE.heap M dM sp odM osp) (hH : sE.heap.get? H = some o) (hn : g0.get? H = none) (hne : H ≠ dM ∧ H ≠ sp)
    (hd : o.IsDictOf (SK w) kvs) (hds : osp.IsDictOf (SK w) sps) (hz : kvs.length ≤ 100) (hsp : SpAt g0 (valueAt sps x) cpo)
    (hHs : HsOf g0 HA) (hr : RgOf g0 R tok rl) (how : OwOf g0 R HA tok ow) (ok : RingOk R)
    (h : ∀ g' s' o' kvs', StepW [H, dM, sp] g0 sE g' s' → s'.heap.get? H = some o' → s'.heap.get? dM = some odM → s'.heap.get? sp = some osp → g'.get? H = none → g'.get? dM = none → g'.get? sp = none → o'.IsDictOf (SK w) kvs' →
      ((kvs' = kvs ∧ (cpo = none ∨ (b = ((valueAt kvs x).getD .none != .none)))) ∨ (∃ v cp, b = ((valueAt kvs x).getD .none == .none) ∧ cpo = some cp ∧ kvs' = stored kvs x v ∧ RvOf g' R HA tok cp v)) → Q .none s') :
    wpAny (model PW w) A (call (.ref 507) [.ref T, .str x t] [("build_if_absent", .bool b)]) Q E sE := by
  obtain ⟨dT, u1, t1, u2, t2, u3, t3, u4, t4, u5, t5, n, e1, e2⟩ := hT
  refine fn_call (binds := [("self", .ref T), ("keyspace", .str x t), ("build_if_absent", .bool b)]) [H, dM, sp] [(H, o), (dM, odM), (sp, osp)] gd hg r (by k_is) (by k_is) (binds_K (gd.keeps hg).1 rfl (by k_is) rfl rfl rfl) (locs rfl) ?_ ?_ rfl rfl rfl (by decide) fun L s F => ?_
  · intro p hp
    simp only [List.mem_cons, List.not_mem_nil, or_false] at hp
    rcases hp with rfl | rfl | rfl
    · exact ⟨hH, hn, by simp⟩
    · exact ⟨hM.dict, hM.nD, by simp⟩
    · exact ⟨hM.spc, hM.nS, by simp⟩
  · simp [hne.1, hne.2, hM.ne]
  have rd : ∀ env, Rm (A.deeper env) 11 77 := fun _ => r.deeper
  walk_at "mm"
  refine q_try ?_
  walk_at "mm"
  refine q_own F (F.get (F.gd_sub e1)) (F.get (F.gd_sub e2)) (by k_is) (by k_is) (by k_is) (by k_is) (by rfl) (by k_handed) fun s F => ?_
  walk_at "mm"
  refine q_sM PySem.F.slot_dict_get PySem.F.type_dict_get F (.head _) hd ?_
  walk_at "mm"
  refine q_sget2 F (.head _) hd fun s F => ?_
  refine q_st F (fun s F => ?_)
  refine wpAny_execs_cons (wpAny_If ?_)
  generalize hcur : (valueAt kvs x).getD .none = cur at F h
  refine q_cutF F (fun c => c = (b == (cur == .none))) ?_ ?_
  · cases b
    · walk_at "mm"
      cases q : (cur == Value.none) with
      | true =>
        refine q_if_f (by rfl) ?_
        walk_at "mm"
        exact ⟨rfl, F⟩
      | false =>
        refine q_if_t (by rfl) ?_
        walk_at "mm"
        exact ⟨rfl, F⟩
    · walk_at "mm"
      cases q : (cur == Value.none) with
      | true =>
        refine q_if_t (by rfl) ?_
        walk_at "mm"
        exact ⟨rfl, F⟩
      | false =>
        refine q_if_f (by rfl) ?_
        walk_at "mm"
        exact ⟨rfl, F⟩
  rintro c s rfl F
  have done : ∀ {g s m}, Fm w [H, dM, sp] g0 sE L [(H, o), (dM, odM), (sp, osp)] g s m → (cpo = none ∨ b = (cur != .none)) → Q .none s := fun {g s m} F hcase =>
    h g s o kvs F.step (F.turnable (.head _)) (F.turnable (.tail _ (.head _))) (F.turnable (.tail _ (.tail _ (.head _)))) (F.mu _ (.head _)).2.1 (F.mu _ (.tail _ (.head _))).2.1 (F.mu _ (.tail _ (.tail _ (.head _)))).2.1 hd (.inl ⟨rfl, hcase⟩)
  by_cases hc : b = (cur == .none)
  · refine q_if_t (by rw [hc]; exact beq_self_eq_true _) ?_
    walk_at "mm"
    refine q_own F (F.get (F.gd_sub e1)) (F.get (F.gd_sub e2)) (by k_is) (by k_is) (by k_is) (by k_is) (by rfl) (by k_handed) fun s F => ?_
    walk_at "mm"
    refine q_own F (F.get (F.gd_sub hM.inst)) (F.turnable (.tail _ (.head _))) (by k_is) (by k_is) (by k_is) (by k_is) hM.lk (by k_handed) fun s F => ?_
    walk_at "mm"
    refine q_sM PySem.F.slot_dict_get PySem.F.type_dict_get F (.tail _ (.tail _ (.head _))) hds ?_
    walk_at "mm"
    refine q_sget1 F (.tail _ (.tail _ (.head _))) hds fun s F => ?_
    walk_at "mm"
    cases hv : valueAt sps x with
    | none =>
      rw [hv] at hsp F
      refine truthy_none ?_
      walk_at "mm"
      refine done F (.inl ?_)
      cases cpo with
      | none => rfl
      | some _ => exact hsp.elim
    | some v =>
      rw [hv] at hsp F
      cases cpo with
      | none => exact hsp.elim
      | some cp =>
      obtain ⟨ks, rfl, hks, hcp⟩ := hsp
      have hks' := hks
      obtain ⟨dk, st, e3, ⟨_, _, _, _, _, _, _, _, _, _, _, _, _, _, _, _, _, _, _, _, _, _, _, _, _, _, _, _, _, _, e4⟩, hst⟩ := hks'
      refine q_truthyI F (F.get (F.gd_sub e3)) (F.get (F.gd_sub e4)) (by k_is) (by k_is) ?_
      walk_at "mm"
      refine q_meth (f := 514) F (F.get (F.gd_sub e1)) (F.get (F.gd_sub e2)) (by k_is) (by k_is) (by k_is) (by rfl) ?_
      walk_at "mm"
      refine q_own F (F.get (F.gd_sub e1)) (F.get (F.gd_sub e2)) (by k_is) (by k_is) (by k_is) (by k_is) (by rfl) (by k_handed) fun s F => ?_
      walk_at "mm"
      refine q_own F (F.get (F.gd_sub hM.inst)) (F.turnable (.tail _ (.head _))) (by k_is) (by k_is) (by k_is) (by k_is) hM.lk (by k_handed) fun s F => ?_
      walk_at "mm"
      refine q_sitem F (.tail _ (.tail _ (.head _))) hds hv fun s F => ?_
      walk_at "mm"
      refine c_rmk (rd _).less F.gd F.step.keep ⟨dT, u1, t1, u2, t2, u3, t3, u4, t4, u5, t5, n, F.gd_sub e1, F.gd_sub e2⟩ (hks.keeps F.step.sub) (hHs.keeps F.step.sub) (hr.keeps F.step.sub) (how.keeps F.step.sub) ok hcp fun v g' s' S hrv => ?_
      have F := F.called S
      walk_at "mm"
      refine wpAny_Assign_Subscript ?_
      walk_at "mm"
      refine q_own F (F.get (F.gd_sub e1)) (F.get (F.gd_sub e2)) (by k_is) (by k_is) (by k_is) (by k_is) (by rfl) (by k_handed) fun s F => ?_
      walk_at "mm"
      refine q_sset F hd hz fun o' s F hd' => ?_
      walk_at "mm"
      exact h g' s o' _ F.step (F.turnable (.head _)) (F.turnable (.tail _ (.head _))) (F.turnable (.tail _ (.tail _ (.head _)))) (F.mu _ (.head _)).2.1 (F.mu _ (.tail _ (.head _))).2.1 (F.mu _ (.tail _ (.tail _ (.head _)))).2.1 hd' (.inr ⟨v, cp, hc, rfl, rfl, hrv⟩)
  · refine q_if_f (by exact beq_eq_false_iff_ne.mpr hc) ?_
    walk_at "mm"
    refine done F (.inr ?_)
    cases b <;> cases q : (cur == Value.none) <;> simp_all [bne]
theorem c_added {w : World} {A : Around} {g0 : Heap} {sE : Shared} {E : Value → Shared → Prop} {Q : Value → Shared → Prop} {T rl ow H M dM sp : Addr} {odM osp o : Obj} {R : Ring} {HA tok : Nat → Addr} {kvs sps : List (Str × Value)} {x : Str} {t : Tok} {cpo : Option (Option Nat)}
    (r : Rm A 13 90) (gd : Gd w g0) (hg : Sub g0 sE.heap) (hT : IsTm g0 T rl ow H M) (hM : MetaAt g0 sE.heap M dM sp odM osp) (htm : lookIn (Str.ofString "token_map") odM = some (some (.ref T))) (hH : sE.heap.get? H = some o) (hn : g0.get? H = none) (hne : H ≠ dM ∧ H ≠ sp)
    (hd : o.IsDictOf (SK w) kvs) (hds : osp.IsDictOf (SK w) sps) (hz : kvs.length ≤ 100) (hsp : SpAt g0 (valueAt sps x) cpo)
    (hHs : HsOf g0 HA) (hr : RgOf g0 R tok rl) (how : OwOf g0 R HA tok ow) (ok : RingOk R)
    (h : ∀ g' s' o' kvs', StepW [H, dM, sp] g0 sE g' s' → s'.heap.get? H = some o' → s'.heap.get? dM = some odM → s'.heap.get? sp = some osp → g'.get? H = none → g'.get? dM = none → g'.get? sp = none → o'.IsDictOf (SK w) kvs' →
      ((kvs' = kvs ∧ (cpo = none ∨ ((valueAt kvs x).getD .none == .none) = true)) ∨ (∃ v cp, ((valueAt kvs x).getD .none == .none) = false ∧ cpo = some cp ∧ kvs' = stored kvs x v ∧ RvOf g' R HA tok cp v)) → Q .none s') :
    wpAny (model PW w) A (call (.ref 128) [.ref M, .str x t] []) Q E sE := by
  have hT' := hT
  obtain ⟨dT, u1, t1, u2, t2, u3, t3, u4, t4, u5, t5, n, e1, e2⟩ := hT
  refine fn_call (binds := [("self", .ref M), ("ksname", .str x t)]) [H, dM, sp] [(H, o), (dM, odM), (sp, osp)] gd hg r (by k_is) (by k_is) (BindsTo.of_eq rfl) (locs rfl) ?_ ?_ rfl rfl rfl (by decide) fun L s F => ?_
  · intro p hp
    simp only [List.mem_cons, List.not_mem_nil, or_false] at hp
    rcases hp with rfl | rfl | rfl
    · exact ⟨hH, hn, by simp⟩
    · exact ⟨hM.dict, hM.nD, by simp⟩
    · exact ⟨hM.spc, hM.nS, by simp⟩
  · simp [hne.1, hne.2, hM.ne]
  have rd : ∀ env, Rm (A.deeper env) 12 87 := fun _ => r.deeper
  walk_at "mm"
  refine q_own F (F.get (F.gd_sub hM.inst)) (F.turnable (.tail _ (.head _))) (by k_is) (by k_is) (by k_is) (by k_is) htm (by k_handed) fun s F => ?_
  walk_at "mm"
  refine q_truthyI F (F.get (F.gd_sub e1)) (F.get (F.gd_sub e2)) (by k_is) (by k_is) ?_
  walk_at "mm"
  refine methodCall_KW ?_
  walk_at "mm"
  refine q_own F (F.get (F.gd_sub hM.inst)) (F.turnable (.tail _ (.head _))) (by k_is) (by k_is) (by k_is) (by k_is) htm (by k_handed) fun s F => ?_
  walk_at "mm"
  refine q_meth (f := 507) F (F.get (F.gd_sub e1)) (F.get (F.gd_sub e2)) (by k_is) (by k_is) (by k_is) (by rfl) ?_
  refine callWith_KW F.X (by k_is) (by rfl) ?_
  walk_at "mm"
  refine kws_cons ?_
  walk_at "mm"
  refine kws_nil ?_
  refine ⟨F.X, ?_⟩
  refine c_rebuild (b := false) (cpo := cpo) (rd _).less F.gd F.step.keep (hT'.keeps F.step.sub) ⟨F.gd_sub hM.inst, F.turnable (.tail _ (.head _)), (F.mu _ (.tail _ (.head _))).2.1, F.turnable (.tail _ (.tail _ (.head _))), (F.mu _ (.tail _ (.tail _ (.head _)))).2.1, hM.ne, hM.lk⟩ (F.turnable (.head _)) (F.mu _ (.head _)).2.1 hne hd hds hz (hsp.keeps F.step.sub) (hHs.keeps F.step.sub) (hr.keeps F.step.sub) (how.keeps F.step.sub) ok fun g' s' o' kvs' S b1 b2 b3 b4 b5 b6 b7 b8 => ?_
  have F := F.calledW S (by simp) [(H, o'), (dM, odM), (sp, osp)] (by
    intro p hp
    simp only [List.mem_cons, List.not_mem_nil, or_false] at hp
    rcases hp with rfl | rfl | rfl
    · exact ⟨b1, b4, .inl (by simp)⟩
    · exact ⟨b2, b5, .inl (by simp)⟩
    · exact ⟨b3, b6, .inl (by simp)⟩) (by simp [hne.1, hne.2, hM.ne])
  walk_at "mm"
  refine h g' s' o' kvs' F.step b1 b2 b3 b4 b5 b6 b7 ?_
  rcases b8 with ⟨e, e2⟩ | ⟨v, cp, e1, e2, e3, e4⟩
  · refine .inl ⟨e, e2.imp id fun q => ?_⟩
    revert q
    generalize (valueAt kvs x).getD Value.none = cur
    intro q
    have : (cur == Value.none) = !(cur != Value.none) := by simp [bne]
    rw [this, ← q]; rfl
  · exact .inr ⟨v, cp, e1.symm, e2, e3, e4⟩

theorem c_updated {w : World} {A : Around} {g0 : Heap} {sE : Shared} {E : Value → Shared → Prop} {Q : Value → Shared → Prop} {T rl ow H M dM sp : Addr} {odM osp o : Obj} {R : Ring} {HA tok : Nat → Addr} {kvs sps : List (Str × Value)} {x : Str} {t : Tok} {cpo : Option (Option Nat)}
    (r : Rm A 13 90) (gd : Gd w g0) (hg : Sub g0 sE.heap) (hT : IsTm g0 T rl ow H M) (hM : MetaAt g0 sE.heap M dM sp odM osp) (htm : lookIn (Str.ofString "token_map") odM = some (some (.ref T))) (hH : sE.heap.get? H = some o) (hn : g0.get? H = none) (hne : H ≠ dM ∧ H ≠ sp)
    (hd : o.IsDictOf (SK w) kvs) (hds : osp.IsDictOf (SK w) sps) (hz : kvs.length ≤ 100) (hsp : SpAt g0 (valueAt sps x) cpo)
    (hHs : HsOf g0 HA) (hr : RgOf g0 R tok rl) (how : OwOf g0 R HA tok ow) (ok : RingOk R)
    (h : ∀ g' s' o' kvs', StepW [H, dM, sp] g0 sE g' s' → s'.heap.get? H = some o' → s'.heap.get? dM = some odM → s'.heap.get? sp = some osp → g'.get? H = none → g'.get? dM = none → g'.get? sp = none → o'.IsDictOf (SK w) kvs' →
      ((kvs' = kvs ∧ (cpo = none ∨ ((valueAt kvs x).getD .none == .none) = true)) ∨ (∃ v cp, ((valueAt kvs x).getD .none == .none) = false ∧ cpo = some cp ∧ kvs' = stored kvs x v ∧ RvOf g' R HA tok cp v)) → Q .none s') :
    wpAny (model PW w) A (call (.ref 135) [.ref M, .str x t] []) Q E sE := by
  have hT' := hT
  obtain ⟨dT, u1, t1, u2, t2, u3, t3, u4, t4, u5, t5, n, e1, e2⟩ := hT
  refine fn_call (binds := [("self", .ref M), ("ksname", .str x t)]) [H, dM, sp] [(H, o), (dM, odM), (sp, osp)] gd hg r (by k_is) (by k_is) (BindsTo.of_eq rfl) (locs rfl) ?_ ?_ rfl rfl rfl (by decide) fun L s F => ?_
  · intro p hp
    simp only [List.mem_cons, List.not_mem_nil, or_false] at hp
    rcases hp with rfl | rfl | rfl
    · exact ⟨hH, hn, by simp⟩
    · exact ⟨hM.dict, hM.nD, by simp⟩
    · exact ⟨hM.spc, hM.nS, by simp⟩
  · simp [hne.1, hne.2, hM.ne]
  have rd : ∀ env, Rm (A.deeper env) 12 87 := fun _ => r.deeper
  walk_at "mm"
  refine q_own F (F.get (F.gd_sub hM.inst)) (F.turnable (.tail _ (.head _))) (by k_is) (by k_is) (by k_is) (by k_is) htm (by k_handed) fun s F => ?_
  walk_at "mm"
  refine q_truthyI F (F.get (F.gd_sub e1)) (F.get (F.gd_sub e2)) (by k_is) (by k_is) ?_
  walk_at "mm"
  refine methodCall_KW ?_
  walk_at "mm"
  refine q_own F (F.get (F.gd_sub hM.inst)) (F.turnable (.tail _ (.head _))) (by k_is) (by k_is) (by k_is) (by k_is) htm (by k_handed) fun s F => ?_
  walk_at "mm"
  refine q_meth (f := 507) F (F.get (F.gd_sub e1)) (F.get (F.gd_sub e2)) (by k_is) (by k_is) (by k_is) (by rfl) ?_
  refine callWith_KW F.X (by k_is) (by rfl) ?_
  walk_at "mm"
  refine kws_cons ?_
  walk_at "mm"
  refine kws_nil ?_
  refine ⟨F.X, ?_⟩
  refine c_rebuild (b := false) (cpo := cpo) (rd _).less F.gd F.step.keep (hT'.keeps F.step.sub) ⟨F.gd_sub hM.inst, F.turnable (.tail _ (.head _)), (F.mu _ (.tail _ (.head _))).2.1, F.turnable (.tail _ (.tail _ (.head _))), (F.mu _ (.tail _ (.tail _ (.head _)))).2.1, hM.ne, hM.lk⟩ (F.turnable (.head _)) (F.mu _ (.head _)).2.1 hne hd hds hz (hsp.keeps F.step.sub) (hHs.keeps F.step.sub) (hr.keeps F.step.sub) (how.keeps F.step.sub) ok fun g' s' o' kvs' S b1 b2 b3 b4 b5 b6 b7 b8 => ?_
  have F := F.calledW S (by simp) [(H, o'), (dM, odM), (sp, osp)] (by
    intro p hp
    simp only [List.mem_cons, List.not_mem_nil, or_false] at hp
    rcases hp with rfl | rfl | rfl
    · exact ⟨b1, b4, .inl (by simp)⟩
    · exact ⟨b2, b5, .inl (by simp)⟩
    · exact ⟨b3, b6, .inl (by simp)⟩) (by simp [hne.1, hne.2, hM.ne])
  walk_at "mm"
  refine h g' s' o' kvs' F.step b1 b2 b3 b4 b5 b6 b7 ?_
  rcases b8 with ⟨e, e2⟩ | ⟨v, cp, e1, e2, e3, e4⟩
  · refine .inl ⟨e, e2.imp id fun q => ?_⟩
    revert q
    generalize (valueAt kvs x).getD Value.none = cur
    intro q
    have : (cur == Value.none) = !(cur != Value.none) := by simp [bne]
    rw [this, ← q]; rfl
  · exact .inr ⟨v, cp, e1.symm, e2, e3, e4⟩

theorem c_removed {w : World} {A : Around} {g0 : Heap} {sE : Shared} {E : Value → Shared → Prop} {Q : Value → Shared → Prop} {T rl ow H M dM sp : Addr} {odM osp o : Obj} {kvs : List (Str × Value)} {x : Str} {t : Tok}
    (r : Rm A 13 90) (gd : Gd w g0) (hg : Sub g0 sE.heap) (hT : IsTm g0 T rl ow H M) (hM : MetaAt g0 sE.heap M dM sp odM osp) (htm : lookIn (Str.ofString "token_map") odM = some (some (.ref T))) (hH : sE.heap.get? H = some o) (hn : g0.get? H = none) (hne : H ≠ dM)
    (hd : o.IsDictOf (SK w) kvs) (hz : kvs.length ≤ 100)
    (h : ∀ g' s' o', StepW [H, dM] g0 sE g' s' → s'.heap.get? H = some o' → s'.heap.get? dM = some odM → g'.get? H = none → g'.get? dM = none → o'.IsDictOf (SK w) (without kvs x) → Q .none s') :
    wpAny (model PW w) A (call (.ref 142) [.ref M, .str x t] []) Q E sE := by
  have hT' := hT
  obtain ⟨dT, u1, t1, u2, t2, u3, t3, u4, t4, u5, t5, n, e1, e2⟩ := hT
  refine fn_call (binds := [("self", .ref M), ("ksname", .str x t)]) [H, dM] [(H, o), (dM, odM)] gd hg r (by k_is) (by k_is) (BindsTo.of_eq rfl) (locs rfl) ?_ ?_ rfl rfl rfl (by decide) fun L s F => ?_
  · intro p hp
    simp only [List.mem_cons, List.not_mem_nil, or_false] at hp
    rcases hp with rfl | rfl
    · exact ⟨hH, hn, by simp⟩
    · exact ⟨hM.dict, hM.nD, by simp⟩
  · simp [hne]
  have rd : ∀ env, Rm (A.deeper env) 12 87 := fun _ => r.deeper
  walk_at "mm"
  refine q_own F (F.get (F.gd_sub hM.inst)) (F.turnable (.tail _ (.head _))) (by k_is) (by k_is) (by k_is) (by k_is) htm (by k_handed) fun s F => ?_
  walk_at "mm"
  refine q_truthyI F (F.get (F.gd_sub e1)) (F.get (F.gd_sub e2)) (by k_is) (by k_is) ?_
  walk_at "mm"
  refine q_own F (F.get (F.gd_sub hM.inst)) (F.turnable (.tail _ (.head _))) (by k_is) (by k_is) (by k_is) (by k_is) htm (by k_handed) fun s F => ?_
  walk_at "mm"
  refine q_meth (f := 521) F (F.get (F.gd_sub e1)) (F.get (F.gd_sub e2)) (by k_is) (by k_is) (by k_is) (by rfl) ?_
  walk_at "mm"
  refine c_remove (rd _).less F.gd F.step.keep (hT'.keeps F.step.sub) (F.turnable (.head _)) (F.mu _ (.head _)).2.1 hd hz fun g' s' o' S b1 b4 b7 => ?_
  have b2 := S.old dM odM (by simpa using Ne.symm hne) (F.turnable (.tail _ (.head _)))
  have b5 : g'.get? dM = none := by
    cases q : g'.get? dM with
    | none => rfl
    | some o2 =>
      rcases S.frs _ _ q with z | z
      · rw [(F.mu _ (.tail _ (.head _))).2.1] at z; cases z
      · rw [F.turnable (.tail _ (.head _))] at z; cases z
  have F := F.calledW S (by simp) [(H, o'), (dM, odM)] (by
    intro p hp
    simp only [List.mem_cons, List.not_mem_nil, or_false] at hp
    rcases hp with rfl | rfl
    · exact ⟨b1, b4, .inl (by simp)⟩
    · exact ⟨b2, b5, .inl (by simp)⟩) (by simp [hne])
  walk_at "mm"
  exact h g' s' o' F.step b1 b2 b4 b5 b7

theorem c_added0 {w : World} {A : Around} {g0 : Heap} {sE : Shared} {E : Value → Shared → Prop} {Q : Value → Shared → Prop} {M dM sp : Addr} {odM osp : Obj} {x : Str} {t : Tok}
    (r : Rm A 13 90) (gd : Gd w g0) (hg : Sub g0 sE.heap) (hM : MetaAt g0 sE.heap M dM sp odM osp) (htm : lookIn (Str.ofString "token_map") odM = some (some .none))
    (h : ∀ g' s', StepW [dM] g0 sE g' s' → s'.heap.get? dM = some odM → g'.get? dM = none → Q .none s') :
    wpAny (model PW w) A (call (.ref 128) [.ref M, .str x t] []) Q E sE := by
  refine fn_call (binds := [("self", .ref M), ("ksname", .str x t)]) [dM] [(dM, odM)] gd hg r (by k_is) (by k_is) (BindsTo.of_eq rfl) (locs rfl) ?_ ?_ rfl rfl rfl (by decide) fun L s F => ?_
  · intro p hp
    simp only [List.mem_cons, List.not_mem_nil, or_false] at hp
    subst hp
    exact ⟨hM.dict, hM.nD, by simp⟩
  · simp
  walk_at "mm"
  refine q_own F (F.get (F.gd_sub hM.inst)) (F.turnable (.head _)) (by k_is) (by k_is) (by k_is) (by k_is) htm (by k_handed) fun s F => ?_
  walk_at "mm"
  refine truthy_none ?_
  walk_at "mm"
  exact h _ s F.step (F.turnable (.head _)) (F.mu _ (.head _)).2.1

theorem c_updated0 {w : World} {A : Around} {g0 : Heap} {sE : Shared} {E : Value → Shared → Prop} {Q : Value → Shared → Prop} {M dM sp : Addr} {odM osp : Obj} {x : Str} {t : Tok}
    (r : Rm A 13 90) (gd : Gd w g0) (hg : Sub g0 sE.heap) (hM : MetaAt g0 sE.heap M dM sp odM osp) (htm : lookIn (Str.ofString "token_map") odM = some (some .none))
    (h : ∀ g' s', StepW [dM] g0 sE g' s' → s'.heap.get? dM = some odM → g'.get? dM = none → Q .none s') :
    wpAny (model PW w) A (call (.ref 135) [.ref M, .str x t] []) Q E sE := by
  refine fn_call (binds := [("self", .ref M), ("ksname", .str x t)]) [dM] [(dM, odM)] gd hg r (by k_is) (by k_is) (BindsTo.of_eq rfl) (locs rfl) ?_ ?_ rfl rfl rfl (by decide) fun L s F => ?_
  · intro p hp
    simp only [List.mem_cons, List.not_mem_nil, or_false] at hp
    subst hp
    exact ⟨hM.dict, hM.nD, by simp⟩
  · simp
  walk_at "mm"
  refine q_own F (F.get (F.gd_sub hM.inst)) (F.turnable (.head _)) (by k_is) (by k_is) (by k_is) (by k_is) htm (by k_handed) fun s F => ?_
  walk_at "mm"
  refine truthy_none ?_
  walk_at "mm"
  exact h _ s F.step (F.turnable (.head _)) (F.mu _ (.head _)).2.1

theorem c_removed0 {w : World} {A : Around} {g0 : Heap} {sE : Shared} {E : Value → Shared → Prop} {Q : Value → Shared → Prop} {M dM sp : Addr} {odM osp : Obj} {x : Str} {t : Tok}
    (r : Rm A 13 90) (gd : Gd w g0) (hg : Sub g0 sE.heap) (hM : MetaAt g0 sE.heap M dM sp odM osp) (htm : lookIn (Str.ofString "token_map") odM = some (some .none))
    (h : ∀ g' s', StepW [dM] g0 sE g' s' → s'.heap.get? dM = some odM → g'.get? dM = none → Q .none s') :
    wpAny (model PW w) A (call (.ref 142) [.ref M, .str x t] []) Q E sE := by
  refine fn_call (binds := [("self", .ref M), ("ksname", .str x t)]) [dM] [(dM, odM)] gd hg r (by k_is) (by k_is) (BindsTo.of_eq rfl) (locs rfl) ?_ ?_ rfl rfl rfl (by decide) fun L s F => ?_
  · intro p hp
    simp only [List.mem_cons, List.not_mem_nil, or_false] at hp
    subst hp
    exact ⟨hM.dict, hM.nD, by simp⟩
  · simp
  walk_at "mm"
  refine q_own F (F.get (F.gd_sub hM.inst)) (F.turnable (.head _)) (by k_is) (by k_is) (by k_is) (by k_is) htm (by k_handed) fun s F => ?_
  walk_at "mm"
  refine truthy_none ?_
  walk_at "mm"
  exact h _ s F.step (F.turnable (.head _)) (F.mu _ (.head _)).2.1
def IsSpot (R : Ring) (u : Int) (q : Nat) : Prop := ∃ p, p ≤ R.length ∧ (∀ i, i < p → (R.getD i (0, 0)).1 < u) ∧ (∀ i, p ≤ i → i < R.length → u ≤ (R.getD i (0, 0)).1) ∧ q = if p = R.length then 0 else p
theorem IsSpot.uniq {R : Ring} {u : Int} {q q' : Nat} (a : IsSpot R u q) (b : IsSpot R u q') : q = q' := by
  obtain ⟨p, h1, h2, h3, rfl⟩ := a
  obtain ⟨p', h1', h2', h3', rfl⟩ := b
  have : p = p' := by
    rcases Nat.lt_trichotomy p p' with h | h | h
    · have := h2' p h; have := h3 p (Nat.le_refl _) (by omega); omega
    · exact h
    · have := h2 p' h; have := h3' p' (Nat.le_refl _) (by omega); omega
  rw [this]
def AnsOf (g : Heap) (R : Ring) (HA : Nat → Addr) (u : Int) (l : Addr) : Option (Option Nat) → Prop
  | some (some (c + 1)) => ∃ q its, IsSpot R u q ∧ g.IsList l its ∧ its = (hostsV HA (wlk R (c + 1) q R.length)).toArray
  | _ => g.IsList l #[]
def entriesOf (o : Option Obj) : List DictEntry := match o with
  | some o => (match o.data with
    | .dict es _ => es.toList
    | _ => [])
  | none => []
theorem lo_of {w : World} {g : Heap} (gd : Gd w g) {d : Addr} {es : List DictEntry} {n : Nat} (h : g.get? d = some (dictO es n)) (hk : ∀ e ∈ es, ∃ a, e.key = .ref a) : (d == sysModules) = false := by
  have hx : ∃ o1, (Mine.hd.heap_39 w.params).lookup 1 = some o1 ∧ ∃ e0 rest, entriesOf (some o1) = e0 :: rest ∧ ∀ a, e0.key ≠ .ref a :=
    ⟨_, by k_is, by exact ⟨_, _, rfl, fun a q => by cases q⟩⟩
  obtain ⟨o1, e1, e0, rest, h5, h6⟩ := hx
  have h2 := gd.1 _ _ e1
  rw [beq_eq_false_iff_ne]
  intro e
  have e : d = 1 := e
  rw [e, h2] at h
  have h3 := congrArg entriesOf h
  have h4 : entriesOf (some (dictO es n)) = es := by simp [entriesOf]
  rw [h4, h5] at h3
  rw [← h3] at hk
  obtain ⟨a, q⟩ := hk _ (List.Mem.head _)
  exact h6 a q
theorem q_truthyD {w : World} {W : List Addr} {g0 g : Heap} {s0 s : Shared} {L : Addr} {ms : List (Addr × Obj)} {m : Str → Option Value} {A : Around} {E : Value → Shared → Prop} {d : Addr} {es : List DictEntry} {n : Nat} {Q : Bool → Shared → Prop}
    (F : Fm w W g0 s0 L ms g s m) (h : g.get? d = some (dictO es n)) (hk : ∀ e ∈ es, ∃ a, e.key = .ref a) (hz : es.length ≤ 100) (hq : ∀ s', Fm w W g0 s0 L ms g s' m → Q (!es.isEmpty) s') : wpAny (model PW w) A (truthy (.ref d)) Q E s :=
  truthyD (F.get h) (lo_of F.gd h hk) hz fun tk => hq _ F.tok
theorem q_itemR {w : World} {A : Around} {E : Value → Shared → Prop} {s : Shared} {value slice : Expr} {l : Addr} {its : Array Value} {k : Int} {u : Tok} {x : Value} {Q : Value → Shared → Prop} (j : Nat) (hl : s.heap.IsList l its) (hk : k = (j : Int)) (hj : j < 100) (hx : its[j]? = some x) (h : Q x s)
    (hs : subscripted slice false (.ref l) (.int k u) = operate [.ref l, .int k u] (getItem (.ref l) (.int k u)) := by with_unfolding_all rfl) :
    wpAny (model PW w) A (subscriptTail value slice (.ref l) (.int k u)) Q E s := by
  subst hk
  exact subscriptTail_builtinR (x := x) hl.typeIs slot_list_getitem.lookup (wpAny_getItem_list hl (by omega) (by omega) (by simpa using hx) ⟨rfl, h⟩) hs
theorem HvOf.keeps {g h : Heap} {R : Ring} {HA tok : Nat → Addr} (k : Sub g h) : ∀ {bo v}, HvOf g R HA tok bo v → HvOf h R HA tok bo v
  | none, none, _ => trivial
  | some _, some _, x => RvOf.keeps k x
def hasBook : Option (Option Nat) → Bool
  | some (some _) => true
  | _ => false
theorem hv_none {g : Heap} {R : Ring} {HA tok : Nat → Addr} {bo : Option (Option Nat)} {v : Option Value} (h : HvOf g R HA tok bo v) : (v.getD .none == Value.none) = !hasBook bo := by
  rcases bo with _ | _ | c <;> cases v <;> simp only [HvOf, RvOf] at h
  · rfl
  · rw [h]; rfl
  · obtain ⟨d, rfl, _⟩ := h; rfl
theorem c_getrep {w : World} {A : Around} {g0 : Heap} {sE : Shared} {E : Value → Shared → Prop} {Q : Value → Shared → Prop} {T rl ow H M dM sp tk0 : Addr} {odM osp o : Obj} {R : Ring} {HA tok : Nat → Addr} {kvs sps : List (Str × Value)} {x : Str} {t : Tok} {u : Int} {cpo bo : Option (Option Nat)}
    (r : Rm A 14 100) (gd : Gd w g0) (hg : Sub g0 sE.heap) (hT : IsTm g0 T rl ow H M) (hM : MetaAt g0 sE.heap M dM sp odM osp) (hH : sE.heap.get? H = some o) (hn : g0.get? H = none) (hne : H ≠ dM ∧ H ≠ sp)
    (hd : o.IsDictOf (SK w) kvs) (hds : osp.IsDictOf (SK w) sps) (hz : kvs.length ≤ 100) (hsp : SpAt g0 (valueAt sps x) cpo) (hbo : HvOf g0 R HA tok bo (valueAt kvs x))
    (hHs : HsOf g0 HA) (hr : RgOf g0 R tok rl) (how : OwOf g0 R HA tok ow) (ok : RingOk R) (hx : Tk g0 tk0 u)
    (h : ∀ l g' s' o' kvs' bo', StepW [H, dM, sp] g0 sE g' s' → s'.heap.get? H = some o' → s'.heap.get? dM = some odM → s'.heap.get? sp = some osp → g'.get? H = none → g'.get? dM = none → g'.get? sp = none → o'.IsDictOf (SK w) kvs' →
      ((kvs' = kvs ∧ bo' = bo ∧ (cpo = none ∨ ∃ c, bo = some (some c))) ∨ (∃ v cp, (∀ c, bo ≠ some (some c)) ∧ cpo = some cp ∧ kvs' = stored kvs x v ∧ bo' = some cp ∧ RvOf g' R HA tok cp v)) → AnsOf g' R HA u l bo' → Q (.ref l) s') :
    wpAny (model PW w) A (call (.ref 528) [.ref T, .str x t, .ref tk0] []) Q E sE := by
  have hT' := hT
  obtain ⟨dT, u1, t1, u2, t2, u3, t3, u4, t4, u5, t5, n, e1, e2⟩ := hT
  refine fn_call (binds := [("self", .ref T), ("keyspace", .str x t), ("token", .ref tk0)]) [H, dM, sp] [(H, o), (dM, odM), (sp, osp)] gd hg r (by k_is) (by k_is) (BindsTo.of_eq rfl) (locs rfl) ?_ ?_ rfl rfl rfl (by decide) fun L s F => ?_
  · intro p hp
    simp only [List.mem_cons, List.not_mem_nil, or_false] at hp
    rcases hp with rfl | rfl | rfl
    · exact ⟨hH, hn, by simp⟩
    · exact ⟨hM.dict, hM.nD, by simp⟩
    · exact ⟨hM.spc, hM.nS, by simp⟩
  · simp [hne.1, hne.2, hM.ne]
  have rd : ∀ env, Rm (A.deeper env) 13 97 := fun _ => r.deeper
  walk_at "mm"
  refine q_own F (F.get (F.gd_sub e1)) (F.get (F.gd_sub e2)) (by k_is) (by k_is) (by k_is) (by k_is) (by rfl) (by k_handed) fun s F => ?_
  walk_at "mm"
  refine q_sM PySem.F.slot_dict_get PySem.F.type_dict_get F (.head _) hd ?_
  walk_at "mm"
  refine q_sget2 F (.head _) hd fun s F => ?_
  refine q_st F (fun s F => ?_)
  have hisn := hv_none hbo
  refine wpAny_execs_cons ?_
  refine wpAny_mono (Q := fun f s2 => f = .next ∧ ∃ g2 o2 kvs2 bo2 m2, Fm w [H, dM, sp] g0 sE L [(H, o2), (dM, odM), (sp, osp)] g2 s2 m2 ∧ o2.IsDictOf (SK w) kvs2 ∧ HvOf g2 R HA tok bo2 (valueAt kvs2 x) ∧
    ((kvs2 = kvs ∧ bo2 = bo ∧ (cpo = none ∨ ∃ c, bo = some (some c))) ∨ (∃ v cp, (∀ c, bo ≠ some (some c)) ∧ cpo = some cp ∧ kvs2 = stored kvs x v ∧ bo2 = some cp ∧ RvOf g2 R HA tok cp v)) ∧
    m2 "self" = some (.ref T) ∧ m2 "token" = some (.ref tk0) ∧ m2 "tokens_to_hosts" = some ((valueAt kvs2 x).getD .none)) (E := NE) (wpAny_If ?_) (fun f s2 q => ?_) (fun _ _ q => q.elim)
  · walk_at "mm"
    rw [hisn]
    cases hb : hasBook bo with
    | true =>
      have hsome : ∃ c, bo = some (some c) := by
        rcases bo with _ | _ | c
        · cases hb
        · cases hb
        · exact ⟨c, rfl⟩
      walk_at "mm"
      exact ⟨rfl, _, o, kvs, bo, _, F, hd, hbo, .inl ⟨rfl, rfl, .inr hsome⟩, by walk_at "hv", by walk_at "hv", by walk_at "hv"⟩
    | false =>
      walk_at "mm"
      refine methodCall_KW ?_
      walk_at "mm"
      refine q_meth (f := 507) F (F.get (F.gd_sub e1)) (F.get (F.gd_sub e2)) (by k_is) (by k_is) (by k_is) (by rfl) ?_
      refine callWith_KW F.X (by k_is) (by rfl) ?_
      walk_at "mm"
      refine kws_cons ?_
      walk_at "mm"
      refine kws_nil ?_
      refine ⟨F.X, ?_⟩
      refine c_rebuild (b := true) (cpo := cpo) (rd _).less F.gd F.step.keep (hT'.keeps F.step.sub) ⟨F.gd_sub hM.inst, F.turnable (.tail _ (.head _)), (F.mu _ (.tail _ (.head _))).2.1, F.turnable (.tail _ (.tail _ (.head _))), (F.mu _ (.tail _ (.tail _ (.head _)))).2.1, hM.ne, hM.lk⟩ (F.turnable (.head _)) (F.mu _ (.head _)).2.1 hne hd hds hz (hsp.keeps F.step.sub) (hHs.keeps F.step.sub) (hr.keeps F.step.sub) (how.keeps F.step.sub) ok fun g' s' o' kvs' S b1 b2 b3 b4 b5 b6 b7 b8 => ?_
      have F := F.calledW S (by simp) [(H, o'), (dM, odM), (sp, osp)] (by
        intro p hp
        simp only [List.mem_cons, List.not_mem_nil, or_false] at hp
        rcases hp with rfl | rfl | rfl
        · exact ⟨b1, b4, .inl (by simp)⟩
        · exact ⟨b2, b5, .inl (by simp)⟩
        · exact ⟨b3, b6, .inl (by simp)⟩) (by simp [hne.1, hne.2, hM.ne])
      walk_at "mm"
      refine q_own F (F.get (F.gd_sub e1)) (F.get (F.gd_sub e2)) (by k_is) (by k_is) (by k_is) (by k_is) (by rfl) (by k_handed) fun s F => ?_
      walk_at "mm"
      refine q_sM PySem.F.slot_dict_get PySem.F.type_dict_get F (.head _) b7 ?_
      walk_at "mm"
      refine q_sget2 F (.head _) b7 fun s F => ?_
      walk_at "mm"
      have hnb : ∀ c, bo ≠ some (some c) := by
        rintro c rfl
        cases hb
      rcases b8 with ⟨rfl, q⟩ | ⟨v, cp, _, q2, rfl, q4⟩
      · refine ⟨rfl, _, o', kvs', bo, _, F, b7, HvOf.keeps S.sub hbo, .inl ⟨rfl, rfl, .inl ?_⟩, by walk_at "hv", by walk_at "hv", by walk_at "hv"⟩
        rcases q with q | q
        · exact q
        · exfalso
          rw [bne, hisn, hb] at q
          cases q
      · refine ⟨rfl, _, o', _, some cp, _, F, b7, ?_, .inr ⟨v, cp, hnb, q2, rfl, rfl, q4⟩, by walk_at "hv", by walk_at "hv", by walk_at "hv"⟩
        rw [valueAt_stored]
        exact q4
  · obtain ⟨rfl, g2, o2, kvs2, bo2, m2, F, hd2, hbo2, rel, hm1, hm2, hm3⟩ := q
    walk_at "mm"
    have fin0 : ∀ {s m l g3}, Fm w [H, dM, sp] g0 sE L [(H, o2), (dM, odM), (sp, osp)] g3 s m → Sub g2 g3 → AnsOf g3 R HA u l bo2 → Q (.ref l) s := fun {s m l g3} F hs ha => by
      refine h l g3 s o2 kvs2 bo2 F.step (F.turnable (.head _)) (F.turnable (.tail _ (.head _))) (F.turnable (.tail _ (.tail _ (.head _)))) (F.mu _ (.head _)).2.1 (F.mu _ (.tail _ (.head _))).2.1 (F.mu _ (.tail _ (.tail _ (.head _)))).2.1 hd2 ?_ ha
      rcases rel with q | ⟨v, cp, q1, q2, q3, q4, q5⟩
      · exact .inl q
      · exact .inr ⟨v, cp, q1, q2, q3, q4, RvOf.keeps hs q5⟩
    rcases bo2 with _ | _ | _ | c
    · have hv : valueAt kvs2 x = none := by
        revert hbo2; generalize valueAt kvs2 x = v; intro hbo2; cases v; rfl; exact hbo2.elim
      rw [hv]
      refine truthy_none ?_
      walk_at "mm"
      refine q_newListM F (by simp) fun l s F nl => ?_
      obtain ⟨g3, hs3, F, hl⟩ := F.rest nl
      exact fin0 F hs3 ⟨_, hl, rfl, _, rfl⟩
    · have hv : valueAt kvs2 x = some .none := by
        revert hbo2; generalize valueAt kvs2 x = v; intro hbo2; cases v; exact hbo2.elim; rw [show _ = Value.none from hbo2]
      rw [hv]
      refine truthy_none ?_
      walk_at "mm"
      refine q_newListM F (by simp) fun l s F nl => ?_
      obtain ⟨g3, hs3, F, hl⟩ := F.rest nl
      exact fin0 F hs3 ⟨_, hl, rfl, _, rfl⟩
    · have hv : ∃ d, valueAt kvs2 x = some (.ref d) ∧ g2.get? d = some emptyD := by
        revert hbo2; generalize valueAt kvs2 x = v; intro hbo2; cases v; exact hbo2.elim; obtain ⟨d, e, q⟩ := hbo2; exact ⟨d, by rw [e], q⟩
      obtain ⟨d, hv, hdd⟩ := hv
      rw [hv]
      refine q_truthyD (es := []) (n := 0) F hdd (by simp) (by simp) fun s F => ?_
      walk_at "mm"
      refine q_newListM F (by simp) fun l s F nl => ?_
      obtain ⟨g3, hs3, F, hl⟩ := F.rest nl
      exact fin0 F hs3 ⟨_, hl, rfl, _, rfl⟩
    · have hv : ∃ d, valueAt kvs2 x = some (.ref d) ∧ RmOf g2 R HA tok (c + 1) d := by
        revert hbo2; generalize valueAt kvs2 x = v; intro hbo2; cases v; exact hbo2.elim; obtain ⟨d, e, q⟩ := hbo2; exact ⟨d, by rw [e], q⟩
      obtain ⟨d, hv, ls, nd, hdd, hls⟩ := hv
      have hn := ok.pos
      have hn' := ok.le
      rw [hv] at hm3 ⊢
      obtain ⟨its, nr, hl0, hsz, hit⟩ := hr
      have hlen : (tdE (rmK R tok ls R.length)).length = R.length := by simp [tdE, rmK]
      refine q_truthyD (es := tdE (rmK R tok ls R.length)) (n := nd) F hdd (by
        intro e he
        unfold tdE at he
        obtain ⟨y, _, rfl⟩ := List.mem_map.mp he
        exact ⟨_, rfl⟩) (by omega) fun s F => ?_
      rw [show (tdE (rmK R tok ls R.length)).isEmpty = false by rw [List.isEmpty_eq_false_iff]; intro e; rw [e] at hlen; simp at hlen; omega]
      walk_at "mm"
      refine q_own F (F.get (F.gd_sub e1)) (F.get (F.gd_sub e2)) (by k_is) (by k_is) (by k_is) (by k_is) (by rfl) (by k_handed) fun s F => ?_
      walk_at "mm"
      refine c_bisect (tok := tok) (u := u) ok (rd _).less F.gd F.step.keep ⟨its, nr, F.get (F.gd_sub hl0), hsz, fun k hk => ⟨(hit k hk).1, (hit k hk).2.keeps F.step.sub⟩⟩ (hx.keeps F.step.sub) fun p g4 s t S hp1 hp2 hp3 => ?_
      have F := F.called S
      have hdd4 := S.sub _ _ hdd
      have hls4 : ∀ i, i < R.length → ∃ n, g4.get? (ls i) = some (listOf (hostsV HA (wlk R (c + 1) i R.length)).toArray n) := fun i hi => let ⟨n, e⟩ := hls i hi; ⟨n, S.sub _ _ e⟩
      have hkv : ∀ q, q < R.length → (rmK R tok ls R.length)[q]? = some ((R.getD q (0, 0)).1, tok q, .ref (ls q)) := fun q hq => by
        unfold rmK
        rw [List.getElem?_map, List.getElem?_range hq]
        rfl
      have hl5 : ∀ {g s m ms}, Fm w [H, dM, sp] g0 sE L ms g s m → s.heap.IsList rl its := fun F => ⟨_, F.get (F.gd_sub hl0), rfl, _, rfl⟩
      have lo := ok.lo
      have hi := ok.hi
      walk_at "mm"
      refine q_own F (F.get (F.gd_sub e1)) (F.get (F.gd_sub e2)) (by k_is) (by k_is) (by k_is) (by k_is) (by rfl) (by k_handed) fun s F => ?_
      walk_at "mm"
      refine q_len F (hl5 F) (by omega) fun s t F => ?_
      walk_at "mm"
      by_cases hpn : p = R.length
      · refine q_if_t (by rw [hsz, hpn]; simp) ?_
        walk_at "mm"
        refine q_own F (F.get (F.gd_sub e1)) (F.get (F.gd_sub e2)) (by k_is) (by k_is) (by k_is) (by k_is) (by rfl) (by k_handed) fun s F => ?_
        walk_at "mm"
        refine q_itemR 0 (hl5 F) rfl (by omega) (hit 0 (by omega)).1 ?_
        refine q_tdGet (rd _).less F (rmK_tk ok (Nat.le_refl _) fun k hk => (hit k hk).2.keeps F.step.sub) (F.get hdd4) (hkv 0 (by omega)) (by have := lo 0; omega) (by have := hi 0; omega) fun g5 s hs5 F => ?_
        walk_at "mm"
        obtain ⟨n5, e5⟩ := hls4 0 (by omega)
        exact fin0 F (S.sub.trans hs5) ⟨0, _, ⟨p, hp1, hp2, hp3, by rw [if_pos hpn]⟩, ⟨_, hs5 _ _ e5, rfl, _, rfl⟩, rfl⟩
      · refine q_if_f (by rw [hsz]; exact beq_eq_false_iff_ne.mpr (by omega)) ?_
        walk_at "mm"
        refine q_own F (F.get (F.gd_sub e1)) (F.get (F.gd_sub e2)) (by k_is) (by k_is) (by k_is) (by k_is) (by rfl) (by k_handed) fun s F => ?_
        walk_at "mm"
        refine q_itemR p (hl5 F) rfl (by omega) (hit p (by omega)).1 ?_
        refine q_tdGet (rd _).less F (rmK_tk ok (Nat.le_refl _) fun k hk => (hit k hk).2.keeps F.step.sub) (F.get hdd4) (hkv p (by omega)) (by have := lo p; omega) (by have := hi p; omega) fun g5 s hs5 F => ?_
        walk_at "mm"
        obtain ⟨n5, e5⟩ := hls4 p (by omega)
        exact fin0 F (S.sub.trans hs5) ⟨p, _, ⟨p, hp1, hp2, hp3, by rw [if_neg hpn]⟩, ⟨_, hs5 _ _ e5, rfl, _, rfl⟩, rfl⟩
section
variable {w : World} {W : List Addr} {g0 g : Heap} {s0 s : Shared} {L : Addr} {ms : List (Addr × Obj)} {m : Str → Option Value} {A : Around} {E : Value → Shared → Prop}
theorem comp_runP {elt target iter : Expr} {ifs : List Expr} {scope : Scope} {pos : Pos} {env : Env} {oI : Obj} {sB : Shared} {tk : Nat} {cl : List (Str × Addr)} {Q : Value → Shared → Prop} (Post : Array Value → Heap → Prop)
    (FB : Fm w W g0 s0 L ms g sB m) (hf : oI.isFreed = false)
    (hkind : scope.kind = .function) (hcells : ∀ x ∈ scope.names, x.2 ≠ .cell)
    (hself : ∀ (s1 : Shared) (P : Value → Shared → Prop), s1.heap.get? sB.heap.objs.size = some oI → P (.ref sB.heap.objs.size) s1 → wpAny (model PW w) A (pyIter (.ref sB.heap.objs.size)) P NE s1)
    (loop : ∀ C l s1 (R : Result → Shared → Prop), sB.heap.get? sB.heap.objs.size = none → Fm w [] g sB C [(l, listOf #[] 0), (sB.heap.objs.size, oI)] g s1 (fun _ => none) →
      (∀ its n g' s2 m2, Fm w [] g sB C [(l, listOf its n)] g' s2 m2 → Post its g' → R (.ok .next) s2) →
      codeAny (model PW w) A (.compLoop (.ListComp elt [⟨target, iter, ifs, 0⟩] scope pos) 0 (.ref sB.heap.objs.size) (.ref l) (compEnvC scope cl C env)) R s1)
    (h : ∀ l its n g' s', Sub g g' → Fm w W g0 s0 L ((l, listOf its n) :: ms) g' s' m → s0.heap.get? l = none → Post its g' → Q (.ref l) s') :
    wpAny (model PW w) A (newList []) (fun acc s₃ => wpAny (model PW w) A (newFunctionEnv scope env.globals cl [] env.qual none .none (some env)) (fun cenv s₄ =>
        codeAny (model PW w) A (.compStart (.ListComp elt [⟨target, iter, ifs, 0⟩] scope pos) 0 (.ref sB.heap.objs.size) acc { cenv with scope := relabel scope env }) (compPost (model PW w) A E none Q acc cenv.locals) s₄) E s₃) E { sB with heap := sB.heap.push oI, toks := tk } := by
  have hx : Sub sB.heap (sB.heap.push oI) := fun b o e => Heap.get?_push_of_some _ e
  have fr := FB.fresh
  refine comp_run (I := sB.heap.objs.size) (oI := oI) (g := g) Post FB ⟨rfl, rfl, rfl, fun b o _ e => hx b o e, fun b o e => ⟨o, hx b o e⟩, Sub.refl _, FB.step.keep.trans hx, fun _ _ e => .inl e⟩ FB.gd (Heap.get?_push_size _ hf) ?_ fr ?_ hkind hcells hself (fun C l s1 R => loop C l s1 R fr) h
  · cases q : g.get? sB.heap.objs.size with
    | none => rfl
    | some o => have := FB.step.keep _ _ q; rw [fr] at this; cases this
  · show sB.heap.objs.size ≤ (sB.heap.push oI).objs.size
    rw [Heap.size_push]; omega
end
theorem ListComp_ {w : World} {A : Around} {E : Value → Shared → Prop} {s : Shared} {elt target iter : Expr} {ifs : List Expr} {scope : Scope} {pos : Pos} {env : Env} (cl : List (Str × Addr)) {Q : Value → Shared → Prop}
    (h : wpAny (model PW w) A (eval iter env) (fun x s₁ => wpAny (model PW w) A (pyIter x) (fun it s₂ => wpAny (model PW w) A (newList []) (fun acc s₃ => wpAny (model PW w) A (newFunctionEnv scope env.globals cl [] env.qual none .none (some env)) (fun cenv s₄ =>
        codeAny (model PW w) A (.compStart (.ListComp elt [⟨target, iter, ifs, 0⟩] scope pos) 0 it acc { cenv with scope := relabel scope env }) (compPost (model PW w) A E none Q acc cenv.locals) s₄) E s₃) E s₂) E s₁) E s)
    (hs : ∀ x, foldedSetIterable iter env x = pure x := by intro _; rfl) (hclos : closureFor scope env = pure cl := by rfl) (hkind : scope.kind = .function := by rfl) (hnames : ∀ x ∈ scope.names, x.2 = .local → scope.names.lookup x.1 = some .local := by decide) :
    wpAny (model PW w) A (eval (.ListComp elt [⟨target, iter, ifs, 0⟩] scope pos) env) Q E s := by
  rw [eval_ListComp]
  exact wpAny_comprehension_free rfl hs hclos hkind hnames h
theorem iter_rangeP {w : World} {A : Around} {E : Value → Shared → Prop} {s : Shared} {r : Addr} {n : Nat} {t u v : Tok} {Q : Value → Shared → Prop} (hr : IsRange s.heap r 0 n 1 t u v) (hz : n ≤ 100)
    (h : Q (.ref s.heap.objs.size) { s with heap := s.heap.push { cls := .type "range_iterator", data := .fields #[rawInt 0, rawInt n, rawInt 1] } }) : wpAny (model PW w) A (pyIter (.ref r)) Q E s := by
  have sz : Builtin.Range.rangeSize 0 n 1 = (n : Int) := by rw [rangeSize_one]; split <;> omega
  refine wpAny_pyIter_range hr ?_ ?_
  · unfold Builtin.Range.small Builtin.Range.rangeFitsLong
    rw [sz]
    simp only [Bool.and_eq_true, Bool.or_eq_true, decide_eq_true_eq, beq_iff_eq]
    refine ⟨⟨⟨⟨?_, ?_⟩, ?_⟩, ?_⟩, .inr ?_⟩ <;> (try rw [if_pos (by decide)]) <;> (try simp only [Bool.and_eq_true, decide_eq_true_eq]) <;> omega
  · rw [sz]; exact h
theorem c_read {w : World} {A : Around} {g0 : Heap} {sE : Shared} {E : Value → Shared → Prop} {Q : Value → Shared → Prop} {d : Addr} {R : Ring} {HA tok : Nat → Addr} {c : Nat}
    (r : Rm A 12 60) (gd : Gd w g0) (hg : Sub g0 sE.heap) (hm : MpOf g0 R HA tok c d) (hHs : HsOf g0 HA) (htk : ∀ k, k < R.length → Tk g0 (tok k) (R.getD k (0, 0)).1) (ok : RingOk R)
    (h : ∀ l g' s', Step g0 sE g' s' → Rd g' (.ref l) (toldD (if c = 0 then [] else lawMap R c)) → Q (.ref l) s') :
    wpAny (model PW w) A (call (.ref 909) [.ref d] []) Q E sE := by
  have hn' := ok.le
  have hes : ∃ es nd, g0.get? d = some (dictO es nd) ∧ es.length ≤ 100 ∧ (∀ e ∈ es, ∃ a, e.key = .ref a) ∧ es.length = (if c = 0 then [] else lawMap R c).length ∧
      ∀ (i : Nat) e, es[i]? = some e → i < R.length ∧ e.key = .ref (tok i) ∧ (∃ l n, e.val = .ref l ∧ g0.get? l = some (listOf (hostsV HA (wlk R c i R.length)).toArray n)) ∧ (if c = 0 then [] else lawMap R c)[i]? = some ((R.getD i (0, 0)).1, wlk R c i R.length) := by
    unfold MpOf at hm
    split at hm
    · exact ⟨[], 0, hm, by simp, by simp, by rw [if_pos ‹_›]; rfl, by simp⟩
    · obtain ⟨ls, n, e, hl⟩ := hm
      refine ⟨_, n, e, by simp [tdE, rmK]; omega, fun e he => ?_, ?_, fun i e he => ?_⟩
      · unfold tdE at he
        obtain ⟨y, _, rfl⟩ := List.mem_map.mp he
        exact ⟨_, rfl⟩
      · rw [if_neg ‹_›]; simp [tdE, rmK, lawMap]
      · have hlt : i < R.length := by
          have := (List.getElem?_eq_some_iff.mp he).1
          simpa [tdE, rmK] using this
        simp only [tdE, rmK, List.map_map, List.getElem?_map, List.getElem?_range hlt, Option.map_some, Function.comp, Option.some.injEq] at he
        subst he
        refine ⟨hlt, rfl, ⟨ls i, (hl i hlt).choose, rfl, (hl i hlt).choose_spec⟩, ?_⟩
        rw [if_neg ‹_›]
        simp [lawMap, List.getElem?_range hlt]
  refine fn_call (binds := [("told", .ref d)]) [] [] gd hg r (by k_is) (by k_is) (BindsTo.of_eq rfl) (locs rfl) (by simp) (by simp) rfl rfl rfl (by decide) fun L s F => ?_
  have rd : ∀ env, Rm (A.deeper env) 11 57 := fun _ => r.deeper
  walk_at "mm"
  obtain ⟨es, nd, hd0, hz, hrefs, hlen, hes⟩ := hes
  refine ListComp_ [] ?_
  walk_at "mm"
  refine getMethod_builtin (T := "dict") ⟨_, F.get (F.gd_sub hd0), rfl⟩ PySem.F.plainAttrs_dict PySem.F.slot_dict_items PySem.F.type_dict_items (fun a e => by cases e; exact ⟨_, F.get (F.gd_sub hd0), rfl⟩) ?_
  walk_at "mm"
  refine call_items (F.get (F.gd_sub hd0)) (lo_of F.gd (F.gd_sub hd0) hrefs) ?_
  obtain ⟨gB, hsB, FB, hview⟩ := F.push (o := { cls := .type "dict_items", data := .fields #[.ref d] }) (tk := s.toks) rfl
  refine iter_items (FB.get hview) (FB.get (FB.gd_sub hd0)) ?_
  refine comp_runP (fun its g' => RdAll g' its.toList (toldL (if c = 0 then [] else lawMap R c))) FB rfl rfl (by decide) (fun s1 P e h => self_items e rfl h) ?_ ?_
  · intro C l s1 Rr frI F post
    refine comp_items (fun i xs g1 m1 => xs.size = i ∧ RdAll g1 xs.toList (toldL ((if c = 0 then [] else lawMap R c).take i))) r.hd F (FB.gd_sub hd0) frI ⟨rfl, by simpa [toldL] using RdAll.nil⟩ hz (fun i xs g m h => Nat.le_of_eq h.1) ⟨rfl, rfl, rfl, rfl⟩ rfl rfl ?_ ?_ ?_
    · rintro i xs k g1 s1 m1 e oi hei hs1 ⟨hsz, hra⟩ F
      walk_at "mm"
      obtain ⟨hi, ek, ⟨lv, nv, ev, hlv⟩, hlm⟩ := hes i e hei
      rw [ek]
      obtain ⟨d1, u1, t1, t2, n1, e1, e2⟩ := (htk i hi).keeps (FB.step.sub.trans F.step.sub)
      refine q_own F (F.get e1) (F.get e2) (by k_is) (by k_is) (by k_is) (by k_is) (by rfl) (by k_handed) fun s1 F => ?_
      walk_at "mm"
      refine ListComp_ [] ?_
      walk_at "mm"
      rw [ev]
      have hl1 := g1.get? lv
      have hlv1 := FB.gd_sub hlv
      refine wpAny_pyIter_list (items := (hostsV HA (wlk R c i R.length)).toArray) ⟨_, F.get (F.gd_sub hlv1), rfl, _, rfl⟩ ?_
      refine comp_runP (fun its g' => RdAll g' its.toList (namesL (wlk R c i R.length))) F rfl rfl (by decide) (fun s1 P e h => self_list e rfl h) ?_ ?_
      · intro C2 l2 s2 R2 frI2 F2 post2
        refine comp_for (fun i2 xs2 g2 m2 => xs2.size = i2 ∧ RdAll g2 xs2.toList (namesL ((wlk R c i R.length).take i2))) (iter_list (rd _).hd _ lv _ g1 ⟨_, F.gd_sub hlv1, rfl, _, rfl⟩) F2 ⟨rfl, rfl⟩ frI2 ⟨rfl, by simpa [namesL] using RdAll.nil⟩ (by have := wlk_len R c i R.length; simp [hostsV]; omega) (fun i xs g m h => Nat.le_of_eq h.1) ⟨rfl, rfl, rfl, rfl⟩ rfl ?_ ?_
        · rintro i2 xs2 k2 g2 g3 s3 m3 v2 oi2 hi2 hs2 hs3 ⟨hsz2, hra2⟩ ⟨_, _, hv2, _⟩ F3
          have hi2' : i2 < (wlk R c i R.length).length := by simpa [hostsV] using hi2
          have hv2' : v2 = .ref (HA ((wlk R c i R.length)[i2])) := by
            simp only [hostsV, List.getElem?_toArray, List.getElem?_map, List.getElem?_eq_getElem hi2', Option.map_some, Option.some.injEq] at hv2
            exact hv2.symm
          subst hv2'
          refine wpAny_tests_nil ?_
          rw [if_pos rfl]
          have F := F3
          walk_at "mm"
          refine q_name (rd _).less F ((hHs _ (wlk_own ok _ _ _ _ (List.getElem_mem hi2'))).keeps (((FB.step.sub.trans hs1).trans hs2).trans hs3)) fun g4 s4 t4 hs4 F => ?_
          refine ⟨g4, _, hs4, F, by simp [hsz2], ?_⟩
          rw [List.take_add_one, List.getElem?_eq_getElem hi2']
          simp only [namesL, List.map_append, Option.toList, List.map_cons, List.map_nil]
          exact (hra2.keeps (hs3.trans hs4)).push (Rd.str _ _)
        · rintro xs2 k2 g2 s3 m3 hs2 ⟨hsz2, hra2⟩ F3
          refine post2 _ _ _ _ _ F3 ?_
          rwa [List.take_of_length_le (by simp [hostsV])] at hra2
      · intro l2 its2 n2 g2 s2 hs2 F2 hl2 post2
        obtain ⟨g3, hs3, F, hll2⟩ := F2.rest hl2
        walk_at "mm"
        refine q_newTup F (by simp) fun tp g4 s4 hs4 F htp => ?_
        refine ⟨g4, _, (hs2.trans hs3).trans hs4, F, by simp [hsz], ?_⟩
        rw [List.take_add_one, hlm]
        simp only [toldL, List.map_append, Option.toList, List.map_cons, List.map_nil]
        exact (hra.keeps ((hs2.trans hs3).trans hs4)).push (Rd.tup ⟨_, htp, rfl, _, rfl⟩ (RdAll.cons (Rd.int _ _) (RdAll.cons ((Rd.list ⟨_, hll2, rfl, _, rfl⟩ (post2.keeps hs3)).keeps hs4) RdAll.nil)))
    · rintro i xs g1 g2 m1 hs ⟨h1, h2⟩
      exact ⟨h1, h2.keeps hs⟩
    · rintro xs k g1 s1 m1 hs ⟨h1, h2⟩ F
      refine post _ _ _ _ _ F ?_
      rwa [List.take_of_length_le (by omega)] at h2
  · intro l its n g' s' hs F hl post
    obtain ⟨g2, hs2, F, hll⟩ := F.rest hl
    exact h l g2 _ F.step (Rd.list ⟨_, hll, rfl, _, rfl⟩ (post.keeps hs2))
def bookD (R : Ring) : Option Nat → PyData
  | none => .none
  | some c => toldD (if c = 0 then [] else lawMap R c)
def cpV (cp : Option Nat) (t : Tok) : Value := match cp with
  | none => .none
  | some c => .int c t
theorem told_can : ∀ {mp : List (Int × List Nat)}, (∀ p ∈ mp, ∀ k ∈ p.2, k < 3) → PyData.canLayAll0 (toldL mp) = true
  | [], _ => by simp [toldL, PyData.canLayAll0]
  | p :: mp, h => by
    have := told_can (mp := mp) fun q hq => h q (.tail _ hq)
    have h2 := names_can (l := p.2) (h p (.head _))
    simp only [toldL, List.map_cons, PyData.canLayAll0, PyData.canLay0, namesD] at this ⊢
    rw [this, h2]; rfl
theorem told_depth : ∀ {mp : List (Int × List Nat)}, PyData.depthAll (toldL mp) ≤ 8
  | [] => by simp [toldL, PyData.depthAll]
  | p :: mp => by
    have := told_depth (mp := mp)
    have h2 := names_depth (l := p.2)
    simp only [toldL, List.map_cons, PyData.depthAll, PyData.depth, namesD] at this ⊢
    omega
theorem bookD_can {R : Ring} (ok : RingOk R) : ∀ cp, (bookD R cp).canLay0 = true
  | none => rfl
  | some c => by
    show PyData.canLayAll0 (toldL _) = true
    refine told_can fun p hp k hk => ?_
    split at hp
    · cases hp
    · unfold lawMap at hp
      obtain ⟨i, _, rfl⟩ := List.mem_map.mp hp
      exact wlk_own ok _ _ _ k hk
theorem bookD_depth {R : Ring} : ∀ cp, (bookD R cp).depth ≤ 10
  | none => by simp [bookD, PyData.depth]
  | some c => by
    have := @told_depth (if c = 0 then [] else lawMap R c)
    simp only [bookD, toldD, PyData.depth]; omega
theorem q_neSame {w : World} {A : Around} {E : Value → Shared → Prop} {s : Shared} {a b : Value} {d : PyData} {u v : Nat} {Q : Value → Shared → Prop} (ra : Rd s.heap a d) (rb : Rd s.heap b d) (hd : d.canLay0 = true) (hz : d.depth ≤ 100) (r : Rm A u v)
    (h : Q (.bool false) s) : wpAny (model PW w) A (compareOp .NotEq a b) Q E s := by
  obtain ⟨_, ra⟩ := ra
  obtain ⟨_, rb⟩ := rb
  refine SeqAt.compareNe_reads ra rb hd hd (by rw [cLine_is]; have := r.un; omega) ?_
  rw [SeqAt.eqv_refl d hd]; exact h
theorem c_readV {w : World} {A : Around} {g0 : Heap} {sE : Shared} {E : Value → Shared → Prop} {Q : Value → Shared → Prop} {v : Value} {R : Ring} {HA tok : Nat → Addr} {cp : Option Nat}
    (r : Rm A 12 60) (gd : Gd w g0) (hg : Sub g0 sE.heap) (hm : RvOf g0 R HA tok cp v) (hHs : HsOf g0 HA) (htk : ∀ k, k < R.length → Tk g0 (tok k) (R.getD k (0, 0)).1) (ok : RingOk R)
    (h : ∀ v g' s', Step g0 sE g' s' → Rd g' v (bookD R cp) → Q v s') :
    wpAny (model PW w) A (call (.ref 909) [v] []) Q E sE := by
  cases cp with
  | some c =>
    obtain ⟨d, rfl, hm⟩ := hm
    exact c_read r gd hg hm hHs htk ok fun l g' s' S hr => h _ g' s' S hr
  | none =>
    obtain rfl : v = .none := hm
    refine fn_call (binds := [("told", .none)]) [] [] gd hg r (by k_is) (by k_is) (BindsTo.of_eq rfl) (locs rfl) (by simp) (by simp) rfl rfl rfl (by decide) fun L s F => ?_
    walk_at "mm"
    exact h _ _ s F.step ⟨_, .none⟩
theorem c_mapV {w : World} {A : Around} {g0 : Heap} {sE : Shared} {E : Value → Shared → Prop} {Q : Value → Shared → Prop} {rg : Addr} {R : Ring} {cp : Option Nat} {tc : Tok}
    (r : Rm A 10 30) (gd : Gd w g0) (hg : Sub g0 sE.heap) (hr : Rd g0 (.ref rg) (ringD R)) (ok : RingOk R) (hc : ∀ c, cp = some c → c ≤ 3)
    (h : ∀ v g' s', Step g0 sE g' s' → Rd g' v (bookD R cp) → Q v s') :
    wpAny (model PW w) A (call (.ref 904) [.ref rg, cpV cp tc] []) Q E sE := by
  cases cp with
  | some c => exact c_law_map r gd hg hr ok (hc c rfl) fun l g' s' S hr => h _ g' s' S hr
  | none =>
    show wpAny (model PW w) A (call (.ref 904) [.ref rg, .none] []) Q E sE
    refine fn_call (binds := [("ring", .ref rg), ("copies", .none)]) [] [] gd hg r (by k_is) (by k_is) (BindsTo.of_eq rfl) (locs rfl) (by simp) (by simp) rfl rfl rfl (by decide) fun L s F => ?_
    walk_at "mm"
    exact h _ _ s F.step ⟨_, .none⟩
section
variable {w : World} {W : List Addr} {g0 g : Heap} {s0 s : Shared} {L : Addr} {ms : List (Addr × Obj)} {m : Str → Option Value} {A : Around} {E : Value → Shared → Prop} {env : Env}
def TurnEnd (R : Result → Shared → Prop) (P : Shared → Prop) : Flow → Shared → Prop
  | .next, s => P s
  | .cont, s => P s
  | .brk, s => R (.ok .next) s
  | .ret v, s => R (.ok (.ret v)) s
theorem for_loopA {I : Addr} {oI : Obj} {n : Nat} {It : Nat → Obj → Prop} {P : Nat → Value → Heap → Heap → Prop} {target : Expr} {body : List Stmt} {R : Result → Shared → Prop}
    (J : Nat → List (Addr × Obj) → Heap → (Str → Option Value) → Prop)
    (Z : Iterates w A g I n It P) (F : Fm w W g0 s0 L (ms ++ [(I, oI)]) g s m) (hI : It 0 oI) (hn : s0.heap.get? I = none) (h0 : J 0 ms g m)
    (lets : ∀ i o v (s : Shared) (Q : Unit → Shared → Prop), It i o → s.heap.get? I = some o → Q () s → wpAny (model PW w) A (letOwnedTupleGo target (.ref I) v) Q NE s)
    (turn : ∀ i ms' g1 g2 s1 m' v oi, i < n → Sub g g1 → Sub g1 g2 → J i ms' g1 m' → (∃ h1 h2, P i v h1 h2 ∧ (∀ b ob, h2.get? b = some ob → h1.get? b = none → g2.get? b = some ob)) →
      Fm w W g0 s0 L (ms' ++ [(I, oi)]) g2 s1 m' →
      wpAny (model PW w) A (assign target env v) (fun _ s2 => wpAny (model PW w) A (execs body env) (TurnEnd R fun s3 => ∃ ms2 g3 m2, Sub g2 g3 ∧ Fm w W g0 s0 L (ms2 ++ [(I, oi)]) g3 s3 m2 ∧ J (i + 1) ms2 g3 m2) NE s2) NE s1)
    (done : ∀ ms' g1 s1 m', Sub g g1 → J n ms' g1 m' → Fm w W g0 s0 L ms' g1 s1 m' → R (.ok .next) s1) :
    codeAny (model PW w) A (.forLoop target (.ref I) body [] env) R s := by
  refine codeAny_forLoop_any (fun k s1 => ∃ i ms' g1 m' oi, i ≤ n ∧ k = n - i ∧ Sub g g1 ∧ J i ms' g1 m' ∧ It i oi ∧ Fm w W g0 s0 L (ms' ++ [(I, oi)]) g1 s1 m') ?_ n ⟨0, ms, g, m, oI, Nat.zero_le _, rfl, Sub.refl _, h0, hI, F⟩
  rintro k s1 ⟨i, ms', g1, m', oi, hi, rfl, hs, hJ, hIt, F1⟩
  have F1' := F1.perm (ms' := (I, oi) :: ms') (by have := perm_tail ms' (I, oi) []; simpa using this)
  by_cases hlt : i < n
  · refine wpAny_mono (Z.item i s1 oi hlt hIt (F1'.turnable (.head _)) (hs.trans F1.step.keep)) (fun r s2 h2 => ?_) fun _ _ q => q.elim
    obtain ⟨v, o', h', tk, rfl, rfl, hx, ho, hIt', hP⟩ := h2
    obtain ⟨g2, hs2, F2, hnew⟩ := F1'.turnE (tk := tk) hx ho
    have F3 := F2.perm (ms' := ms' ++ [(I, o')]) (by have := (perm_tail ms' (I, o') []).symm; simpa using this)
    refine wpAny_mono (lets _ _ v _ _ hIt' (F2.turnable (.head _)) ?_) (fun _ _ q => q) fun _ _ q => q.elim
    refine wpAny_mono (turn i ms' g1 g2 _ m' v o' hlt hs hs2 hJ ⟨_, _, hP, hnew⟩ F3) (fun _ s3 h3 => wpAny_mono h3 (fun fl s4 h4 => ?_) fun _ _ q => q.elim) fun _ _ q => q.elim
    have fin : (∃ ms2 g3 m2, Sub g2 g3 ∧ Fm w W g0 s0 L (ms2 ++ [(I, o')]) g3 s4 m2 ∧ J (i + 1) ms2 g3 m2) → ∃ k', k' < n - i ∧ ∃ i ms' g1 m' oi, i ≤ n ∧ k' = n - i ∧ Sub g g1 ∧ J i ms' g1 m' ∧ It i oi ∧ Fm w W g0 s0 L (ms' ++ [(I, oi)]) g1 s4 m' := by
      rintro ⟨ms2, g3, m2, hs3, F4, hJ4⟩
      exact ⟨n - (i + 1), by omega, i + 1, ms2, g3, m2, o', hlt, rfl, (hs.trans hs2).trans hs3, hJ4, hIt', F4⟩
    cases fl with
    | next => exact fin h4
    | cont => exact fin h4
    | brk => exact h4
    | ret v => exact h4
  · obtain rfl : i = n := by omega
    refine wpAny_mono (Z.done s1 oi hIt (F1'.turnable (.head _)) (hs.trans F1.step.keep)) (fun r s2 h2 => ?_) fun _ _ q => q.elim
    obtain ⟨h', tk, rfl, rfl, hx⟩ := h2
    exact wpAny_execs_nil (done ms' g1 _ m' hs hJ (F1'.lost (tk := tk) hx hn))
theorem lets_list {elts : List Expr} {k : Nat} {pos : Pos} {l I : Addr} {v : Value} {i : Nat} {o : Obj} {Q : Unit → Shared → Prop} (ho : o.cls = .type "list_iterator" ∧ o.data = .fields #[.ref l, .int i 0]) (hI : s.heap.get? I = some o) (h : Q () s) :
    wpAny (model PW w) A (letOwnedTupleGo (.Tuple elts k pos) (.ref I) v) Q NE s := by
  cases v with
  | ref T => exact wpAny_letOwnedTupleGo_listiter ⟨o, hI, ho⟩ h
  | _ => exact wpAny_of_eq (a := ()) (by rfl) h
end
theorem q_ge {w : World} {A : Around} {E : Value → Shared → Prop} {s : Shared} {a b : Int} {t u : Tok} {Q : Value → Shared → Prop} (h : Q (.bool (decide (b ≤ a))) s) : wpAny (model PW w) A (compareOp .GtE (.int a t) (.int b u)) Q E s := PyProof.Rows.ge_int h
theorem q_truthyL {w : World} {W : List Addr} {g0 g : Heap} {s0 s : Shared} {L : Addr} {ms : List (Addr × Obj)} {m : Str → Option Value} {A : Around} {E : Value → Shared → Prop} {l : Addr} {its : Array Value} {Q : Bool → Shared → Prop}
    (F : Fm w W g0 s0 L ms g s m) (hl : s.heap.IsList l its) (hz : its.size ≤ 100) (h : ∀ s', Fm w W g0 s0 L ms g s' m → Q (!its.isEmpty) s') : wpAny (model PW w) A (truthy (.ref l)) Q E s :=
  wpAny_truthy_list hl (by omega) (h _ F.tok)
def AnsV (g : Heap) (R : Ring) (u : Int) (cp : Option Nat) (v : Value) : Prop := match cp with
  | some (c + 1) => ∃ q, IsSpot R u q ∧ Rd g v (namesD (wlk R (c + 1) q R.length))
  | _ => Rd g v (namesD [])
theorem c_answer {w : World} {A : Around} {g0 : Heap} {sE : Shared} {E : Value → Shared → Prop} {Q : Value → Shared → Prop} {bv : Value} {R : Ring} {cp : Option Nat} {u : Int} {tu : Tok}
    (r : Rm A 5 40) (gd : Gd w g0) (hg : Sub g0 sE.heap) (hb : Rd g0 bv (bookD R cp)) (ok : RingOk R)
    (h : ∀ v g' s', Step g0 sE g' s' → AnsV g' R u cp v → Q v s') :
    wpAny (model PW w) A (call (.ref 923) [bv, .int u tu] []) Q E sE := by
  have hn := ok.pos
  have hn' := ok.le
  refine fn_call (binds := [("book", bv), ("value", .int u tu)]) [] [] gd hg r (by k_is) (by k_is) (BindsTo.of_eq rfl) (locs rfl) (by simp) (by simp) rfl rfl rfl (by decide) fun L s F => ?_
  have rd : ∀ env, Rm (A.deeper env) 4 37 := fun _ => r.deeper
  walk_at "mm"
  rcases cp with _ | c
  · obtain ⟨_, hb⟩ := hb
    cases hb
    refine truthy_none ?_
    walk_at "mm"
    refine q_newListM F (by simp) fun l s F nl => ?_
    obtain ⟨g3, hs3, F, hl⟩ := F.rest nl
    exact h _ g3 _ F.step (Rd.list ⟨_, hl, rfl, _, rfl⟩ RdAll.nil)
  obtain ⟨l, its, rfl, hl, ha⟩ := hb.list_of
  have hlen : its.size = (if c = 0 then [] else lawMap R c).length := by simpa [toldL] using ha.len
  have hsz : its.size = if c = 0 then 0 else R.length := by
    rw [hlen]; split <;> simp [lawMap]
  refine q_truthyL F (isl hl (F.step.sub.trans F.step.keep)) (by rw [hsz]; split <;> omega) fun s F => ?_
  by_cases hc0 : c = 0
  · have : its.isEmpty = true := by rw [Array.isEmpty_iff_size_eq_zero, hsz, if_pos hc0]
    rw [this]
    walk_at "mm"
    refine q_newListM F (by simp) fun l s F nl => ?_
    obtain ⟨g3, hs3, F, hl⟩ := F.rest nl
    subst hc0
    exact h _ g3 _ F.step (Rd.list ⟨_, hl, rfl, _, rfl⟩ RdAll.nil)
  obtain ⟨c, rfl⟩ : ∃ c', c = c' + 1 := ⟨c - 1, by omega⟩
  rw [if_neg (by omega)] at hsz hlen
  rw [if_neg (by omega)] at ha
  have hit : ∀ i, i < R.length → ∃ T va vb, its[i]? = some (.ref T) ∧ IsTup g0 T (List.toArray [va, vb]) ∧ Rd g0 va (.int (R.getD i (0, 0)).1) ∧ Rd g0 vb (namesD (wlk R (c + 1) i R.length)) := fun i hi => by
    obtain ⟨v, e1, e2⟩ := ha.get (i := i) (d := .tuple [.int (R.getD i (0, 0)).1, namesD (wlk R (c + 1) i R.length)]) (by simp [toldL, lawMap, List.getElem?_range hi])
    obtain ⟨T, va, vb, rfl, hT, ra, rb⟩ := e2.tup2_of
    exact ⟨T, va, vb, by simpa using e1, hT, ra, rb⟩
  have : its.isEmpty = false := by rw [Bool.eq_false_iff]; intro e; rw [Array.isEmpty_iff_size_eq_zero, hsz] at e; omega
  rw [this]
  walk_at "mm"
  refine wpAny_pyIter_list (items := its) (isl hl (F.step.sub.trans F.step.keep)) ?_
  have F' := F.pushM (o := { cls := .type "list_iterator", data := .fields #[.ref l, .int 0 0] }) (tk := s.toks) rfl
  have nI := F.absent
  refine for_loopA (ms := []) (fun i ms' g1 m1 => ms' = [] ∧ m1 "book" = some (.ref l) ∧ m1 "value" = some (.int u tu) ∧ ∀ k, k < i → (R.getD k (0, 0)).1 < u) (iter_list (rd _).hd _ l its _ (isl hl F.step.sub)) F' ⟨rfl, rfl⟩ nI ⟨rfl, by walk_at "hv", by walk_at "hv", by simp⟩ (fun i o v s Q hI e q => lets_list hI e q) ?_ ?_
  · rintro i ms' g1 g2 s m1 v oi hi hs1 hs2 ⟨rfl, hm1, hm2, hlt⟩ ⟨_, _, hv, _⟩ F
    obtain ⟨T, va, vb, e1, hT, ra, rb⟩ := hit i (by omega)
    have hv : its[i]? = some v := hv
    rw [e1] at hv
    cases hv
    obtain ⟨ta, rfl⟩ := ra.int_of
    refine q_assignTup (items := [.int (R.getD i (0, 0)).1 ta, vb]) (rd _).hd F (ist hT (F.step.sub.trans F.step.keep)) rfl rfl fun g3 s hs3 F => ?_
    refine assignInOrder_cons (wpAny_assign_Name (q_st F fun s F => ?_)) 
    refine assignInOrder_cons (wpAny_assign_Name (q_st F fun s F => assignInOrder_nil ?_)) 
    walk_at "mm"
    try refine q_ge ?_
    by_cases hle : u ≤ (R.getD i (0, 0)).1
    · rw [decide_eq_true hle]
      walk_at "mm"
      refine h _ g3 _ F.step ⟨i, ⟨i, by omega, hlt, fun k hk hk2 => ?_, by rw [if_neg (by omega)]⟩, rb.keeps F.step.sub⟩
      by_cases e : k = i
      · rw [e]; exact hle
      · have := ok.inc i k (by omega) hk2
        omega
    · rw [decide_eq_false hle]
      walk_at "mm"
      refine ⟨[], g3, _, hs3, F, rfl, by walk_at "hv", by walk_at "hv", fun k hk => ?_⟩
      by_cases e : k = i
      · rw [e]; omega
      · exact hlt k (by omega)
  · rintro ms' g1 s m1 hs1 ⟨rfl, hm1, hm2, hlt⟩ F
    obtain ⟨T, va, vb, e1, hT, ra, rb⟩ := hit 0 (by omega)
    walk_at "mm"
    refine q_itemN 0 (isl hl (F.step.sub.trans F.step.keep)) rfl (by omega) e1 ?_
    walk_at "mm"
    refine q_tupI 1 (ist hT (F.step.sub.trans F.step.keep)) rfl (by omega) rfl ?_
    exact h _ g1 _ F.step ⟨0, ⟨R.length, Nat.le_refl _, fun k hk => hlt k (by omega), fun k hk hk2 => by omega, by rw [if_pos rfl]⟩, rb.keeps F.step.sub⟩
abbrev cellsAt (L : Addr) (scope : Scope) : List (Str × Addr) := cellsFrom (L + 1) scope.names []
theorem fn_callC {w : World} {A : Around} {name qual : Str} {params : Arguments} {body : List Stmt} {scope : Scope} {dV kV doc pm cdv ct oc : Value} {an od : Option Addr} {osl : Array (Option Value)} {f : Addr} {args : List Value} {binds : List (Str × Value)}
    {R : Result → Shared → Prop} {s : Shared} {g0 : Heap} (W : List Addr) (ms : List (Addr × Obj)) {d u : Nat}
    (gd : Gd w g0) (hg : Sub g0 s.heap) (hr : Rm A d u)
    (ho : (Mine.hd.heap_39 w.params).lookup f = some ⟨oc, od, .func (fnOf name qual params body scope dV kV doc pm an cdv ct), osl⟩) (hcd : codeIn (Mine.hd.heap_39 w.params) cdv qual = true)
    (hbind : bindArgs (fnOf name qual params body scope dV kV doc pm an cdv ct) ⟨args, []⟩ = pure binds)
    (hkind : ∀ L, ∀ x ∈ binds, scope.names.lookup x.1 = some .local ∨ (scope.names.lookup x.1 = some .cell ∧ ((cellsAt L scope).lookup x.1).isSome = true))
    (hms : ∀ p ∈ ms, s.heap.get? p.1 = some p.2 ∧ g0.get? p.1 = none ∧ p.1 ∈ W) (hnd : (ms.map (·.1)).Nodup)
    (hco : scope.isCoroutine = false) (hgen : scope.isGenerator = false) (hk : scope.kind = .function)
    (hcs : ∀ L, ∀ x ∈ cellsAt L scope, (cellsAt L scope).lookup x.1 = some x.2)
    (h : ∀ L s1 (os : Str → Obj), (∀ x ∈ cellsAt L scope, (os x.1).data = .cell (bindC (envOfC qual scope L f cdv).kindOf binds (fun _ => none) x.1)) → (∀ x ∈ cellsAt L scope, s.heap.get? x.2 = none) →
      Fm w W g0 s L ((cellsAt L scope).map (fun x => (x.2, os x.1)) ++ ms) g0 s1 (bindL (envOfC qual scope L f cdv).kindOf binds fun _ => none) →
      wpAny (model PW w) (A.deeper (envOfC qual scope L f cdv)) (execs body (envOfC qual scope L f cdv)) (fun fl s' => R (.ok (.ret (match fl with | .ret v => v | _ => .none))) s') NE s1) :
    codeAny (model PW w) A (.call (.ref f) ⟨args, []⟩) R s := by
  have gd' := gd.keeps hg
  obtain ⟨p, lo, mg, mb, T⟩ := gd'.2
  refine codeAny_call_cells (fd := fnOf name qual params body scope dV kV doc pm an cdv ct) (body := body) (binds := binds) hr.room (gd'.1 _ _ ho) rfl T.nolimit (codeRec_of gd'.1 hcd) rfl hbind rfl (hkind _) (fun s1 X => ?_) hco hgen hk
  have X : InCallC s s.heap.objs.size (bindL (envOfC qual scope s.heap.objs.size f cdv).kindOf binds fun _ => none) (cellsAt s.heap.objs.size scope) (bindC (envOfC qual scope s.heap.objs.size f cdv).kindOf binds fun _ => none) s1 := X
  have fr : ∀ c, s.heap.objs.size ≤ c → s.heap.get? c = none := fun c hc => Heap.get?_none_of_le hc
  have gn : ∀ c, s.heap.objs.size ≤ c → g0.get? c = none := fun c hc => by
    cases q : g0.get? c with
    | none => rfl
    | some o => have := hg _ _ q; rw [fr c hc] at this; cases this
  obtain ⟨h1, tk, e1⟩ := X.toInCall.same
  have kp := X.toInCall.keep
  let os : Str → Obj := fun n => (((cellsAt s.heap.objs.size scope).lookup n).bind fun c => s1.heap.get? c).getD emptyD
  have hos : ∀ x ∈ cellsAt s.heap.objs.size scope, s1.heap.get? x.2 = some (os x.1) ∧ (os x.1).data = .cell (bindC (envOfC qual scope s.heap.objs.size f cdv).kindOf binds (fun _ => none) x.1) := fun x hx => by
    have hl := hcs _ x hx
    obtain ⟨o, ho, hd⟩ := X.cell _ _ hl
    have e : os x.1 = o := by show (((cellsAt s.heap.objs.size scope).lookup x.1).bind _).getD emptyD = o; rw [hl]; simp [ho]
    rw [e]; exact ⟨ho, hd⟩
  have hab : ∀ x ∈ cellsAt s.heap.objs.size scope, s.heap.objs.size < x.2 := fun x hx => X.above x.1 x.2 hx
  refine wpAny_mono (h s.heap.objs.size s1 os (fun x hx => (hos x hx).2) (fun x hx => fr _ (Nat.le_of_lt (hab x hx))) ⟨⟨by rw [e1], by rw [e1], by rw [e1], fun b o _ e => kp b o e, fun b o e => ⟨o, kp b o e⟩, Sub.refl _, fun b o e => kp b o (hg b o e), fun b o e => .inl e⟩, gd, X.toInCall.ns, ⟨fr _ (Nat.le_refl _), Nat.le_refl _, gd, hg⟩, gn _ (Nat.le_refl _), fun p hp => ?_, ?_⟩) (fun fl s' q => q) fun _ _ q => q.elim
  · rcases List.mem_append.mp hp with hp | hp
    · obtain ⟨x, hx, rfl⟩ := List.mem_map.mp hp
      have := hab x hx
      exact ⟨(hos x hx).1, gn _ (Nat.le_of_lt this), Nat.ne_of_gt this, .inl (fr _ (Nat.le_of_lt this))⟩
    · refine ⟨kp _ _ (hms p hp).1, (hms p hp).2.1, fun q => ?_, .inr (hms p hp).2.2⟩
      have := (hms p hp).1
      rw [q, fr _ (Nat.le_refl _)] at this; cases this
  · rw [List.map_append, List.nodup_append]
    refine ⟨?_, hnd, fun a ha b hb e => ?_⟩
    · rw [List.map_map]
      exact List.pairwise_map.mpr (X.apart.imp fun h => h)
    · obtain ⟨p1, h1, e1⟩ := List.mem_map.mp ha
      obtain ⟨x, hx, rfl⟩ := List.mem_map.mp h1
      obtain ⟨p2, h2, e2⟩ := List.mem_map.mp hb
      have := (hms p2 h2).1
      rw [e2, ← e, ← e1] at this
      have q : s.heap.get? x.2 = none := fr _ (Nat.le_of_lt (hab x hx))
      rw [show ((x.2, os x.1) : Addr × Obj).1 = x.2 from rfl, q] at this; cases this
theorem e_stc {w : World} {W : List Addr} {g0 g : Heap} {s0 s : Shared} {L : Addr} {ms : List (Addr × Obj)} {m : Str → Option Value} {A : Around} {E : Value → Shared → Prop} {env : Env} {x : Str} {v : Value} {v0 : Option Value} {c : Addr} {oc : Obj} {Q : Unit → Shared → Prop} (ea : EnvAt env L)
    (F : Fm w W g0 s0 L ((c, oc) :: ms) g s m) (hc : env.cells.lookup x = some c) (hd : oc.data = .cell v0) (h : ∀ oc' s', oc'.data = .cell (some v) → Fm w W g0 s0 L ((c, oc') :: ms) g s' m → Q () s')
    (hl : env.kindOf x = some .cell) : wpAny (model PW w) A (storeName env x v) Q E s :=
  wpAny_storeName_cell ea.kind hl hc ⟨oc, F.turnable (.head _), hd⟩ fun h' hv hs => by
    obtain ⟨oc', e, hd'⟩ := hv
    exact h oc' _ hd' (F.turn (tk := s.toks) hs e)
theorem q_mul20 {w : World} {W : List Addr} {g0 g : Heap} {s0 s : Shared} {L : Addr} {ms : List (Addr × Obj)} {m : Str → Option Value} {A : Around} {E : Value → Shared → Prop} {b : Int} {t u : Tok} {Q : Value → Shared → Prop} (F : Fm w W g0 s0 L ms g s m)
    (h : ∀ s' t, Fm w W g0 s0 L ms g s' m → Q (.int (20 * b) t) s') : wpAny (model PW w) A (binaryOp .Mult (.int 20 t) (.int b u)) Q E s := PyProof.Rows.mul_int (h _ _ F.tok) (IntMulOk.of_left (by decide))
def ringOf (P : Nat → Int) : Ring := (List.range (1 + (P 0 % 4).toNat)).map fun k : Nat => (20 * (k : Int) + P 1 % 20 - 30, (P k % 3).toNat)
theorem ringOf_len (P : Nat → Int) : (ringOf P).length = 1 + (P 0 % 4).toNat := by simp [ringOf]
theorem ringOf_get (P : Nat → Int) {k : Nat} (h : k < (ringOf P).length) : (ringOf P)[k]? = some (20 * (k : Int) + P 1 % 20 - 30, (P k % 3).toNat) := by
  rw [ringOf_len] at h
  simp [ringOf, List.getElem?_range h]
theorem ringOf_ok (P : Nat → Int) : RingOk (ringOf P) := by
  have hl := ringOf_len P
  have key : ∀ k, k < (ringOf P).length → (ringOf P).getD k (0, 0) = (20 * (k : Int) + P 1 % 20 - 30, (P k % 3).toNat) := fun k hk => by
    rw [List.getD_eq_getElem?_getD, ringOf_get P hk]; rfl
  have out : ∀ k, ¬ k < (ringOf P).length → (ringOf P).getD k (0, 0) = (0, 0) := fun k hk => by
    rw [List.getD_eq_getElem?_getD, List.getElem?_eq_none (by omega)]; rfl
  refine ⟨by omega, by omega, fun k => ?_, fun k => ?_, fun k => ?_, fun i j hij hj => ?_⟩
  · by_cases h : k < (ringOf P).length
    · rw [key k h]; show (P k % 3).toNat < 3; omega
    · rw [out k h]; decide
  · by_cases h : k < (ringOf P).length
    · rw [key k h]; show -100 < 20 * (k : Int) + P 1 % 20 - 30; omega
    · rw [out k h]; decide
  · by_cases h : k < (ringOf P).length
    · rw [key k h]; show 20 * (k : Int) + P 1 % 20 - 30 < 100; omega
    · rw [out k h]; decide
  · rw [key j hj, key i (by omega)]
    show 20 * (i : Int) + P 1 % 20 - 30 + 20 ≤ 20 * (j : Int) + P 1 % 20 - 30
    omega
theorem abc_item {i : Int} (h0 : 0 ≤ i) (h1 : i < 3) : Txt.item (Str.ofString "abc") i = nm i.toNat := by
  obtain rfl | rfl | rfl : i = 0 ∨ i = 1 ∨ i = 2 := by omega
  all_goals rfl
theorem q_abc {w : World} {W : List Addr} {g0 g : Heap} {s0 s : Shared} {L : Addr} {ms : List (Addr × Obj)} {m : Str → Option Value} {A : Around} {E : Value → Shared → Prop} {value slice : Expr} {i : Int} {t u : Tok} {Q : Value → Shared → Prop} (F : Fm w W g0 s0 L ms g s m) (h0 : 0 ≤ i) (h1 : i < 3)
    (h : ∀ s' t, Fm w W g0 s0 L ms g s' m → Q (.str (nm i.toNat) t) s')
    (hs : subscripted slice false (.str (Str.ofString "abc") t) (.int i u) = operate [.str (Str.ofString "abc") t, .int i u] (getItem (.str (Str.ofString "abc") t) (.int i u)) := by with_unfolding_all rfl)
    (ht : ∀ r, letTemporaryGo value (.str (Str.ofString "abc") t) r = pure () := by intro _; with_unfolding_all rfl) :
    wpAny (model PW w) A (subscriptTail value slice (.str (Str.ofString "abc") t) (.int i u)) Q E s := by
  have hl : ((Str.ofString "abc").length : Int) = 3 := by decide
  refine item_str (by unfold fitsSsize; simp; omega) (by omega) (by omega) (fun _ => ?_) hs ht
  rw [abc_item h0 h1]; exact h _ _ F.tok
def IsP (g : Heap) (pl : Addr) (P : Nat → Int) : Prop := ∃ its, g.IsList pl its ∧ ∀ k, k < 4 → ∃ t, its[k]? = some (.int (P k) t)
theorem IsP.keeps {g h : Heap} {pl P} (x : IsP g pl P) (k : Sub g h) : IsP h pl P := let ⟨its, a, b⟩ := x; ⟨its, isl a k, b⟩
theorem c_ring {w : World} {A : Around} {g0 : Heap} {sE : Shared} {E : Value → Shared → Prop} {Q : Value → Shared → Prop} {pl : Addr} {P : Nat → Int}
    (r : Rm A 5 40) (gd : Gd w g0) (hg : Sub g0 sE.heap) (hp : IsP g0 pl P)
    (h : ∀ l g' s', Step g0 sE g' s' → Rd g' (.ref l) (ringD (ringOf P)) → Q (.ref l) s') :
    wpAny (model PW w) A (call (.ref 892) [.ref pl] []) Q E sE := by
  have ok := ringOf_ok P
  have hn := ok.pos
  have hn' := ok.le
  obtain ⟨its, hl, hit⟩ := hp
  refine wpAny_call (fn_callC (binds := [("p", .ref pl)]) [] [] gd hg r (by k_is) (by k_is) (by rfl) ?_ (by simp) (by simp) rfl rfl rfl ?_ fun L s os hos hfr F => ?_)
  · intro L x hx
    simp only [List.mem_cons, List.not_mem_nil, or_false] at hx
    subst hx
    exact .inr ⟨by rfl, by rfl⟩
  · intro L x hx
    have hx : x ∈ [((Str.ofString "p", L + 1) : Str × Addr)] := hx
    obtain rfl := List.mem_singleton.mp hx
    rfl
  have F : Fm w [] g0 sE L [(L + 1, os "p")] g0 s (fun _ => none) := F
  have hoc : (os "p").data = .cell (some (.ref pl)) := hos ("p", L + 1) (List.Mem.head _)
  have hfr : sE.heap.get? (L + 1) = none := hfr ("p", L + 1) (List.Mem.head _)
  generalize os "p" = oc at F hoc
  have rd : ∀ env, Rm (A.deeper env) 4 37 := fun _ => r.deeper
  obtain ⟨g, hs0, F, hgc⟩ := F.rest hfr
  have cell : ∀ {g1 s1 m ms}, Fm w [] g0 sE L ms g1 s1 m → Sub g g1 → s1.heap.IsCell (L + 1) (some (.ref pl)) := fun F hs => ⟨_, F.get (hs _ _ hgc), hoc⟩
  walk_at "mm"
  refine ListComp_ [("p", L + 1)] ?_
  walk_at "mm"
  refine e_ldc (c := L + 1) (L := L) ⟨rfl, rfl, rfl, rfl⟩ rfl rfl (cell F (Sub.refl _)) ?_ (by decide)
  walk_at "mm"
  obtain ⟨t0, e0⟩ := hit 0 (by omega)
  refine q_itemN 0 (isl hl (F.step.sub.trans F.step.keep)) rfl (by omega) e0 ?_
  walk_at "mm"
  refine q_range F fun rr g1 s t u v hs1 F hrr => ?_
  have hnr : (1 : Int) + P 0 % 4 = ((ringOf P).length : Nat) := by rw [ringOf_len]; omega
  rw [hnr] at hrr
  refine iter_rangeP (F.get hrr) (by omega) ?_
  refine comp_runP (fun its g' => RdAll g' its.toList ((ringOf P).map fun p => .tuple [.int p.1, .str (nm p.2)])) F rfl rfl (by decide) (fun s1 P e h => self_range e rfl h) ?_ ?_
  · intro C l2 s Rr frI F post
    refine comp_for (fun i xs g2 m2 => xs.size = i ∧ RdAll g2 xs.toList (((ringOf P).take i).map fun p => .tuple [.int p.1, .str (nm p.2)])) (iter_range (rd _).hd _ (ringOf P).length g1) F (by simp [rawInt]) frI ⟨rfl, by simpa using RdAll.nil⟩ (by omega) (fun i xs g m h => Nat.le_of_eq h.1) ⟨rfl, rfl, rfl, rfl⟩ rfl ?_ ?_
    · rintro i xs k g2 g3 s m3 v oi hi hs2 hs3 ⟨hsz, hra⟩ ⟨_, _, ⟨ti, rfl⟩, _⟩ F
      refine wpAny_tests_nil ?_
      rw [if_pos rfl]
      have hs01 : Sub g g3 := (hs1.trans hs2).trans hs3
      have hl3 : Sub g0 g3 := hs0.trans hs01
      obtain ⟨t1, e1⟩ := hit 1 (by omega)
      obtain ⟨tk, ek⟩ := hit i (by omega)
      walk_at "mm"
      refine e_ldc (c := L + 1) (L := C) ⟨rfl, rfl, rfl, rfl⟩ rfl rfl ⟨_, F.get (hs01 _ _ hgc), hoc⟩ ?_ (by decide)
      walk_at "mm"
      refine q_itemN 1 (isl hl (hl3.trans F.step.keep)) rfl (by omega) e1 ?_
      walk_at "mm"
      refine e_ldc (c := L + 1) (L := C) ⟨rfl, rfl, rfl, rfl⟩ rfl rfl ⟨_, F.get (hs01 _ _ hgc), hoc⟩ ?_ (by decide)
      walk_at "mm"
      refine q_itemN i (isl hl (hl3.trans F.step.keep)) rfl (by omega) ek ?_
      walk_at "mm"
      refine q_abc F (by omega) (by omega) fun s t F => ?_
      walk_at "mm"
      refine q_newTup F (by simp) fun tp g4 s4 hs4 F htp => ?_
      refine ⟨g4, _, hs4, F, by simp [hsz], ?_⟩
      rw [List.take_add_one, ringOf_get P hi]
      simp only [List.map_append, Option.toList, List.map_cons, List.map_nil]
      exact (hra.keeps (hs3.trans hs4)).push (Rd.tup ⟨_, htp, rfl, _, rfl⟩ (RdAll.cons (Rd.int _ _) (RdAll.cons (Rd.str _ _) RdAll.nil)))
    · rintro xs2 k2 g2 s3 m3 hs2 ⟨hsz2, hra2⟩ F3
      refine post _ _ _ _ _ F3 ?_
      rwa [List.take_length] at hra2
  · intro l2 its2 n2 g2 s2 hs2 F2 hl2 post2
    obtain ⟨g3, hs3, F, hll2⟩ := F2.rest hl2
    exact h l2 g3 _ F.step (Rd.list ⟨_, hll2, rfl, _, rfl⟩ (post2.keeps hs3))
section
variable {M : Model} {A : Around} {E : Value → Shared → Prop} {s : Shared} {K : Frag} {x C : Addr} {ox : Obj} {od : Option Obj}
theorem hash_K' {Q : Int → Shared → Prop} {fv : Value} (hu : A.units < cLine) (X : K.In s.heap) (I : InstAt s.heap x ox C od) (hs : findIn K (.ref C) "__hash__" = some (some fv)) (hb : (fv == Value.none) = false) (hbs : Looks M s.heap (bindSpecial fv (.ref x)) (fv, [.ref x]))
    (h : wpAny M A (call fv [.ref x]) (fun v s' => ∃ i t, v = .int i t ∧ ∀ j, Q j s') E s) : wpAny M A (pyHash (.ref x)) Q E s := by
  show wpAny M A (pyHashByItsType (.ref x)) Q E s
  unfold pyHashByItsType
  refine wpAny_bind (wpAny_cRoomFor hu ?_)
  refine wpAny_bind (wpAny_bind (I.type.here ((looks_findIn X hs).here ?_)))
  have : (some fv == some Value.none) = false := by show (fv == Value.none) = false; exact hb
  rw [if_neg (by rw [this]; exact Bool.false_ne_true)]
  refine wpAny_bind (wpAny_bind (I.type.here ((looks_findIn X hs).here ?_)))
  show wpAny _ _ (if (some fv).isNone = true then _ else _) _ _ _
  rw [if_neg (by simp)]
  refine wpAny_bind (fnu_K X I hs hb hbs (wpAny_mono h (fun r s' hr => ?_) fun _ _ y => y))
  obtain ⟨i, t, rfl, hq⟩ := hr
  show wpAny _ _ (pyHashByItsType.reduced i) _ _ _
  unfold pyHashByItsType.reduced
  by_cases hr : (decide (-(2 : Int) ^ 63 ≤ i) && decide (i < 2 ^ 63)) = true
  · rw [if_pos hr]; exact wpAny_pure (hq _)
  · rw [if_neg hr]; exact wpAny_bind (wpAny_rule (wpAny_pure (hq _)))
end
theorem host_hash {w : World} {A : Around} {E : Value → Shared → Prop} {s : Shared} {a : Addr} {k : Nat} {d u : Nat} {Q : Int → Shared → Prop} (r : Rm A d u) (X : Frag.In (Mine.hd.heap_39 w.params) s.heap) (hx : Hs s.heap a k) (h : ∀ hh tk, Q hh { s with toks := tk }) : wpAny (model PW w) A (pyHash (.ref a)) Q E s := by
  obtain ⟨t1, t2, t3, dd, e1, e2⟩ := hx
  have I : InstAt s.heap a (hostO (nm k) t1 t2 t3 dd) 884 (some emptyD) := ⟨e1, rfl, rfl, e2⟩
  refine hash_K' (fv := .builtin "tuple.__hash__") r.cl X I (by k_is) (by rfl) (Looks.of_pure (PySem.F.slot_tuple_hash.bind _)) ?_
  refine call_subB (owner := "tuple") (n := "__hash__") (by decide +kernel) (by decide +kernel) PySem.F.slot_tuple_hash.plain PySem.F.entry_tuple_hash X I (by k_is) (PySem.F.args_tuple_hash_1 _) ?_
  show wpAny _ _ (Builtin.Tuple.tupleItemsOf (.ref a) >>= _) _ _ s
  refine wpAny_bind (wpAny_tupleItemsOf e1 rfl ?_)
  refine wpAny_bind ?_
  rw [← Array.forIn_toList]
  simp only [List.forIn_cons, List.forIn_nil]
  refine wpAny_bind (wpAny_bind (wpAny_pyHash_str ?_))
  refine wpAny_pure ?_
  refine wpAny_bind (wpAny_bind (wpAny_pyHash_str ?_))
  refine wpAny_pure ?_
  refine wpAny_bind (wpAny_bind (wpAny_pyHash_str ?_))
  refine wpAny_pure ?_
  refine wpAny_pure ?_
  refine wpAny_ret_mkInt ?_
  exact ⟨_, _, rfl, fun j => h j _⟩
theorem host_quiet {w : World} {A : Around} {E : Value → Shared → Prop} {s : Shared} {a : Addr} {k : Nat} {Q : Bool → Shared → Prop} (X : Frag.In (Mine.hd.heap_39 w.params) s.heap) (hx : Hs s.heap a k) (h : Q true s) : wpAny (model PW w) A (eqIsQuiet 8 (.ref a)) Q E s := by
  obtain ⟨t1, t2, t3, dd, e1, e2⟩ := hx
  have I : InstAt s.heap a (hostO (nm k) t1 t2 t3 dd) 884 (some emptyD) := ⟨e1, rfl, rfl, e2⟩
  unfold eqIsQuiet
  refine wpAny_bind (wpAny_bind (I.type.here ((looks_findIn (r := some (.builtin "tuple.__eq__")) X (by k_is)).here ?_)))
  dsimp only
  refine wpAny_bind (wpAny_bind (I.type.here ((looks_subIn (r := true) X (by k_is)).here ?_)))
  simp only [Bool.not_true, Bool.false_eq_true, if_false]
  refine wpAny_bind (wpAny_seqItems e1 rfl ?_)
  refine wpAny_bind ?_
  rw [← Array.forIn_toList]
  simp only [Option.getD, List.forIn_cons, List.forIn_nil]
  refine wpAny_bind (wpAny_bind (wpAny_of_eq (eqIsQuiet_byValue _ rfl) (wpAny_pure ?_)))
  refine wpAny_bind (wpAny_bind (wpAny_of_eq (eqIsQuiet_byValue _ rfl) (wpAny_pure ?_)))
  refine wpAny_bind (wpAny_bind (wpAny_of_eq (eqIsQuiet_byValue _ rfl) (wpAny_pure ?_)))
  exact wpAny_pure (wpAny_pure h)
def hdE (HA : Nat → Addr) (hs : Nat → Int) (vs : Nat → Value) (i : Nat) : List DictEntry := (List.range i).map fun k => ⟨hs k, .ref (HA k), vs k⟩
theorem hs_find {w : World} {A : Around} {E : Value → Shared → Prop} {s : Shared} {D : Addr} {HA : Nat → Addr} {hs : Nat → Int} {vs : Nat → Value} {n i : Nat} {hh : Int} {d u : Nat} {Q : Option Nat → Shared → Prop} (r : Rm A d u) (X : Frag.In (Mine.hd.heap_39 w.params) s.heap) (hH : ∀ k, k < 3 → Hs s.heap (HA k) k) (hi : i < 3)
    (ho : s.heap.get? D = some (dictO (hdE HA hs vs i) n)) (h : Q none s) : wpAny (model PW w) A (dictFind D (.ref (HA i)) hh) Q E s := by
  have key : ∀ k, k < i → ∀ {Q : Bool → Shared → Prop} {E : Value → Shared → Prop}, Q false s → wpAny (model PW w) A (eqBool (.ref (HA k)) (.ref (HA i))) Q E s := fun k hk Q E q =>
    host_eq r X (hH k (by omega)) (hH i hi) (by omega) hi (fun e => by omega) (by rw [decide_eq_false (by omega)]; exact q)
  have hk : ∀ k, k < i → Value.ref (HA k) ≠ Value.ref (HA i) := fun k hk e => by
    have e : HA k = HA i := by injection e
    have h1 := hH k (by omega)
    rw [e] at h1
    have := h1.val (hH i hi)
    omega
  have hes : ∀ (j : Nat) e, (hdE HA hs vs i)[j]? = some e → j < i ∧ e.key = .ref (HA j) := fun j e he => by
    have hlt : j < i := by
      have := (List.getElem?_eq_some_iff.mp he).1
      simpa [hdE] using this
    simp only [hdE, List.getElem?_map, List.getElem?_range hlt, Option.map_some, Option.some.injEq] at he
    subst he
    exact ⟨hlt, rfl⟩
  have hlen : (hdE HA hs vs i).length = i := by simp [hdE]
  generalize hesg : hdE HA hs vs i = es at ho hes hlen
  have hmem : ∀ e ∈ es, e.key ≠ .ref (HA i) := fun e he => by
    obtain ⟨j, hj⟩ := List.mem_iff_getElem?.mp he
    rw [(hes j e hj).2]; exact hk j (hes j e hj).1
  unfold dictFind
  refine wpAny_holding (wpAny_bind (wpAny_dictEntries ho rfl ?_))
  dsimp only
  have hpl : ∀ p ∈ placesWithHash es.toArray.size (fun i => es.toArray[i]?.map (·.hash)) hh, p < es.length := fun p hp => by
    unfold placesWithHash at hp
    have := List.mem_range.mp (List.mem_filter.mp hp).1
    simpa using this
  generalize placesWithHash es.toArray.size (fun i => es.toArray[i]?.map (·.hash)) hh = pls at hpl
  have hst : ∀ v ∈ pls.filterMap (fun i => es.toArray[i]?.map (·.key)), ∃ k, k < i ∧ v = .ref (HA k) := fun v hv => by
    obtain ⟨p, hp, e⟩ := List.mem_filterMap.mp hv
    obtain ⟨e0, he0, rfl⟩ := Option.map_eq_some_iff.mp e
    have := hes p e0 (by simpa using he0)
    exact ⟨p, this.1, this.2⟩
  generalize pls.filterMap (fun i => es.toArray[i]?.map (·.key)) = stored at hst
  rw [if_neg (by simp [carriedByValue])]
  rw [if_neg (by
    rw [← Array.any_toList, List.any_eq_true]
    rintro ⟨e', hin, hc⟩
    simp only [Bool.and_eq_true, beq_iff_eq] at hc
    exact hmem e' (by simpa using hin) hc.1)]
  have hns : ¬ (stored == [Value.ref (HA i)]) = true := fun q => by
    have q := eq_of_beq q
    obtain ⟨k, hlt, e⟩ := hst (.ref (HA i)) (by rw [q]; exact List.mem_cons_self)
    exact hk k hlt e.symm
  rw [if_neg hns]
  refine wpAny_bind (wpAny_mono (Q := fun b s' => b = false ∧ s' = s) (E := NE) ?_ (fun b s' q => ?_) fun _ _ q => q.elim)
  · unfold tableMayTell
    by_cases hemp : stored.isEmpty = true
    · rw [if_pos hemp]; exact wpAny_pure ⟨rfl, rfl⟩
    · rw [if_neg hemp]
      refine wpAny_bind (host_quiet X (hH i hi) ?_)
      rw [if_neg (by simp)]
      refine wpAny_bind ?_
      refine wpAny_forIn_list _ (fun rest b s' => b = (none, ()) ∧ s' = s ∧ ∀ v ∈ rest, ∃ k, k < i ∧ v = .ref (HA k)) _ ?_ ?_ _ _ ⟨rfl, rfl, hst⟩
      · rintro x rest b s' ⟨rfl, rfl, hr⟩
        obtain ⟨k, hlt, rfl⟩ := hr x (.head _)
        refine wpAny_bind (host_quiet X (hH k (by omega)) ?_)
        rw [if_neg (by simp)]
        exact wpAny_pure ⟨rfl, rfl, fun v hv => hr v (.tail _ hv)⟩
      · rintro b s' ⟨rfl, rfl, _⟩
        exact wpAny_pure ⟨rfl, rfl⟩
  obtain ⟨rfl, rfl⟩ := q
  rw [if_neg (by simp)]
  refine wpAny_bind ?_
  refine wpAny_forIn_list _ (fun rest b s2 => b = (none, none) ∧ s2 = s' ∧ ∀ p ∈ rest, p < es.length) _ ?_ ?_ _ _ ⟨rfl, rfl, hpl⟩
  · rintro p rest b s2 ⟨rfl, rfl, hr⟩
    have hp := hr p (.head _)
    have ep : es[p]? = some es[p] := List.getElem?_eq_getElem hp
    have epa : es.toArray[p]? = some es[p] := by simpa using ep
    have hkp := hes p _ ep
    dsimp only
    rw [epa]
    dsimp only
    have fin : (∀ v ∈ rest, v < es.length) := fun v hv => hr v (.tail _ hv)
    split
    · refine wpAny_bind (wpAny_dictEpoch ho rfl (wpAny_bind ?_))
      rw [hkp.2]
      refine key p hkp.1 ?_
      refine wpAny_bind (wpAny_dictEpoch ho rfl ?_)
      rw [if_neg (by simp), if_neg (by simp)]
      refine wpAny_bind (wpAny_rule ?_)
      rw [if_neg (by simp)]
      exact wpAny_pure ⟨rfl, rfl, fin⟩
    · exact wpAny_pure ⟨rfl, rfl, fin⟩
  · rintro b s2 ⟨rfl, rfl, _⟩
    exact wpAny_pure h
theorem h_set {w : World} {A : Around} {s : Shared} {E : Value → Shared → Prop} {Q : Unit → Shared → Prop} {D : Addr} {HA : Nat → Addr} {hs : Nat → Int} {vs : Nat → Value} {n i : Nat} {x : Value} {d u : Nat}
    (r : Rm A d u) (X : Frag.In (Mine.hd.heap_39 w.params) s.heap) (hH : ∀ k, k < 3 → Hs s.heap (HA k) k) (hi : i < 3) (ho : s.heap.get? D = some (dictO (hdE HA hs vs i) n))
    (h : ∀ hs' h' tk, Heap.SameBut D s.heap h' → h'.get? D = some (dictO (hdE HA hs' (fun k => if k = i then x else vs k) (i + 1)) (n + 1)) → Q () { s with heap := h', toks := tk }) : wpAny (model PW w) A (dictSet D (.ref (HA i)) x) Q E s := by
  unfold dictSet
  refine wpAny_holding (wpAny_bind (host_hash r X (hH i hi) fun hh tk => ?_))
  unfold dictSetHashed
  refine wpAny_holding (wpAny_bind ?_)
  refine hs_find (i := i) (hs := hs) (vs := vs) (n := n) r X hH hi ho ?_
  refine wpAny_bind (wpAny_rule (wpAny_updateDictKeys (hz := by simp [hdE, sizeLine_eq]; omega) ho rfl ?_))
  refine h (fun k => if k = i then hh else hs k) _ tk (Heap.SameBut.update ..) ?_
  show ((s.heap.update D _).get? D) = _
  rw [Heap.get?_update_self _ ho rfl]
  have : hdE HA (fun k => if k = i then hh else hs k) (fun k => if k = i then x else vs k) (i + 1) = hdE HA hs vs i ++ [⟨hh, .ref (HA i), x⟩] := by
    unfold hdE
    rw [List.range_succ, List.map_append]
    congr 1
    · refine List.map_congr_left fun k hk => ?_
      have := List.mem_range.mp hk
      simp only []
      rw [if_neg (by omega), if_neg (by omega)]
    · simp
  rw [this]
  simp [Obj.mapDictKeys]
theorem q_hset {w : World} {W : List Addr} {g0 g : Heap} {s0 s : Shared} {L : Addr} {ms : List (Addr × Obj)} {m : Str → Option Value} {A : Around} {E : Value → Shared → Prop} {Q : Unit → Shared → Prop} {D : Addr} {HA : Nat → Addr} {hs : Nat → Int} {vs : Nat → Value} {n i : Nat} {x : Value} {d u : Nat}
    (r : Rm A d (u + 1)) (F : Fm w W g0 s0 L ((D, dictO (hdE HA hs vs i) n) :: ms) g s m) (hH : HsOf g HA) (hi : i < 3)
    (h : ∀ hs' s', Fm w W g0 s0 L ((D, dictO (hdE HA hs' (fun k => if k = i then x else vs k) (i + 1)) (n + 1)) :: ms) g s' m → Q () s') : wpAny (model PW w) A (setItem (.ref D) (.ref (HA i)) x) Q E s := by
  have ho := F.turnable (.head _)
  have hT : s.TypeIs (.ref D) "dict" := ⟨_, ho, rfl⟩
  unfold setItem
  refine wpAny_holding (wpAny_bind (wpAny_sequenceKey hT (by decide) ?_))
  refine wpAny_bind (wpAny_callSpecial?_slot (name := Str.ofString "__setitem__") hT slot_dict_setitem (wpAny_call_entry slot_dict_setitem hT entry_dict_setitem ?_ (args_dict_setitem _ _ _)))
  show wpAny _ _ (Builtin.Dict.notOrdered "__setitem__" ⟨[.ref D, .ref (HA i), x], []⟩ >>= _) _ _ s
  refine wpAny_bind (wpAny_notOrdered_dict hT ?_)
  show wpAny _ _ (dictSet D (.ref (HA i)) x >>= _) _ _ s
  refine wpAny_bind (h_set (hs := hs) (vs := vs) (n := n) r.in1 F.X (fun k hk => (hH k hk).keeps F.step.keep) hi ho fun hs' h' tk hsb he => ?_)
  exact wpAny_pure ⟨.none, rfl, wpAny_pure (h hs' _ (F.turn (tk := tk) hsb he))⟩
abbrev strI (v : Int) : Str := Str.ofString (toString v)
theorem strI_all : ∀ k : Fin 220, PySem.intText? (strI ((k.val : Int) - 110)) = some ((k.val : Int) - 110) ∧ (strI ((k.val : Int) - 110)).length ≤ 640 ∧ PyData.strOk (strI ((k.val : Int) - 110)) = true := by decide +kernel
theorem strI_ok {v : Int} (h0 : -100 < v) (h1 : v < 100) : PySem.intText? (strI v) = some v ∧ (strI v).length ≤ 640 ∧ PyData.strOk (strI v) = true := by
  have := strI_all ⟨(v + 110).toNat, by omega⟩
  have e : ((⟨(v + 110).toNat, by omega⟩ : Fin 220).val : Int) - 110 = v := by show ((v + 110).toNat : Int) - 110 = v; omega
  rwa [e] at this
theorem q_strI {w : World} {W : List Addr} {g0 g : Heap} {s0 s : Shared} {L : Addr} {ms : List (Addr × Obj)} {m : Str → Option Value} {A : Around} {E : Value → Shared → Prop} {v : Int} {t : Tok} {Q : Value → Shared → Prop} (F : Fm w W g0 s0 L ms g s m) (h0 : -100 < v) (h1 : v < 100)
    (h : ∀ s' t, Fm w W g0 s0 L ms g s' m → Q (.str (strI v) t) s') : wpAny (model PW w) A (call (.type "str") [.int v t]) Q E s := by
  have : v.natAbs.log2 ≤ v.natAbs := Nat.log2_le_self _
  exact P.str_of_int (by omega) (h _ _ F.tok)
theorem nm_beq (a b : Nat) : (nm a == nm b) = decide (a = b) := by
  rw [Bool.eq_iff_iff, beq_iff_eq, decide_eq_true_eq]
  exact ⟨nm_inj, fun e => by rw [e]⟩
theorem q_eqNm {w : World} {A : Around} {E : Value → Shared → Prop} {s : Shared} {a b : Nat} {t u : Tok} {Q : Value → Shared → Prop} (h : Q (.bool (decide (a = b))) s) : wpAny (model PW w) A (compareOp .Eq (.str (nm a) t) (.str (nm b) u)) Q E s :=
  PyProof.Rows.eq_str (by rw [nm_beq]; exact h)
def ownAll (R : Ring) (k n : Nat) : List Nat := (List.range n).filter fun j => (R.getD j (0, 0)).2 = k
def rowD (R : Ring) (k n : Nat) : List PyData := (ownAll R k n).map fun j => .str (strI (R.getD j (0, 0)).1)
def RowsOf (g : Heap) (R : Ring) (HA : Nat → Addr) (D : Addr) : Prop := ∃ hs vs n, g.get? D = some (dictO (hdE HA hs vs 3) n) ∧ ∀ k, k < 3 → Rd g (vs k) (.list (rowD R k R.length))
theorem ownAll_succ (R : Ring) (k n : Nat) : ownAll R k (n + 1) = ownAll R k n ++ (if (R.getD n (0, 0)).2 = k then [n] else []) := by
  unfold ownAll
  rw [List.range_succ, List.filter_append]
  congr 1
  split
  · rw [List.filter_cons_of_pos (by simpa)]; rfl
  · rw [List.filter_cons_of_neg (by simpa)]; rfl
def HlOf (g : Heap) (HA : Nat → Addr) (hl : Addr) : Prop := g.IsList hl #[.ref (HA 0), .ref (HA 1), .ref (HA 2)]
theorem c_rows {w : World} {A : Around} {g0 : Heap} {sE : Shared} {E : Value → Shared → Prop} {Q : Value → Shared → Prop} {hl rg : Addr} {R : Ring} {HA : Nat → Addr}
    (r : Rm A 12 60) (gd : Gd w g0) (hg : Sub g0 sE.heap) (hr : Rd g0 (.ref rg) (ringD R)) (hH : HsOf g0 HA) (hhl : HlOf g0 HA hl) (ok : RingOk R)
    (h : ∀ l g' s', Step g0 sE g' s' → RowsOf g' R HA l → Q (.ref l) s') :
    wpAny (model PW w) A (call (.ref 897) [.ref hl, .ref rg] []) Q E sE := by
  have hn := ok.pos
  have hn' := ok.le
  obtain ⟨its, hlr, hsz, hit⟩ := ring_item hr
  refine wpAny_call (fn_callC (binds := [("hosts", .ref hl), ("ring", .ref rg)]) [] [] gd hg r (by k_is) (by k_is) (by rfl) ?_ (by simp) (by simp) rfl rfl rfl ?_ fun L s os hos hfr F => ?_)
  · intro L x hx
    simp only [List.mem_cons, List.not_mem_nil, or_false] at hx
    rcases hx with rfl | rfl
    · exact .inl (by rfl)
    · exact .inr ⟨by rfl, by rfl⟩
  · intro L x hx
    have hx : x ∈ [((Str.ofString "host", L + 2) : Str × Addr), (Str.ofString "ring", L + 1)] := hx
    simp only [List.mem_cons, List.not_mem_nil, or_false] at hx
    rcases hx with rfl | rfl <;> rfl
  have F : Fm w [] g0 sE L [(L + 2, os "host"), (L + 1, os "ring")] g0 s (fun y => if y = "hosts" then some (.ref hl) else none) := F
  have hoc : (os "ring").data = .cell (some (.ref rg)) := hos ("ring", L + 1) (List.Mem.tail _ (List.Mem.head _))
  have hoh : (os "host").data = .cell none := hos ("host", L + 2) (List.Mem.head _)
  have hfr1 : sE.heap.get? (L + 1) = none := hfr ("ring", L + 1) (List.Mem.tail _ (List.Mem.head _))
  have hfr2 : sE.heap.get? (L + 2) = none := hfr ("host", L + 2) (List.Mem.head _)
  generalize os "ring" = oc at F hoc
  generalize os "host" = oh at F hoh
  have rd : ∀ env, Rm (A.deeper env) 11 57 := fun _ => r.deeper
  obtain ⟨g, hs0, F, hgc⟩ := (F.perm (ms' := [(L + 1, oc), (L + 2, oh)]) (List.Perm.swap _ _ _)).rest hfr1
  walk_at "mm"
  refine q_newDictM F fun D s F nD => ?_
  walk_at "mm"
  refine wpAny_pyIter_list (items := #[.ref (HA 0), .ref (HA 1), .ref (HA 2)]) (isl hhl (F.step.sub.trans F.step.keep)) ?_
  have nI := F.absent
  have F' := (F.pushM (o := { cls := .type "list_iterator", data := .fields #[.ref hl, .int 0 0] }) (tk := s.toks) rfl).perm (ms' := [(D, emptyD), (L + 2, oh)] ++ [(s.heap.objs.size, { cls := .type "list_iterator", data := .fields #[.ref hl, .int 0 0] })]) (by have := perm_tail [(D, emptyD), (L + 2, oh)] (s.heap.objs.size, ({ cls := .type "list_iterator", data := .fields #[.ref hl, .int 0 0] } : Obj)) []; simpa using this.symm)
  have hH1 := hH.keeps hs0
  have hhl1 := isl hhl hs0
  have hlr1 := isl hlr hs0
  refine for_loopA (ms := [(D, emptyD), (L + 2, oh)]) (fun i ms' g1 m1 => ∃ hs vs n oc2 v0, ms' = [(D, dictO (hdE HA hs vs i) n), (L + 2, oc2)] ∧ oc2.data = .cell v0 ∧ (∀ k, k < i → Rd g1 (vs k) (.list (rowD R k R.length))) ∧ m1 "rows" = some (.ref D)) (iter_list (rd _).hd _ hl _ _ hhl1) F' ⟨rfl, rfl⟩ nI ⟨fun _ => 0, fun _ => .none, 0, oh, _, rfl, hoh, by simp, by walk_at "hv"⟩ (fun i o v s Q hI e q => wpAny_of_eq (a := ()) (by rfl) q) ?_ ?_
  · rintro i ms' g1 g2 s m1 v oi hi hs1 hs2 ⟨hs, vs, n, oc2, v0, rfl, hoc2, hvs, hm1⟩ ⟨_, _, hv, _⟩ F
    have hi : i < 3 := hi
    have hv : v = .ref (HA i) := by
      have hv : (#[.ref (HA 0), .ref (HA 1), .ref (HA 2)] : Array Value)[i]? = some v := hv
      obtain rfl | rfl | rfl : i = 0 ∨ i = 1 ∨ i = 2 := by omega
      all_goals simpa using hv.symm
    subst hv
    have F : Fm w [] g0 sE L [(D, dictO (hdE HA hs vs i) n), (L + 2, oc2), (_, oi)] g2 s m1 := F
    refine wpAny_assign_Name (e_stc (L := L) ⟨rfl, rfl, rfl, rfl⟩ (F.perm (List.Perm.swap _ _ _)) rfl hoc2 (fun oc3 s hoc3 F => ?_) rfl)
    have F := F.perm (List.Perm.swap _ _ _)
    walk_at "mm"
    refine wpAny_Assign_Subscript ?_
    refine ListComp_ [("ring", L + 1), ("host", L + 2)] ?_
    have hgc2 := (hs1.trans hs2) _ _ hgc
    have hlr2 := isl hlr1 (hs1.trans hs2)
    walk_at "mm"
    refine e_ldc (c := L + 1) (L := L) ⟨rfl, rfl, rfl, rfl⟩ rfl rfl ⟨_, F.get hgc2, hoc⟩ ?_ (by decide)
    walk_at "mm"
    refine q_len F (isl hlr2 F.step.keep) (by omega) fun s t F => ?_
    walk_at "mm"
    refine q_range F fun rr g3 s t u v hs3 F hrr => ?_
    rw [hsz] at hrr
    refine iter_rangeP (F.get hrr) (by omega) ?_
    have hcell := F.turnable (.tail _ (.head _))
    refine comp_runP (fun its g' => RdAll g' its.toList (rowD R i R.length)) F rfl rfl (by decide) (fun s1 P e h => self_range e rfl h) ?_ ?_
    · intro C l2 s2 Rr frI F2 post
      refine comp_for (fun j xs g4 m4 => xs.size ≤ j ∧ RdAll g4 xs.toList (rowD R i j)) (iter_range (rd _).hd _ R.length g3) F2 (by simp [rawInt]) frI ⟨by simp, RdAll.nil⟩ (by omega) (fun i xs g m h => h.1) ⟨rfl, rfl, rfl, rfl⟩ rfl ?_ ?_
      · rintro j xs k g4 g5 s m5 v oi5 hj hs4 hs5 ⟨hsz5, hra⟩ ⟨_, _, ⟨ti, rfl⟩, _⟩ F
        have hs05 := (hs1.trans hs2).trans ((hs3.trans hs4).trans hs5)
        have hgc5 := ((hs3.trans hs4).trans hs5) _ _ hgc2
        obtain ⟨T, t1, t2, hT, hTup⟩ := hit j hj
        have hlr5 := isl hlr1 hs05
        have hTup5 := ist hTup (hs0.trans hs05)
        refine wpAny_tests_one ?_
        walk_at "mm"
        refine e_ldc (c := L + 1) (L := C) ⟨rfl, rfl, rfl, rfl⟩ rfl rfl ⟨_, F.get hgc5, hoc⟩ ?_ (by decide)
        walk_at "mm"
        refine q_itemN j (isl hlr5 F.step.keep) rfl (by omega) hT ?_
        walk_at "mm"
        refine q_tupI 1 (ist hTup5 F.step.keep) rfl (by omega) rfl ?_
        walk_at "mm"
        refine e_ldc (c := L + 2) (L := C) ⟨rfl, rfl, rfl, rfl⟩ rfl rfl ⟨_, F.step.old _ _ (by simp) hcell, hoc3⟩ ?_ (by decide)
        walk_at "mm"
        refine q_name (rd _).less F (hH1.keeps hs05 i hi) fun g6 s t4 hs6 F => ?_
        refine q_eqNm ?_
        walk_at "mm"
        by_cases hown : (R.getD j (0, 0)).2 = i
        · rw [decide_eq_true hown, if_pos rfl]
          walk_at "mm"
          refine e_ldc (c := L + 1) (L := C) ⟨rfl, rfl, rfl, rfl⟩ rfl rfl ⟨_, F.get (hs6 _ _ hgc5), hoc⟩ ?_ (by decide)
          walk_at "mm"
          refine q_itemN j (isl hlr5 (hs6.trans F.step.keep)) rfl (by omega) hT ?_
          walk_at "mm"
          refine q_tupI 0 (ist hTup5 (hs6.trans F.step.keep)) rfl (by omega) rfl ?_
          walk_at "mm"
          refine q_strI F (ok.lo j) (ok.hi j) fun s t F => ?_
          refine ⟨g6, _, hs6, F, by simp; omega, ?_⟩
          unfold rowD at hra ⊢
          rw [ownAll_succ, if_pos hown, List.map_append]
          exact (hra.keeps (hs5.trans hs6)).push (Rd.str _ _)
        · rw [decide_eq_false hown, if_neg (by decide)]
          refine ⟨g6, _, hs6, F, by omega, ?_⟩
          unfold rowD at hra ⊢
          rw [ownAll_succ, if_neg hown, List.append_nil]
          exact hra.keeps (hs5.trans hs6)
      · rintro xs2 k2 g4 s4 m4 hs4 ⟨hsz4, hra4⟩ F4
        exact post _ _ _ _ _ F4 hra4
    · intro l2 its2 n2 g4 s hs4 F hl2 post
      obtain ⟨g5, hs5, F, hll2⟩ := F.rest hl2
      walk_at "mm"
      refine e_ldc (c := L + 2) (L := L) ⟨rfl, rfl, rfl, rfl⟩ rfl rfl ⟨_, F.turnable (.tail _ (.head _)), hoc3⟩ ?_ (by decide)
      have hs15 := (hs2.trans hs3).trans (hs4.trans hs5)
      refine q_hset (rd _) F (hH1.keeps (hs1.trans hs15)) hi fun hs' s F => ?_
      walk_at "mm"
      refine ⟨_, g5, m1, (hs3.trans hs4).trans hs5, F, hs', _, n + 1, oc3, _, rfl, hoc3, fun k hk => ?_, hm1⟩
      by_cases e : k = i
      · subst e
        rw [if_pos rfl]
        exact Rd.list ⟨_, hll2, rfl, _, rfl⟩ (post.keeps hs5)
      · rw [if_neg e]
        exact (hvs k (by omega)).keeps hs15
  · rintro ms' g1 s m1 hs1 ⟨hs, vs, n, oc2, v0, rfl, hoc2, hvs, hm1⟩ F
    obtain ⟨g2, hs2, F, hD⟩ := F.rest nD
    walk_at "mm"
    exact h D g2 _ F.step ⟨hs, vs, n, hD, fun k hk => (hvs k hk).keeps hs2⟩
section
variable {w : World} {W : List Addr} {g0 g : Heap} {s0 s : Shared} {L : Addr} {ms : List (Addr × Obj)} {m m' : Str → Option Value}
theorem Fm.redo {h' : Heap} {tk : Nat} {D : Addr} {o o' : Obj} (F : Fm w W g0 s0 L ((D, o) :: ms) g s m) (hn : h'.Ns L m') (ho : ∀ b ob, b ≠ L → b ≠ D → s.heap.get? b = some ob → h'.get? b = some ob) (hD : h'.get? D = some o') :
    Fm w W g0 s0 L ((D, o') :: ms) g { s with heap := h', toks := tk } m' := by
  have M := F.mu (D, o) (.head _)
  have nd := F.nd
  rw [List.map_cons, List.nodup_cons] at nd
  have gne : ∀ b ob, g.get? b = some ob → b ≠ L ∧ b ≠ D := fun b ob e => ⟨fun q => (by rw [q, F.gL] at e; cases e), fun q => (by rw [q] at e; rw [M.2.1] at e; cases e)⟩
  refine ⟨⟨F.step.gens, F.step.drawn, F.step.os, fun b ob hb e => ?_, fun b ob e => ?_, F.step.sub, fun b ob e => ho b ob (gne b ob e).1 (gne b ob e).2 (F.step.keep b ob e), F.step.frs⟩, F.gd, hn, F.bs, F.gL, fun p hp => ?_, F.nd⟩
  · refine ho b ob (fun q => by rw [q, F.nL] at e; cases e) (fun q => ?_) (F.step.old b ob hb e)
    rcases M.2.2.2 with z | z
    · rw [q] at e; rw [z] at e; cases e
    · exact hb (q ▸ z)
  · obtain ⟨o3, e3⟩ := F.step.live b ob e
    by_cases hb : b = D
    · exact ⟨o', hb ▸ hD⟩
    · exact ⟨o3, ho b o3 (fun q => by rw [q, F.nL] at e; cases e) hb e3⟩
  · rcases List.mem_cons.mp hp with rfl | hp
    · exact ⟨hD, M.2⟩
    · have z := F.mu p (.tail _ hp)
      exact ⟨ho _ _ z.2.2.1 (fun q => nd.1 (List.mem_map.mpr ⟨p, hp, q⟩)) z.1, z.2⟩
theorem Fm.redo0 {h' : Heap} {tk : Nat} {D : Addr} {o' : Obj} (F : Fm w W g0 s0 L ms g s m) (hn : h'.Ns L m') (ho : ∀ b ob, b ≠ L → s.heap.get? b = some ob → h'.get? b = some ob) (hD : h'.get? D = some o') (hf : s.heap.get? D = none) :
    Fm w W g0 s0 L ((D, o') :: ms) g { s with heap := h', toks := tk } m' := by
  have gne : ∀ b ob, g.get? b = some ob → b ≠ L := fun b ob e q => by rw [q, F.gL] at e; cases e
  obtain ⟨oL, eL⟩ := F.lL
  refine ⟨⟨F.step.gens, F.step.drawn, F.step.os, fun b ob hb e => ?_, fun b ob e => ?_, F.step.sub, fun b ob e => ho b ob (gne b ob e) (F.step.keep b ob e), F.step.frs⟩, F.gd, hn, F.bs, F.gL, fun p hp => ?_, ?_⟩
  · exact ho b ob (fun q => by rw [q, F.nL] at e; cases e) (F.step.old b ob hb e)
  · obtain ⟨o3, e3⟩ := F.step.live b ob e
    exact ⟨o3, ho b o3 (fun q => by rw [q, F.nL] at e; cases e) e3⟩
  · rcases List.mem_cons.mp hp with rfl | hp
    · refine ⟨hD, ?_, fun q => ?_, .inl ?_⟩
      · cases q : g.get? D with
        | none => rfl
        | some o => have := F.step.keep _ _ q; rw [hf] at this; cases this
      · have q : D = L := q
        rw [q, eL] at hf; cases hf
      · cases q : s0.heap.get? D with
        | none => rfl
        | some o => obtain ⟨o2, e2⟩ := F.step.live _ _ q; rw [hf] at e2; cases e2
    · have z := F.mu p hp
      exact ⟨ho _ _ z.2.2.1 z.1, z.2⟩
  · rw [List.map_cons, List.nodup_cons]
    refine ⟨fun q => ?_, F.nd⟩
    obtain ⟨p, hp, e⟩ := List.mem_map.mp q
    have := (F.mu p hp).1
    rw [e] at this
    have this : s.heap.get? D = some p.2 := this
    rw [hf] at this; cases this
end
def evK {α : Type} (c : Nat → Nat → Option Bool) : KasT α → Option α
  | .ret a => some a
  | .ask i j k => match c i j with
    | some b => evK c (k b)
    | none => none
theorem evK_wp {α : Type} {cmp : Nat → Nat → (Bool → Shared → Prop) → Shared → Prop} {c : Nat → Nat → Option Bool} {Inv : Shared → Prop} (hask : ∀ i j b (C : Bool → Shared → Prop) s', c i j = some b → Inv s' → (∀ s'', Inv s'' → C b s'') → cmp i j C s') :
    ∀ (t : KasT α) a, evK c t = some a → ∀ (Q : α → Shared → Prop) s', Inv s' → (∀ s'', Inv s'' → Q a s'') → t.kasWp cmp Q s'
  | .ret a', a, e, Q, s', hI, h => by
    have e : a' = a := by simpa [evK] using e
    exact e ▸ h s' hI
  | .ask i j k, a, e, Q, s', hI, h => by
    cases hc : c i j with
    | none => simp [evK, hc] at e
    | some b =>
      have e : evK c (k b) = some a := by simpa [evK, hc] using e
      exact hask i j b _ s' hc hI fun s'' hI'' => evK_wp hask (k b) a e Q s'' hI'' h
def ownL (os : List Nat) (k : Nat) : List Nat := (List.range os.length).filter fun j => os.getD j 0 = k
def permL (os : List Nat) : List Nat := ownL os 0 ++ ownL os 1 ++ ownL os 2
def cP (perm : List Nat) (i j : Nat) : Option Bool := if i < perm.length ∧ j < perm.length then some (decide (perm.getD i 0 < perm.getD j 0)) else none
def chk (os : List Nat) : Bool := match evK (cP (permL os)) (kas_sort os.length) with
  | some p => p.toList.all (· < os.length) && (p.toList.map fun i => (permL os).getD i 0) == List.range os.length && (permL os).length == os.length && (permL os).all (· < os.length)
  | none => false
theorem chk2 : ∀ a b : Fin 3, chk [a.val, b.val] = true := by decide +kernel
theorem chk3 : ∀ a b c : Fin 3, chk [a.val, b.val, c.val] = true := by decide +kernel
theorem chk4 : ∀ a b c d : Fin 3, chk [a.val, b.val, c.val, d.val] = true := by decide +kernel
def permR (R : Ring) : List Nat := ownAll R 0 R.length ++ ownAll R 1 R.length ++ ownAll R 2 R.length
theorem permR_eq (R : Ring) : permR R = permL (R.map (·.2)) := by
  have : ∀ k, ownAll R k R.length = ownL (R.map (·.2)) k := fun k => by
    unfold ownAll ownL
    rw [List.length_map]
    refine List.filter_congr fun j hj => ?_
    have hj := List.mem_range.mp hj
    simp [List.getD_eq_getElem?_getD, List.getElem?_map, List.getElem?_eq_getElem hj]
  unfold permR permL
  rw [this, this, this]
theorem chk_all {R : Ring} (ok : RingOk R) (h2 : 2 ≤ R.length) : chk (R.map (·.2)) = true := by
  have hn := ok.le
  have ho := ok.own
  match R, h2, hn, ho with
  | [a, b], _, _, ho => exact chk2 ⟨a.2, ho 0⟩ ⟨b.2, ho 1⟩
  | [a, b, c], _, _, ho => exact chk3 ⟨a.2, ho 0⟩ ⟨b.2, ho 1⟩ ⟨c.2, ho 2⟩
  | [a, b, c, d], _, _, ho => exact chk4 ⟨a.2, ho 0⟩ ⟨b.2, ho 1⟩ ⟨c.2, ho 2⟩ ⟨d.2, ho 3⟩
  | _ :: _ :: _ :: _ :: _ :: _, _, hn, _ => simp at hn
theorem sort_plan {R : Ring} (ok : RingOk R) (h2 : 2 ≤ R.length) : ∃ p, evK (cP (permR R)) (kas_sort R.length) = some p ∧ (∀ i ∈ p.toList, i < R.length) ∧ (p.toList.map fun i => (permR R).getD i 0) = List.range R.length ∧ (permR R).length = R.length ∧ ∀ i ∈ permR R, i < R.length := by
  have h := chk_all ok h2
  unfold chk at h
  rw [← permR_eq, List.length_map] at h
  split at h
  · rename_i p e
    simp only [Bool.and_eq_true, List.all_eq_true, decide_eq_true_eq, beq_iff_eq] at h
    exact ⟨p, e, h.1.1.1, h.1.1.2, h.1.2, h.2⟩
  · cases h
def toksV (tok : Nat → Addr) (ks : List Nat) : List Value := ks.map fun k => .ref (tok k)
def others (h : Heap) (L D : Addr) : List (Addr × Obj) := (List.range h.objs.size).filterMap fun a => if a = L ∨ a = D then none else (h.get? a).map fun o => (a, o)
theorem mem_others {h : Heap} {L D : Addr} {p : Addr × Obj} : p ∈ others h L D ↔ h.get? p.1 = some p.2 ∧ p.1 ≠ L ∧ p.1 ≠ D := by
  unfold others
  rw [List.mem_filterMap]
  constructor
  · rintro ⟨a, _, e⟩
    split at e
    · cases e
    · rename_i hn
      obtain ⟨o, e1, rfl⟩ := Option.map_eq_some_iff.mp e
      exact ⟨e1, fun q => hn (.inl q), fun q => hn (.inr q)⟩
  · rintro ⟨e, h1, h2⟩
    refine ⟨p.1, List.mem_range.mpr (Heap.lt_size e), ?_⟩
    rw [if_neg (by simp [h1, h2]), e]
    rfl
theorem noHeap_get (a : Addr) : (({} : Heap).get? a) = none := by
  unfold Heap.get?
  simp
theorem q_sorted2 {w : World} {W : List Addr} {g0 g : Heap} {s0 s : Shared} {L : Addr} {ms : List (Addr × Obj)} {m : Str → Option Value} {A : Around} {E : Value → Shared → Prop} {R : Ring} {tok : Nat → Addr} {l : Addr} {Q : Value → Shared → Prop}
    (r : Rm A 1 30) (F : Fm w W g0 s0 L ms g s m) (hl : s.heap.IsList l (toksV tok (permR R)).toArray) (ok : RingOk R) (h2 : 2 ≤ R.length) (htk : ∀ k, k < R.length → Tk g (tok k) (R.getD k (0, 0)).1)
    (h : ∀ D g' s' c, Sub g g' → Fm w W g0 s0 L ((D, listOf (toksV tok (List.range R.length)).toArray c) :: ms) g' s' m → s0.heap.get? D = none → Q (.ref D) s') : wpAny (model PW w) A (call (.builtin "sorted") [.ref l]) Q E s := by
  have hn := ok.le
  obtain ⟨p, hp, hp1, hp2, hp3, hp4⟩ := sort_plan ok h2
  have hlen : (toksV tok (permR R)).length = R.length := by simp [toksV, hp3]
  have old : ∀ {h' : Heap} {news}, News {} L h' news → (∀ q ∈ others s.heap L L, q ∈ news) → ∀ b ob, b ≠ L → s.heap.get? b = some ob → h'.get? b = some ob := fun N hs b ob hb e => (N (b, ob) (hs _ (mem_others.mpr ⟨e, hb, hb⟩))).1
  have looks : ∀ (h' : Heap), Fr {} L h' m → News {} L h' (others s.heap L L) → ∀ v ∈ toksV tok (permR R), Looks (model PW w) h' (typeOf v) (.ref 768) := fun h' F' N' v hv => by
    obtain ⟨k, hk, rfl⟩ := List.mem_map.mp hv
    obtain ⟨d1, u1, t1, t2, n1, e1, e2⟩ := htk k (hp4 k hk)
    have o1 := old N' (fun _ q => q) _ _ (fun q => by rw [q] at e1; rw [F.gL] at e1; cases e1) (F.get e1)
    have o2 := old N' (fun _ q => q) _ _ (fun q => by rw [q] at e2; rw [F.gL] at e2; cases e2) (F.get e2)
    exact InstAt.type (C := 768) (ox := instO 768 d1) (od := some _) ⟨o1, rfl, rfl, o2⟩
  refine kas_sorted (h₀ := {}) (L := L) (m := m) (news := others s.heap L L) (T := .ref 768) ⟨F.ns, fun b o e => (by rw [noHeap_get] at e; cases e), Nat.zero_le _⟩ (fun q hq => ⟨(mem_others.mp hq).1, (mem_others.mp hq).2.1, noHeap_get _⟩) hl (by omega) (by omega) looks (by rfl) ?_
  intro D e1 h' F' N' hD
  rw [hlen]
  have hfD : s.heap.get? D = none := by
    cases q : s.heap.get? D with
    | none => rfl
    | some o =>
      have hDL : D ≠ L := (N' (D, _) (.head _)).2.1
      exact absurd (hD (D, o) (mem_others.mpr ⟨q, hDL, hDL⟩)) (Nat.lt_irrefl _)
  have F1 := F.redo0 (tk := s.toks) (o' := seqObj "list" #[] e1) F'.ns (old N' fun q hq => .tail _ hq) (N' (D, _) (.head _)).1 hfD
  have nD : s0.heap.get? D = none := by
    cases q : s0.heap.get? D with
    | none => rfl
    | some o => obtain ⟨o2, e2⟩ := F.step.live _ _ q; rw [hfD] at e2; cases e2
  refine evK_wp (c := cP (permR R)) (Inv := fun s' => ∃ g', Sub g g' ∧ Fm w W g0 s0 L ((D, seqObj "list" #[] e1) :: ms) g' s' m) ?_ _ p hp _ _ ⟨g, Sub.refl _, F1⟩ ?_
  · rintro i j b C s' hc ⟨g1, hs1, F2⟩ hC
    unfold cP at hc
    split at hc
    · rename_i hij
      have hb := Option.some.inj hc
      have gv : ∀ i, i < (permR R).length → (toksV tok (permR R)).getD i .none = .ref (tok ((permR R).getD i 0)) ∧ (permR R).getD i 0 < R.length := fun i hi => by
        have e : (permR R)[i]? = some (permR R)[i] := List.getElem?_eq_getElem hi
        refine ⟨by simp [toksV, List.getD_eq_getElem?_getD, List.getElem?_map, e], ?_⟩
        rw [List.getD_eq_getElem?_getD, e]
        exact hp4 _ (List.getElem_mem hi)
      obtain ⟨ei, hi⟩ := gv i hij.1
      obtain ⟨ej, hj⟩ := gv j hij.2
      show wpAny _ _ (keyLt' oneType' ((toksV tok (permR R)).getD i .none) ((toksV tok (permR R)).getD j .none)) C _ s'
      rw [ei, ej]
      obtain ⟨h0, F0, X0⟩ := F2.fr
      have hi' := (htk _ hi).keeps hs1
      have hj' := (htk _ hj).keeps hs1
      have hi2 := hi'
      obtain ⟨d1, u1, t1, t2, n1, e1, e2⟩ := hi2
      refine kas_lt_inst (C := 768) (ox := instO 768 d1) (od := some _) (f := 684) r.in1.in1.cl F0 X0 ⟨F2.get e1, rfl, rfl, F2.get e2⟩ (by k_is) (by k_is) ?_
      refine c_lt r.in1.in1.less F2.gd F2.step.keep hi' hj' fun g' s'' S => ?_
      have key : decide ((R.getD ((permR R).getD i 0) (0, 0)).1 < (R.getD ((permR R).getD j 0) (0, 0)).1) = b := by
        rw [← hb, decide_eq_decide]
        constructor
        · intro q
          rcases Nat.lt_trichotomy ((permR R).getD i 0) ((permR R).getD j 0) with z | z | z
          · exact z
          · rw [z] at q; omega
          · have := ok.inc _ _ z hi; omega
        · intro q
          have := ok.inc _ _ q hj; omega
      show C _ s''
      rw [key]
      exact hC s'' ⟨g', hs1.trans S.sub, F2.called S⟩
    · cases hc
  · rintro s' ⟨g1, hs1, F2⟩
    have MD := F2.mu (D, seqObj "list" #[] e1) (.head _)
    have hout : p.toList.map (fun i => (toksV tok (permR R)).getD i .none) = toksV tok (List.range R.length) := by
      rw [← hp2]
      unfold toksV
      rw [List.map_map]
      refine List.map_congr_left fun i hi => ?_
      have hi := hp1 i hi
      have e : (permR R)[i]? = some (permR R)[i] := List.getElem?_eq_getElem (by omega)
      simp [List.getD_eq_getElem?_getD, List.getElem?_map, e]
    refine KasFin.intro (news := (D, seqObj "list" #[] e1) :: others s'.heap L D) (g := fun o' => (D, o') :: others s'.heap L D) ⟨F2.ns, fun b o e => (by rw [noHeap_get] at e; cases e), Nat.zero_le _⟩ (fun q hq => ?_) (UpdF.head fun q hq => (mem_others.mp hq).2.2) fun h2 c Fr2 N2 => ?_
    · rcases List.mem_cons.mp hq with rfl | hq
      · exact ⟨MD.1, MD.2.2.1, noHeap_get _⟩
      · exact ⟨(mem_others.mp hq).1, (mem_others.mp hq).2.1, noHeap_get _⟩
    · rw [hout] at N2
      have F3 := F2.redo (tk := s'.toks) (o' := listOf (toksV tok (List.range R.length)).toArray c) Fr2.ns (fun b ob hb hb2 e => (N2 (b, ob) (.tail _ (mem_others.mpr ⟨e, hb, hb2⟩))).1) (N2 _ (.head _)).1
      exact h D g1 _ c hs1 F3 nD
set_option hygiene false in
local macro_rules | `(tactic| x_close) => `(tactic| exact hc (ext_of D) (nwOf D (by k_mem)))
theorem x_sort1 {w : World} {s : Shared} {E} {Q : Value → Shared → Prop} {l a : Addr} {n : Nat} (X : Frag.In (Mine.hd.heap_39 w.params) s.heap) (hl : s.heap.get? l = some ⟨.type "list", none, .seq #[.ref a] n, #[]⟩)
   (hc : ∀ {D h' tk' c}, Sub s.heap h' → New s.heap h' D ⟨.type "list", none, .seq #[.ref a] c, #[]⟩ → Q (.ref D) ⟨h', s.gens, s.drawn, tk', s.os⟩) : wpAny (model PW w) A0 (call (.builtin "sorted") [.ref l] []) Q E s := by
  x_run
set_option hygiene false in
local macro_rules | `(tactic| x_close) => `(tactic| first | exact hc (ext_of D) | exact hc (Sub.refl _))
theorem x_ends1 {w : World} {s : Shared} {E} {Q : Value → Shared → Prop} {t u : Tok} (X : Frag.In (Mine.hd.heap_39 w.params) s.heap) 
   (hc : ∀ {h' tk'}, Sub s.heap h' → Q (.bool true) ⟨h', s.gens, s.drawn, tk', s.os⟩) : wpAny (model PW w) A0 (call (.builtin "str.endswith") [.str (Str.ofString "Murmur3Partitioner") t, .str (Str.ofString "Murmur3Partitioner") u] []) Q E s := by
  x_run
theorem x_ends0 {w : World} {s : Shared} {E} {Q : Value → Shared → Prop} {t u : Tok} (X : Frag.In (Mine.hd.heap_39 w.params) s.heap) 
   (hc : ∀ {h' tk'}, Sub s.heap h' → Q (.bool false) ⟨h', s.gens, s.drawn, tk', s.os⟩) : wpAny (model PW w) A0 (call (.builtin "str.endswith") [.str (Str.ofString "Other") t, .str (Str.ofString "Murmur3Partitioner") u] []) Q E s := by
  x_run
theorem q_sortedR {w : World} {W : List Addr} {g0 g : Heap} {s0 s : Shared} {L : Addr} {ms : List (Addr × Obj)} {m : Str → Option Value} {A : Around} {E : Value → Shared → Prop} {R : Ring} {tok : Nat → Addr} {l : Addr} {n : Nat} {Q : Value → Shared → Prop}
    (r : Rm A 1 30) (F : Fm w W g0 s0 L ms g s m) (hl : s.heap.get? l = some (listOf (toksV tok (permR R)).toArray n)) (ok : RingOk R) (htk : ∀ k, k < R.length → Tk g (tok k) (R.getD k (0, 0)).1)
    (h : ∀ D g' s' c, Sub g g' → Fm w W g0 s0 L ((D, listOf (toksV tok (List.range R.length)).toArray c) :: ms) g' s' m → s0.heap.get? D = none → Q (.ref D) s') : wpAny (model PW w) A (call (.builtin "sorted") [.ref l]) Q E s := by
  have hpos := ok.pos
  by_cases h2 : 2 ≤ R.length
  · exact q_sorted2 r F ⟨_, hl, rfl, _, rfl⟩ ok h2 htk h
  · have h1 : R.length = 1 := by omega
    have hp : permR R = [0] := by
      have := ok.own 0
      unfold permR
      rw [h1]
      simp only [ownAll, List.range_one, List.filter_cons, List.filter_nil, decide_eq_true_eq]
      generalize (R.getD 0 (0, 0)).2 = x at this
      obtain rfl | rfl | rfl : x = 0 ∨ x = 1 ∨ x = 2 := by omega
      all_goals rfl
    rw [hp] at hl
    refine r.weak (x_sort1 F.X hl fun {D h' tk' c} hs hn => ?_)
    obtain ⟨g', hs', F', ha, _⟩ := F.extM (tk := tk') hs [(D, listOf #[.ref (tok 0)] c)] (fun p hp => by obtain rfl := List.mem_singleton.mp hp; exact hn) (by simp)
    refine h D g' _ c hs' ?_ (ha _ (.head _))
    rw [h1]
    exact F'
theorem Fm.fr2 {w : World} {W : List Addr} {g0 g : Heap} {s0 s : Shared} {L : Addr} {ms : List (Addr × Obj)} {m : Str → Option Value} (F : Fm w W g0 s0 L ms g s m) : ∃ h0, Fr h0 L s.heap m ∧ (Mine.hd.heap_39 w.params).In h0 ∧ Sub h0 g := by
  have key : ∀ b o, (cutH (fun b => ∃ o, g0.get? b = some o) s0.heap).get? b = some o → g.get? b = some o := fun b o e => by
    obtain ⟨e1, o', e2⟩ := cutH_of e
    have e3 := F.bs.sub0 _ _ e2
    rw [e1] at e3; cases e3
    exact F.step.sub _ _ e2
  refine ⟨cutH (fun b => ∃ o, g0.get? b = some o) s0.heap, ⟨F.ns, fun b o e => F.step.keep _ _ (key b o e), ?_⟩, fun a o e => cutH_get (F.bs.sub0 _ _ (F.bs.gd0.1 a o e)) ⟨o, F.bs.gd0.1 a o e⟩, key⟩
  show (s0.heap.objs.mapIdx _).size ≤ L
  rw [Array.size_mapIdx]; exact F.bs.above
theorem q_setA {w : World} {W : List Addr} {g0 g : Heap} {s0 s : Shared} {L : Addr} {ms : List (Addr × Obj)} {m : Str → Option Value} {A : Around} {E : Value → Shared → Prop} {C x dx : Addr} {es : List DictEntry} {n : Nat} {name : Str} {v : Value} {Q : Unit → Shared → Prop}
    (F : Fm w W g0 s0 L ((dx, dictO es n) :: ms) g s m) (hx : s.heap.get? x = some (instO C dx)) (hs : findIn (Mine.hd.heap_39 w.params) (.ref C) "__setattr__" = some (some (.builtin "object.__setattr__"))) (hp : plainOver (Mine.hd.heap_39 w.params) C = true)
    (ht : takerIn (Mine.hd.heap_39 w.params) C name = some none) (hh : hasDictIn (Mine.hd.heap_39 w.params) C = true) (hl : (getL name es).isSome = true) (hz : (putL name (PyData.keyHash w.params name) (.str name (s.toks + 1)) v es).length ≤ 1000)
    (h : ∀ s', Fm w W g0 s0 L ((dx, dictO (putL name (PyData.keyHash w.params name) (.str name (s.toks + 1)) v es) (putN name es n)) :: ms) g s' m → Q () s') : wpAny (model PW w) A (setAttr (.ref x) name v) Q E s := by
  obtain ⟨h0, F0, X0, hsub⟩ := F.fr2
  have M := F.mu (dx, dictO es n) (.head _)
  have nd := F.nd
  rw [List.map_cons, List.nodup_cons] at nd
  have n0 : h0.get? dx = none := by
    cases q : h0.get? dx with
    | none => rfl
    | some o => have := hsub _ _ q; rw [M.2.1] at this; cases this
  refine set_dict (h₀ := h0) (L := L) (m := m) (C := C) (ox := instO C dx) (news := (dx, dictO es n) :: (others s.heap L dx).filter fun p => (h0.get? p.1).isNone) F0 X0 ?_ ⟨hx, rfl, rfl, M.1⟩ rfl hs hp ht hh hl rfl (Upd.head fun p hp => (mem_others.mp (List.mem_filter.mp hp).1).2.2) hz fun h' F' N' => ?_
  · intro p hp
    rcases List.mem_cons.mp hp with rfl | hp
    · exact ⟨M.1, M.2.2.1, n0⟩
    · have q := mem_others.mp (List.mem_filter.mp hp).1
      exact ⟨q.1, q.2.1, by simpa using (List.mem_filter.mp hp).2⟩
  · refine h _ (F.redo (tk := s.toks + 2) F'.ns (fun b ob hb hb2 e => ?_) (N' _ (.head _)).1)
    cases q : h0.get? b with
    | none => exact (N' (b, ob) (.tail _ (List.mem_filter.mpr ⟨mem_others.mpr ⟨e, hb, hb2⟩, by rw [q]; rfl⟩))).1
    | some o =>
      have e2 := F0.keep _ _ q
      rw [e] at e2; cases e2
      exact F'.keep _ _ q
theorem q_clsm {w : World} {W : List Addr} {g0 g : Heap} {s0 s : Shared} {L : Addr} {ms : List (Addr × Obj)} {m : Str → Option Value} {A : Around} {E : Value → Shared → Prop} {C p f : Addr} {mc : Value} {rest : List Value} {name : Str} {pl : Sem Bool} {Q : Value × List Value → Shared → Prop}
    (F : Fm w W g0 s0 L ms g s m) (hg : specialIn (Mine.hd.heap_39 w.params) (.ref C) "__getattribute__" = some (some (.builtin "type.__getattribute__"))) (hr : readsIn (Mine.hd.heap_39 w.params) C mc = true)
    (e : findCls (Mine.hd.heap_39 w.params) (.ref C) mc name = some (.get (.builtin "classmethod.__get__") (.ref p) .none (.ref C))) (hp : recIn (Mine.hd.heap_39 w.params) p "classmethod" = some (.ref f :: rest))
    (h : ∀ q g' s', Sub g g' → Fm w W g0 s0 L ms g' s' m → g'.get? q = some (methodObj (.ref f) (.ref C)) → Q (.ref q, []) s') : wpAny (model PW w) A (getMethod (.ref C) name pl) Q E s := by
  obtain ⟨g', hs, F', hq⟩ := F.push (o := methodObj (.ref f) (.ref C)) (tk := s.toks + 1) rfl
  exact method_cls F.X hg (cls_bind F.X hr e (wpAny_call (cm_get (s := { s with toks := s.toks + 1 }) F.X hp (handed_on rfl (h _ g' _ hs F' hq)))))
theorem q_cwM {w : World} {A : Around} {E : Value → Shared → Prop} {s : Shared} {env : Env} {q f : Addr} {self : Value} {e : Expr} {rest : List Expr} {pos : Pos} {Q : Value → Shared → Prop} (hf : fnIn (Mine.hd.heap_39 w.params) f = true)
    (h : wpAny (model PW w) A (spliced (backTo pos (starEach (e :: rest) env))) (fun vs s₁ => MethP (Mine.hd.heap_39 w.params) q f self s₁.heap ∧ wpAny (model PW w) A (call (.ref q) vs) Q E s₁) E s)
    (he : starEach (e :: rest) env = (false, eval e env) :: starEach rest env := by rfl) (hplain : (backTo pos (starEach rest env)).any (·.1) = false := by rfl) :
    wpAny (model PW w) A (callWith pos (.ref q) [] (backTo pos (starEach (e :: rest) env)) []) Q E s := by
  rw [he] at h ⊢
  exact callWith_of (P := MethP (Mine.hd.heap_39 w.params) q f self) (by show ((false || (backTo pos (starEach rest env)).any (·.1)) || false) = false; rw [hplain]; rfl) (keeps_M hf) (Calls.evalArgs_plain h)
theorem q_tok768 {w : World} {W : List Addr} {g0 g : Heap} {s0 s : Shared} {L : Addr} {ms : List (Addr × Obj)} {m : Str → Option Value} {A : Around} {E : Value → Shared → Prop} {d u : Nat} {v : Int} {t : Tok} {Q : Value → Shared → Prop} (r : Rm A d u) (F : Fm w W g0 s0 L ms g s m)
    (h : ∀ a g' s', Sub g g' → Fm w W g0 s0 L ms g' s' m → Tk g' a v → Q (.ref a) s') : wpAny (model PW w) A (call (.ref 768) [.int v t] []) Q E s := by
  refine r.weak (x_tok F.X fun {a d h' tk' u1 t1 t2 n} hs n1 n2 => ?_)
  obtain ⟨g', hs', F', hnew⟩ := F.ext (tk := tk') hs
  exact h a g' _ hs' F' ⟨d, u1, t1, t2, n, hnew _ _ n1.1 n1.2, hnew _ _ n2.1 n2.2⟩
theorem c_fromstr {w : World} {A : Around} {g0 : Heap} {sE : Shared} {R : Result → Shared → Prop} {v : Int} {t : Tok}
    (r : Rm A 2 30) (gd : Gd w g0) (hg : Sub g0 sE.heap) (h0 : -100 < v) (h1 : v < 100)
    (h : ∀ a g' s', Step g0 sE g' s' → Tk g' a v → R (.ok (.ret (.ref a))) s') :
    codeAny (model PW w) A (.call (.ref 733) ⟨[.ref 768, .str (strI v) t], []⟩) R sE := by
  refine fn_code (binds := [("cls", .ref 768), ("token_string", .str (strI v) t)]) [] [] gd hg r (by k_is) (by k_is) (BindsTo.of_eq rfl) (locs rfl) (by simp) (by simp) rfl rfl rfl (by decide) fun L s F => ?_
  have rd : ∀ env, Rm (A.deeper env) 1 27 := fun _ => r.deeper
  walk_at "mm"
  refine KIN.call_text (strI_ok h0 h1).1 (strI_ok h0 h1).2.1 ?_
  refine q_tok F _ fun s F => ?_
  walk_at "mm"
  refine q_tok768 (rd _) F fun a g s hs F hT => ?_
  walk_at "mm"
  exact h a g s F.step hT
theorem isStr_iff {v : Value} {x : Str} : v.isStr x = true ↔ ∃ t, v = .str x t := by
  cases v with
  | str y t =>
    simp only [Value.isStr, beq_iff_eq]
    constructor
    · rintro rfl; exact ⟨t, rfl⟩
    · rintro ⟨t, e⟩; cases e; rfl
  | _ => simp [Value.isStr]
def noRefs (es : List DictEntry) : Prop := ∀ e ∈ es, e.refKey = false
theorem noRefs_any {es : List DictEntry} (h : noRefs es) : es.any (·.refKey) = false := by
  rw [Bool.eq_false_iff, Ne, List.any_eq_true]
  rintro ⟨e, he, q⟩
  rw [h e he] at q; cases q
theorem putL_noRefs {name : Str} {hh : Int} {t : Tok} {v : Value} : ∀ {es : List DictEntry}, noRefs es → noRefs (putL name hh (.str name t) v es)
  | [], _ => by
    intro e he
    simp only [putL, List.mem_singleton] at he
    subst he; rfl
  | e0 :: es, h => by
    simp only [putL]
    split
    · intro e he
      rcases List.mem_cons.mp he with rfl | he
      · exact h e0 (.head _)
      · exact h e (.tail _ he)
    · intro e he
      rcases List.mem_cons.mp he with rfl | he
      · exact h _ (.head _)
      · exact putL_noRefs (fun e he => h e (.tail _ he)) e he
theorem putL_len {name : Str} {hh : Int} {k v : Value} : ∀ {es : List DictEntry}, (putL name hh k v es).length ≤ es.length + 1
  | [] => by simp [putL]
  | e0 :: es => by
    have := @putL_len name hh k v es
    simp only [putL]
    split
    · simp
    · simp only [List.length_cons]; omega
theorem find_putL {name : Str} {hh : Int} {t : Tok} {v : Value} : ∀ {es : List DictEntry}, ∃ e, (putL name hh (.str name t) v es).find? (·.key.isStr name) = some e ∧ e.val = v
  | [] => ⟨⟨hh, .str name t, v⟩, by simp [putL, Value.isStr], rfl⟩
  | e0 :: es => by
    simp only [putL]
    split
    · rename_i q
      exact ⟨_, List.find?_cons_of_pos (by exact q), rfl⟩
    · rename_i q
      obtain ⟨e, h1, h2⟩ := @find_putL name hh t v es
      exact ⟨e, by rw [List.find?_cons_of_neg (by exact q)]; exact h1, h2⟩
theorem find_putL_ne {name nm2 : Str} {hh : Int} {t : Tok} {v : Value} (hne : nm2 ≠ name) : ∀ {es : List DictEntry}, ((putL name hh (.str name t) v es).find? (·.key.isStr nm2)).map (·.val) = (es.find? (·.key.isStr nm2)).map (·.val)
  | [] => by
    have : (Value.str name t).isStr nm2 = false := by
      rw [Bool.eq_false_iff, Ne, isStr_iff]
      rintro ⟨t, e⟩; cases e; exact hne rfl
    simp [putL, this]
  | e0 :: es => by
    simp only [putL]
    split
    · rename_i q
      obtain ⟨t0, q⟩ := isStr_iff.mp q
      have : e0.key.isStr nm2 = false := by
        rw [Bool.eq_false_iff, Ne, isStr_iff, q]
        rintro ⟨t, e⟩; cases e; exact hne rfl
      rw [List.find?_cons_of_neg (by simp [this]), List.find?_cons_of_neg (by simp [this])]
    · have ih := @find_putL_ne name nm2 hh t v hne es
      by_cases q : e0.key.isStr nm2 = true
      · simp only [List.find?_cons, q]
      · have q : e0.key.isStr nm2 = false := by simpa using q
        simp only [List.find?_cons, q]
        exact ih
theorem getL_eq {name : Str} {es : List DictEntry} (h : noRefs es) : getL name es = some ((es.find? (·.key.isStr name)).map (·.val)) := by
  unfold getL
  rw [noRefs_any h]
  split <;> rename_i q <;> simp [q]
theorem getL_putL {name : Str} {hh : Int} {t : Tok} {v : Value} {es : List DictEntry} (h : noRefs es) : getL name (putL name hh (.str name t) v es) = some (some v) := by
  rw [getL_eq (putL_noRefs h)]
  obtain ⟨e, h1, h2⟩ := @find_putL name hh t v es
  rw [h1, Option.map_some, h2]
theorem getL_putL_ne {name nm2 : Str} {hh : Int} {t : Tok} {v : Value} {es : List DictEntry} (h : noRefs es) (hne : nm2 ≠ name) : getL nm2 (putL name hh (.str name t) v es) = getL nm2 es := by
  rw [getL_eq (putL_noRefs h), getL_eq h, find_putL_ne hne]
def mnames : List Str := [Str.ofString "_keyspace_added", Str.ofString "_keyspace_updated", Str.ofString "_keyspace_removed", Str.ofString "rebuild_token_map"]
def MdD (o : Obj) (sp : Addr) (tm : Option Value) (b : Nat) : Prop := ∃ es n, o = dictO es n ∧ es.length ≤ b ∧ noRefs es ∧ getL "keyspaces" es = some (some (.ref sp)) ∧ getL "token_map" es = some tm ∧ ∀ nm ∈ mnames, getL nm es = some none
theorem MdD.sp {o : Obj} {sp : Addr} {tm : Option Value} {b : Nat} (h : MdD o sp tm b) : lookIn (Str.ofString "keyspaces") o = some (some (.ref sp)) := by
  obtain ⟨es, n, rfl, _, _, h1, _⟩ := h
  exact h1
theorem MdD.tm {o : Obj} {sp : Addr} {tm : Option Value} {b : Nat} (h : MdD o sp tm b) : lookIn (Str.ofString "token_map") o = some tm := by
  obtain ⟨es, n, rfl, _, _, _, h1, _⟩ := h
  exact h1
theorem MdD.mn {o : Obj} {sp : Addr} {tm : Option Value} {b : Nat} (h : MdD o sp tm b) {nm : Str} (hm : nm ∈ mnames) : lookIn nm o = some none := by
  obtain ⟨es, n, rfl, _, _, _, _, h1⟩ := h
  exact h1 nm hm
section
variable {w : World} {W : List Addr} {g0 g : Heap} {s0 s : Shared} {L : Addr} {ms : List (Addr × Obj)} {m : Str → Option Value} {A : Around} {E : Value → Shared → Prop}
theorem q_setPart {M dM sp : Addr} {odM : Obj} {tm : Option Value} {b : Nat} {v : Value} {Q : Unit → Shared → Prop}
    (F : Fm w W g0 s0 L ((dM, odM) :: ms) g s m) (hx : s.heap.get? M = some (instO 159 dM)) (hd : MdD odM sp tm b) (hb : b ≤ 100) (h : ∀ odM' s', MdD odM' sp tm (b + 1) → Fm w W g0 s0 L ((dM, odM') :: ms) g s' m → Q () s') :
    wpAny (model PW w) A (setAttr (.ref M) (Str.ofString "partitioner") v) Q E s := by
  obtain ⟨es, n, rfl, h1, h2, h3, h4, h5⟩ := hd
  have hl := @putL_len (Str.ofString "partitioner") (PyData.keyHash w.params (Str.ofString "partitioner")) (.str (Str.ofString "partitioner") (s.toks + 1)) v es
  refine q_setA (C := 159) F hx (by k_is) (by k_is) (by k_is) (by k_is) (by rw [getL_eq h2]; rfl) (by omega) fun s' F' => h _ s' ⟨_, _, rfl, by omega, putL_noRefs h2, ?_, ?_, fun nm hm => ?_⟩ F'
  · rw [getL_putL_ne h2 (by decide)]; exact h3
  · rw [getL_putL_ne h2 (by decide)]; exact h4
  · rw [getL_putL_ne h2 ((by decide : ∀ nm ∈ mnames, nm ≠ Str.ofString "partitioner") nm hm)]; exact h5 nm hm
theorem q_setTm {M dM sp : Addr} {odM : Obj} {tm : Option Value} {b : Nat} {v : Value} {Q : Unit → Shared → Prop}
    (F : Fm w W g0 s0 L ((dM, odM) :: ms) g s m) (hx : s.heap.get? M = some (instO 159 dM)) (hd : MdD odM sp tm b) (hb : b ≤ 100) (h : ∀ odM' s', MdD odM' sp (some v) (b + 1) → Fm w W g0 s0 L ((dM, odM') :: ms) g s' m → Q () s') :
    wpAny (model PW w) A (setAttr (.ref M) (Str.ofString "token_map") v) Q E s := by
  obtain ⟨es, n, rfl, h1, h2, h3, h4, h5⟩ := hd
  have hl := @putL_len (Str.ofString "token_map") (PyData.keyHash w.params (Str.ofString "token_map")) (.str (Str.ofString "token_map") (s.toks + 1)) v es
  refine q_setA (C := 159) F hx (by k_is) (by k_is) (by k_is) (by k_is) (by rw [getL_eq h2]; rfl) (by omega) fun s' F' => h _ s' ⟨_, _, rfl, by omega, putL_noRefs h2, ?_, ?_, fun nm hm => ?_⟩ F'
  · rw [getL_putL_ne h2 (by decide)]; exact h3
  · exact getL_putL h2
  · rw [getL_putL_ne h2 ((by decide : ∀ nm ∈ mnames, nm ≠ Str.ofString "token_map") nm hm)]; exact h5 nm hm
end
section
variable {w : World} {W : List Addr} {g0 g : Heap} {s0 s : Shared} {L : Addr} {ms : List (Addr × Obj)} {m : Str → Option Value} {A : Around} {E : Value → Shared → Prop} {env : Env}
theorem for_items {I d : Addr} {es : List DictEntry} {nd : Nat} {a b : Value} {x y : Str} {px py tp : Pos} {kk : Nat} {body : List Stmt} {R : Result → Shared → Prop}
    (J : Nat → List (Addr × Obj) → Heap → (Str → Option Value) → Prop) (hh : A.handled = none)
    (F : Fm w W g0 s0 L (ms ++ [(I, itO d .none 0 es.length nd a b)]) g s m) (hd : g.get? d = some (dictO es nd)) (hn : s0.heap.get? I = none) (h0 : J 0 ms g m)
    (ea : EnvAt env L) (hlx : env.kindOf x = some .local) (hly : env.kindOf y = some .local)
    (turn : ∀ i ms' g1 s1 m' e oi, es[i]? = some e → Sub g g1 → J i ms' g1 m' →
      Fm w W g0 s0 L (ms' ++ [(I, oi)]) g1 s1 (fun z => if z = y then some e.val else if z = x then some e.key else m' z) →
      wpAny (model PW w) A (execs body env) (TurnEnd R fun s3 => ∃ ms2 g3 m2, Sub g1 g3 ∧ Fm w W g0 s0 L (ms2 ++ [(I, oi)]) g3 s3 m2 ∧ J (i + 1) ms2 g3 m2) NE s1)
    (hmono : ∀ i ms' g1 g2 m', Sub g1 g2 → J i ms' g1 m' → J i ms' g2 m')
    (done : ∀ ms' g1 s1 m', Sub g g1 → J es.length ms' g1 m' → Fm w W g0 s0 L ms' g1 s1 m' → R (.ok .next) s1) :
    codeAny (model PW w) A (.forLoop (.Tuple [.Name x px, .Name y py] kk tp) (.ref I) body [] env) R s := by
  refine codeAny_forLoop_any (fun k s1 => ∃ i ms' g1 m' a b, i ≤ es.length ∧ k = es.length - i ∧ Sub g g1 ∧ J i ms' g1 m' ∧ Fm w W g0 s0 L (ms' ++ [(I, itO d .none i es.length nd a b)]) g1 s1 m') ?_ es.length ⟨0, ms, g, m, a, b, Nat.zero_le _, rfl, Sub.refl _, h0, F⟩
  rintro k s1 ⟨i, ms', g1, m', a, b, hi, rfl, hs, hJ, F1⟩
  have F1' := F1.perm (ms' := (I, itO d .none i es.length nd a b) :: ms') (by have := perm_tail ms' (I, itO d .none i es.length nd a b) []; rw [List.append_nil] at this; exact this)
  have hI := F1'.turnable (.head _)
  have hdd := F1.get (hs _ _ hd)
  by_cases hlt : i < es.length
  · have hx : es[i]? = some es[i] := List.getElem?_eq_getElem hlt
    refine next_items hI hdd hx fun h' h1 h2 h3 => ?_
    obtain ⟨g2, hs2, F2, hnew⟩ := F1'.turnE (tk := s1.toks) h3 h1
    have htp := hnew _ _ h2 F1.fresh
    refine wpAny_letOwnedTupleGo_items (i := i + 1) (n := es.length) (ep := nd) (F2.turnable (.head _)) fun h'' h4 h5 => ?_
    have F3 := F2.turn (tk := s1.toks) h5 h4
    have F3' := F3.perm (ms' := ms' ++ [(I, itO d .none (i + 1) es.length nd es[i].key es[i].val)]) (by have := (perm_tail ms' (I, itO d .none (i + 1) es.length nd es[i].key es[i].val) []); rw [List.append_nil] at this; exact this.symm)
    refine q_assignTup (items := [es[i].key, es[i].val]) hh F3' ⟨_, F3.get htp, rfl, _, rfl⟩ rfl rfl fun g4 s4 hs4 F4 => ?_
    show wpAny (model PW w) A (assignInOrder [assign (.Name x px) env, assign (.Name y py) env] [es[i].key, es[i].val]) _ _ s4
    refine assignInOrder_cons (wpAny_assign_Name (e_st ea F4 (fun s5 F5 => ?_) hlx))
    refine assignInOrder_cons (wpAny_assign_Name (e_st ea F5 (fun s6 F6 => assignInOrder_nil ?_) hly))
    refine wpAny_mono (turn i ms' g4 s6 m' es[i] _ hx ((hs.trans hs2).trans hs4) (hmono _ _ _ _ _ (hs2.trans hs4) hJ) F6) (fun fl s7 h7 => ?_) fun _ _ q => q.elim
    have fin : (∃ ms2 g3 m2, Sub g4 g3 ∧ Fm w W g0 s0 L (ms2 ++ [(I, itO d .none (i + 1) es.length nd es[i].key es[i].val)]) g3 s7 m2 ∧ J (i + 1) ms2 g3 m2) → ∃ k', k' < es.length - i ∧ ∃ i ms' g1 m' a b, i ≤ es.length ∧ k' = es.length - i ∧ Sub g g1 ∧ J i ms' g1 m' ∧ Fm w W g0 s0 L (ms' ++ [(I, itO d .none i es.length nd a b)]) g1 s7 m' := by
      rintro ⟨ms2, g3, m2, hs3, F5, hJ5⟩
      exact ⟨es.length - (i + 1), by omega, i + 1, ms2, g3, m2, _, _, hlt, rfl, ((hs.trans hs2).trans hs4).trans hs3, hJ5, F5⟩
    cases fl with
    | next => exact fin h7
    | cont => exact fin h7
    | brk => exact h7
    | ret v => exact h7
  · obtain rfl : i = es.length := by omega
    refine end_items hh hI hdd (Nat.le_refl _) fun h' hx => ?_
    exact wpAny_execs_nil (done ms' g1 _ m' hs hJ (F1'.lost (tk := s1.toks) hx hn))
end
theorem Fm.pushL {w : World} {W : List Addr} {g0 g : Heap} {s0 s : Shared} {L : Addr} {ms : List (Addr × Obj)} {m : Str → Option Value} {o : Obj} {tk : Nat} (F : Fm w W g0 s0 L ms g s m) (ho : o.isFreed = false) :
    Fm w W g0 s0 L (ms ++ [(s.heap.objs.size, o)]) g { s with heap := s.heap.push o, toks := tk } m :=
  (F.pushM (tk := tk) ho).perm (by have := perm_tail ms (s.heap.objs.size, o) []; rw [List.append_nil] at this; exact this.symm)
theorem c_rtm0 {w : World} {A : Around} {g0 : Heap} {sE : Shared} {E : Value → Shared → Prop} {Q : Value → Shared → Prop} {M dM sp : Addr} {odM : Obj} {tm : Option Value} {b : Nat} {rv : Value} {t : Tok}
    (r : Rm A 2 30) (gd : Gd w g0) (hg : Sub g0 sE.heap) (hM : g0.get? M = some (instO 159 dM)) (hdM : sE.heap.get? dM = some odM) (hn : g0.get? dM = none) (hd : MdD odM sp tm b) (hb : b ≤ 90)
    (h : ∀ g' s' odM', StepW [dM] g0 sE g' s' → s'.heap.get? dM = some odM' → g'.get? dM = none → MdD odM' sp (some .none) (b + 2) → Q .none s') :
    wpAny (model PW w) A (call (.ref 149) [.ref M, .str (Str.ofString "Other") t, rv] []) Q E sE := by
  refine fn_call (binds := [("self", .ref M), ("partitioner", .str (Str.ofString "Other") t), ("token_map", rv)]) [dM] [(dM, odM)] gd hg r (by k_is) (by k_is) (BindsTo.of_eq rfl) (locs rfl) (by simpa using ⟨hdM, hn⟩) (by simp) rfl rfl rfl (by decide) fun L s F => ?_
  have rd : ∀ env, Rm (A.deeper env) 1 27 := fun _ => r.deeper
  walk_at "mm"
  refine plainObj_wpAny_Assign_Attribute ?_
  walk_at "mm"
  refine q_setPart F (F.get (F.gd_sub hM)) hd (by omega) fun odM1 s hd1 F => ?_
  walk_at "mm"
  refine GM.endswith ?_
  walk_at "mm"
  refine (rd _).weak (x_ends0 F.X fun {h' tk'} hs => ?_)
  refine F.extQ hs _ fun g s hs F => ?_
  walk_at "mm"
  refine plainObj_wpAny_Assign_Attribute ?_
  walk_at "mm"
  refine q_setTm F (F.get (F.gd_sub hM)) hd1 (by omega) fun odM2 s hd2 F => ?_
  walk_at "mm"
  exact h g s odM2 F.step (F.turnable (.head _)) (F.mu _ (.head _)).2.1 hd2
def pre (R : Ring) (i : Nat) : List Nat := (List.range i).flatMap fun h => ownAll R h R.length
theorem pre_succ (R : Ring) (i : Nat) : pre R (i + 1) = pre R i ++ ownAll R i R.length := by
  unfold pre
  rw [List.range_succ, List.flatMap_append]
  simp
theorem pre_three (R : Ring) : pre R 3 = permR R := by
  rw [pre_succ, pre_succ, pre_succ]
  simp [pre, permR]
theorem mem_ownAll {R : Ring} {i k n : Nat} : k ∈ ownAll R i n ↔ k < n ∧ (R.getD k (0, 0)).2 = i := by
  unfold ownAll
  rw [List.mem_filter, List.mem_range, decide_eq_true_eq]
theorem mem_pre {R : Ring} {i k : Nat} : k ∈ pre R i ↔ k < R.length ∧ (R.getD k (0, 0)).2 < i := by
  unfold pre
  rw [List.mem_flatMap]
  constructor
  · rintro ⟨h, hh, hk⟩
    have := mem_ownAll.mp hk
    have := List.mem_range.mp hh
    omega
  · rintro ⟨h1, h2⟩
    exact ⟨_, List.mem_range.mpr h2, mem_ownAll.mpr ⟨h1, rfl⟩⟩
theorem ownAll_len (R : Ring) (i n : Nat) : (ownAll R i n).length ≤ n := by
  have := List.length_filter_le (fun j => decide ((R.getD j (0, 0)).2 = i)) (List.range n)
  rw [List.length_range] at this; exact this
theorem pre_len (R : Ring) (i : Nat) : (pre R i).length ≤ i * R.length := by
  induction i with
  | zero => simp [pre]
  | succ i ih =>
    have := ownAll_len R i R.length
    rw [pre_succ, List.length_append, Nat.succ_mul]; omega
theorem ownAll_nodup (R : Ring) (i n : Nat) : (ownAll R i n).Nodup := List.nodup_range.filter _
def kvOf (R : Ring) (HA tok : Nat → Addr) (ks : List Nat) : List (Int × Addr × Value) := ks.map fun k => ((R.getD k (0, 0)).1, tok k, .ref (HA (R.getD k (0, 0)).2))
def upd (tok : Nat → Addr) (k : Nat) (a : Addr) : Nat → Addr := fun q => if q = k then a else tok q
theorem upd_old {tok : Nat → Addr} {k q : Nat} {a : Addr} (h : q ≠ k) : upd tok k a q = tok q := by unfold upd; rw [if_neg h]
theorem upd_new {tok : Nat → Addr} {k : Nat} {a : Addr} : upd tok k a k = a := by unfold upd; rw [if_pos rfl]
theorem toksV_upd {tok : Nat → Addr} {k : Nat} {a : Addr} {ks : List Nat} (h : k ∉ ks) : toksV (upd tok k a) (ks ++ [k]) = toksV tok ks ++ [.ref a] := by
  unfold toksV
  rw [List.map_append]
  congr 1
  · refine List.map_congr_left fun q hq => ?_
    rw [upd_old (show q ≠ k from fun e => h (e ▸ hq))]
  · simp [upd_new]
theorem kvOf_upd {R : Ring} {HA tok : Nat → Addr} {k : Nat} {a : Addr} {ks : List Nat} (h : k ∉ ks) : kvOf R HA (upd tok k a) (ks ++ [k]) = kvOf R HA tok ks ++ [((R.getD k (0, 0)).1, a, .ref (HA (R.getD k (0, 0)).2))] := by
  unfold kvOf
  rw [List.map_append]
  congr 1
  · refine List.map_congr_left fun q hq => ?_
    rw [upd_old (show q ≠ k from fun e => h (e ▸ hq))]
  · simp [upd_new]
theorem ring_hv {R : Ring} (ok : RingOk R) {i j : Nat} (hi : i < R.length) (hj : j < R.length) (h : hv (R.getD i (0, 0)).1 = hv (R.getD j (0, 0)).1) : i = j := by
  rcases Nat.lt_trichotomy i j with z | z | z
  · have := ok.inc _ _ z hj
    have := hv_inj (by omega) (by omega) h
    omega
  · exact z
  · have := ok.inc _ _ z hi
    have := hv_inj (by omega) (by omega) h
    omega
theorem kvOf_ok {g : Heap} {R : Ring} {HA tok : Nat → Addr} {ks : List Nat} (ok : RingOk R) (hn : ks.Nodup) (hk : ∀ k ∈ ks, k < R.length ∧ Tk g (tok k) (R.getD k (0, 0)).1) : TdOk g (kvOf R HA tok ks) := by
  refine ⟨fun x hx => ?_, ?_⟩
  · obtain ⟨k, hk', rfl⟩ := List.mem_map.mp hx
    exact (hk k hk').2
  · unfold kvOf
    rw [List.map_map]
    refine List.pairwise_map.mpr (List.Pairwise.imp_of_mem (fun {a b} ha hb q e => ?_) hn)
    exact q (ring_hv ok (hk a ha).1 (hk b hb).1 e)
theorem kvOf_new {R : Ring} {HA tok : Nat → Addr} {ks : List Nat} {k : Nat} (ok : RingOk R) (hk : ∀ k ∈ ks, k < R.length) (hlt : k < R.length) (h : k ∉ ks) : hv (R.getD k (0, 0)).1 ∉ (kvOf R HA tok ks).map (fun x => hv x.1) := by
  intro hm
  obtain ⟨x, hx, e⟩ := List.mem_map.mp hm
  obtain ⟨q, hq, rfl⟩ := List.mem_map.mp hx
  have := ring_hv ok (hk q hq) hlt e
  exact h (this ▸ hq)
structure RtJ (R : Ring) (HA : Nat → Addr) (ow rg dM : Addr) (odM : Obj) (tail : List (Addr × Obj)) (ks : List Nat) (ms : List (Addr × Obj)) (g : Heap) : Prop where
  ex : ∃ tok nk n, ms = (rg, listOf (toksV tok ks).toArray n) :: (ow, tdO (kvOf R HA tok ks) nk) :: (dM, odM) :: tail ∧ ∀ k ∈ ks, k < R.length ∧ Tk g (tok k) (R.getD k (0, 0)).1
  nd : ks.Nodup
theorem RtJ.keeps {R : Ring} {HA : Nat → Addr} {ow rg dM : Addr} {odM : Obj} {tail : List (Addr × Obj)} {ks : List Nat} {ms : List (Addr × Obj)} {g h : Heap} (x : RtJ R HA ow rg dM odM tail ks ms g) (k : Sub g h) : RtJ R HA ow rg dM odM tail ks ms h := by
  obtain ⟨tok, nk, n, e, hk⟩ := x.ex
  exact ⟨⟨tok, nk, n, e, fun q hq => ⟨(hk q hq).1, (hk q hq).2.keeps k⟩⟩, x.nd⟩
theorem c_rtm {w : World} {A : Around} {g0 : Heap} {sE : Shared} {E : Value → Shared → Prop} {Q : Value → Shared → Prop} {M dM sp rw : Addr} {odM : Obj} {tm : Option Value} {b : Nat} {t : Tok} {R : Ring} {HA : Nat → Addr}
    (r : Rm A 5 50) (gd : Gd w g0) (hg : Sub g0 sE.heap) (hM : g0.get? M = some (instO 159 dM)) (hdM : sE.heap.get? dM = some odM) (hn : g0.get? dM = none) (hd : MdD odM sp tm b) (hb : b ≤ 90)
    (hrw : RowsOf g0 R HA rw) (hH : HsOf g0 HA) (ok : RingOk R)
    (h : ∀ T rl ow H tok g' s' odM', StepW [dM] g0 sE g' s' → s'.heap.get? dM = some odM' → g'.get? dM = none → MdD odM' sp (some (.ref T)) (b + 2) → IsTm g' T rl ow H M → s'.heap.get? H = some emptyD → g'.get? H = none → sE.heap.get? H = none →
      RgOf g' R tok rl → OwOf g' R HA tok ow → Q .none s') :
    wpAny (model PW w) A (call (.ref 149) [.ref M, .str (Str.ofString "Murmur3Partitioner") t, .ref rw] []) Q E sE := by
  have hpos := ok.pos
  have hle := ok.le
  obtain ⟨hsf, vs, nw, hrw0, hrows⟩ := hrw
  refine fn_call (binds := [("self", .ref M), ("partitioner", .str (Str.ofString "Murmur3Partitioner") t), ("token_map", .ref rw)]) [dM] [(dM, odM)] gd hg r (by k_is) (by k_is) (BindsTo.of_eq rfl) (locs rfl) (by simpa using ⟨hdM, hn⟩) (by simp) rfl rfl rfl (by decide) fun L s F => ?_
  have rd : ∀ env, Rm (A.deeper env) 4 47 := fun _ => r.deeper
  walk_at "mm"
  refine plainObj_wpAny_Assign_Attribute ?_
  walk_at "mm"
  refine q_setPart F (F.get (F.gd_sub hM)) hd (by omega) fun odM1 s hd1 F => ?_
  walk_at "mm"
  refine GM.endswith ?_
  walk_at "mm"
  refine (rd _).weak (x_ends1 F.X fun {h' tk'} hs => ?_)
  refine F.extQ hs _ fun g s hs F => ?_
  walk_at "mm"
  refine q_newDictM F fun ow s F now => ?_
  walk_at "mm"
  refine q_newListM F (by simp) fun rg s F nrg => ?_
  walk_at "mm"
  refine getMethod_builtin (T := "dict") ⟨_, F.get (F.gd_sub hrw0), rfl⟩ PySem.F.plainAttrs_dict PySem.F.slot_dict_items PySem.F.type_dict_items (fun a e => by cases e; exact ⟨_, F.get (F.gd_sub hrw0), rfl⟩) ?_
  walk_at "mm"
  have hkeys : ∀ e ∈ hdE HA hsf vs 3, ∃ a, e.key = .ref a := fun e he => by
    unfold hdE at he
    obtain ⟨k, _, rfl⟩ := List.mem_map.mp he
    exact ⟨_, rfl⟩
  have hlen3 : (hdE HA hsf vs 3).length = 3 := by simp [hdE]
  refine call_items (F.get (F.gd_sub hrw0)) (lo_of F.gd (F.gd_sub hrw0) hkeys) ?_
  obtain ⟨gB, hsB, FB, hview⟩ := F.push (o := { cls := .type "dict_items", data := .fields #[.ref rw] }) (tk := s.toks) rfl
  refine iter_items (FB.get hview) (FB.get (FB.gd_sub hrw0)) ?_
  have nI := FB.absent
  have F' := FB.pushL (o := itO rw .none 0 (hdE HA hsf vs 3).length nw .none .none) (tk := s.toks) rfl
  generalize hI1 : Array.size _ = I1 at nI F' ⊢
  have hH1 := hH.keeps FB.step.sub
  have hrows1 := fun k hk => (hrows k hk).keeps FB.step.sub
  refine for_items (fun i ms' g1 m1 => RtJ R HA ow rg dM odM1 [] (pre R i) ms' g1 ∧ m1 "self" = some (.ref M) ∧ m1 "token_class" = some (.ref 768) ∧ m1 "token_to_host_owner" = some (.ref ow) ∧ m1 "ring" = some (.ref rg)) r.hd F' (FB.gd_sub hrw0) nI ⟨⟨⟨fun _ => 0, 0, 0, rfl, by simp [pre]⟩, List.nodup_nil⟩, by walk_at "hv", by walk_at "hv", by walk_at "hv", by walk_at "hv"⟩ ⟨rfl, rfl, rfl, rfl⟩ rfl rfl ?_ ?_ ?_
  · rintro i ms' g1 s m1 e oi hei hs1 ⟨hJ, hm1, hm2, hm3, hm4⟩ F
    have hi : i < 3 := by
      have := (List.getElem?_eq_some_iff.mp hei).1
      omega
    have hee : e = ⟨hsf i, .ref (HA i), vs i⟩ := by
      simp only [hdE, List.getElem?_map, List.getElem?_range hi, Option.map_some, Option.some.injEq] at hei
      exact hei.symm
    subst hee
    obtain ⟨l, its, el, hl, hra⟩ := (hrows1 i hi).list_of
    have hlen : its.size = (ownAll R i R.length).length := by have := hra.len; simpa [rowD] using this
    have hown4 : (ownAll R i R.length).length ≤ R.length := by
      have := List.length_filter_le (fun j => decide ((R.getD j (0, 0)).2 = i)) (List.range R.length)
      rw [List.length_range] at this; exact this
    have hit : ∀ j, j < its.size → ∃ t, its[j]? = some (.str (strI (R.getD ((ownAll R i R.length).getD j 0) (0, 0)).1) t) ∧ (ownAll R i R.length)[j]? = some ((ownAll R i R.length).getD j 0) := fun j hj => by
      have e1 : (ownAll R i R.length)[j]? = some (ownAll R i R.length)[j] := List.getElem?_eq_getElem (by omega)
      have e2 : (ownAll R i R.length).getD j 0 = (ownAll R i R.length)[j] := by rw [List.getD_eq_getElem?_getD, e1]; rfl
      obtain ⟨v, h1, h2⟩ := hra.get (i := j) (d := .str (strI (R.getD ((ownAll R i R.length).getD j 0) (0, 0)).1)) (by unfold rowD; rw [List.getElem?_map, e1, e2]; rfl)
      obtain ⟨t, rfl⟩ := h2.str_of
      exact ⟨t, by simpa using h1, by rw [e1, e2]⟩
    obtain ⟨tok0, nk0, n0, rfl, hks0⟩ := hJ.ex
    have F : Fm w [dM] g0 sE L ((rg, listOf (toksV tok0 (pre R i)).toArray n0) :: (ow, tdO (kvOf R HA tok0 (pre R i)) nk0) :: (dM, odM1) :: [(I1, oi)]) g1 s (fun z => if z = Str.ofString "token_strings" then some (vs i) else if z = Str.ofString "host" then some (.ref (HA i)) else m1 z) := F
    walk_at "mm"
    rw [el] at F ⊢
    have hl1 := isl hl hs1
    refine wpAny_pyIter_list (items := its) (isl hl1 F.step.keep) ?_
    have nI2 := F.absent
    have F' := F.pushL (o := { cls := .type "list_iterator", data := .fields #[.ref l, .int 0 0] }) (tk := s.toks) rfl
    refine for_loopA (fun j ms'' g2 m2 => RtJ R HA ow rg dM odM1 [(I1, oi)] (pre R i ++ (ownAll R i R.length).take j) ms'' g2 ∧ m2 "self" = some (.ref M) ∧ m2 "token_class" = some (.ref 768) ∧ m2 "token_to_host_owner" = some (.ref ow) ∧ m2 "ring" = some (.ref rg) ∧ m2 "host" = some (.ref (HA i)))
      (iter_list (rd _).hd _ l its _ hl1) F' ⟨rfl, rfl⟩ nI2 ⟨⟨⟨tok0, nk0, n0, by simp, by simpa using hks0⟩, by simpa using hJ.nd⟩, hm1, hm2, hm3, hm4, by walk_at "hv"⟩ (fun i o v s Q hI e q => wpAny_of_eq (a := ()) (by rfl) q) ?_ ?_
    · rintro j ms'' g2 g3 s m2 v oi2 hj hs2 hs3 ⟨hJ2, hn1, hn2, hn3, hn4, hn5⟩ ⟨_, _, hv, _⟩ F
      obtain ⟨tj, ej, ek⟩ := hit j hj
      have hv : its[j]? = some v := hv
      rw [ej] at hv
      cases hv
      generalize (ownAll R i R.length).getD j 0 = k at ej ek F
      have hkm : k ∈ ownAll R i R.length := List.mem_of_getElem? ek
      obtain ⟨hk1, hk2⟩ := mem_ownAll.mp hkm
      obtain ⟨tok, nk, n, rfl, hks⟩ := hJ2.ex
      have hnew : k ∉ pre R i ++ (ownAll R i R.length).take j := by
        intro hm
        rcases List.mem_append.mp hm with hm | hm
        · have := mem_pre.mp hm; omega
        · obtain ⟨j', hj'⟩ := List.mem_iff_getElem?.mp hm
          rw [List.getElem?_take] at hj'
          split at hj'
          · have := (List.getElem?_inj (List.getElem?_eq_some_iff.mp ek).1 (ownAll_nodup R i R.length)).mp (ek.trans hj'.symm)
            omega
          · cases hj'
      refine wpAny_assign_Name (q_st F fun s F => ?_)
      walk_at "mm"
      refine q_clsm (C := 768) (p := 735) (f := 733) (mc := .type "type") (name := Str.ofString "from_string") F (by k_is) (by k_is) (by k_is) (by k_is) fun q g4 s hs4 F hq => ?_
      walk_at "mm"
      refine q_cwM (f := 733) (self := .ref 768) (by k_is) ?_
      walk_at "mm"
      refine ⟨⟨F.get hq, F.X⟩, ?_⟩
      refine wpAny_call (method_call (F.get hq) (c_fromstr (rd _).less F.gd F.step.keep (ok.lo k) (ok.hi k) fun a g5 s' S hTa => ?_))
      have F := F.called S
      have hs5 := S.sub
      simp only [List.cons_append, List.nil_append] at F
      have hks5 : ∀ q ∈ pre R i ++ (ownAll R i R.length).take j, q < R.length ∧ Tk g5 (tok q) (R.getD q (0, 0)).1 := fun q hq => ⟨(hks q hq).1, (hks q hq).2.keeps ((hs3.trans hs4).trans hs5)⟩
      have hlen4 : (pre R i ++ (ownAll R i R.length).take j).length ≤ 100 := by
        have h1 := pre_len R i
        have h2 : i * R.length ≤ 3 * 4 := Nat.mul_le_mul (by omega) hle
        have h3 : ((ownAll R i R.length).take j).length ≤ (ownAll R i R.length).length := by rw [List.length_take]; exact Nat.min_le_right _ _
        rw [List.length_append]; omega
      walk_at "mm"
      refine q_append F (by simp [toksV]; simp at hlen4; omega) fun s F => ?_
      walk_at "mm"
      refine wpAny_Assign_Subscript ?_
      walk_at "mm"
      have F := F.perm (List.Perm.swap _ _ _)
      refine q_tdSet (rd _).less F (kvOf_ok ok hJ2.nd hks5) hTa (kvOf_new ok (fun q hq => (hks5 q hq).1) hk1 hnew) (by simp [kvOf]; simp at hlen4; omega) (by have := ok.lo k; omega) (by have := ok.hi k; omega) fun g6 s hs6 F => ?_
      have F := F.perm (List.Perm.swap _ _ _)
      walk_at "mm"
      have e1 : pre R i ++ (ownAll R i R.length).take (j + 1) = pre R i ++ (ownAll R i R.length).take j ++ [k] := by
        rw [List.take_add_one, ek, List.append_assoc]; rfl
      refine ⟨(rg, _) :: (ow, _) :: (dM, odM1) :: [(I1, oi)], g6, _, (hs4.trans hs5).trans hs6, F, ⟨⟨upd tok k a, nk + 1, n + 1, ?_, ?_⟩, ?_⟩, by walk_at "hv", by walk_at "hv", by walk_at "hv", by walk_at "hv", by walk_at "hv"⟩
      · rw [e1, toksV_upd hnew, kvOf_upd hnew, hk2]
        simp
      · rw [e1]
        intro q hq
        rcases List.mem_append.mp hq with hq | hq
        · refine ⟨(hks5 q hq).1, ?_⟩
          rw [upd_old (show q ≠ k from fun e => hnew (e ▸ hq))]
          exact (hks5 q hq).2.keeps hs6
        · obtain rfl := List.mem_singleton.mp hq
          rw [upd_new]
          exact ⟨hk1, hTa.keeps hs6⟩
      · rw [e1]
        exact List.nodup_append.mpr ⟨hJ2.nd, (by simp), fun x hx y hy e => hnew (by rw [List.mem_singleton.mp hy] at e; exact e ▸ hx)⟩
    · rintro ms'' g2 s m2 hs2 ⟨hJ2, hn1, hn2, hn3, hn4, hn5⟩ F
      rw [hlen, List.take_length, ← pre_succ] at hJ2
      obtain ⟨tok, nk, n, rfl, hks⟩ := hJ2.ex
      walk_at "mm"
      exact ⟨_, g2, m2, hs2, F, ⟨⟨tok, nk, n, rfl, hks⟩, hJ2.nd⟩, hn1, hn2, hn3, hn4⟩
  · rintro i ms' g1 g2 m1 hs ⟨hJ, hm⟩
    exact ⟨hJ.keeps hs, hm⟩
  · rintro ms' g1 s m1 hs1 ⟨⟨⟨tok, nk, n, rfl, hks⟩, hnd⟩, hm1, hm2, hm3, hm4⟩ F
    rw [hlen3, pre_three] at hks hnd F
    walk_at "mm"
    have hall : ∀ k, k < R.length → k ∈ permR R := fun k hk => by
      rw [← pre_three]
      exact mem_pre.mpr ⟨hk, ok.own k⟩
    have htk : ∀ k, k < R.length → Tk g1 (tok k) (R.getD k (0, 0)).1 := fun k hk => (hks k (hall k hk)).2
    refine q_sortedR (rd _).less F (F.turnable (.head _)) ok htk fun D g2 s c hs2 F nD => ?_
    walk_at "mm"
    obtain ⟨g3, hs3, F, hD⟩ := F.rest nD
    obtain ⟨g4, hs4, F, hrg⟩ := F.rest nrg
    obtain ⟨g5, hs5, F, how⟩ := F.rest now
    refine plainObj_wpAny_Assign_Attribute ?_
    walk_at "mm"
    refine (rd _).weak (x_tm F.X fun {T dT H h' tk' u1 u2 u3 u4 u5 t1 t2 t3 t4 t5 n5} hs n1 n2 n3 => ?_)
    obtain ⟨g6, hs6, F, hnH, hnew⟩ := F.extM (tk := tk') hs [(H, emptyD)] (fun p hp => by obtain rfl := List.mem_singleton.mp hp; exact n3) (by simp)
    have hTne : T ≠ H := fun e => by
      have := n1.1
      rw [e, n3.1] at this; cases this
    have hdTne : dT ≠ H := fun e => by
      have := n2.1
      rw [e, n3.1] at this; cases this
    have eT := hnew T _ (by simpa using hTne) n1.1 n1.2
    have edT := hnew dT _ (by simpa using hdTne) n2.1 n2.2
    have F := F.perm (ms' := [(dM, odM1), (H, emptyD)]) (List.Perm.swap _ _ _)
    walk_at "mm"
    refine q_setTm F (F.get (F.gd_sub hM)) hd1 (by omega) fun odM2 s hd2 F => ?_
    walk_at "mm"
    have hs26 := (hs2.trans hs3).trans (hs4.trans (hs5.trans hs6))
    refine h T D ow H tok g6 s odM2 F.step (F.turnable (.head _)) (F.mu _ (.head _)).2.1 hd2 ⟨dT, u1, t1, u2, t2, u3, t3, u4, t4, u5, t5, n5, eT, edT⟩ (F.turnable (.tail _ (.head _))) (F.mu _ (.tail _ (.head _))).2.1 (hnH _ (.head _)) ?_ ?_
    · refine ⟨_, c, hs6 _ _ (hs5 _ _ (hs4 _ _ hD)), by simp [toksV], fun k hk => ⟨by simp [toksV, List.getElem?_range hk], (htk k hk).keeps hs26⟩⟩
    · refine ⟨_, nk, hs6 _ _ how, kvOf_ok ok hnd fun k hk => ⟨(hks k hk).1, (hks k hk).2.keeps hs26⟩, fun k hk => ?_⟩
      obtain ⟨j, hj⟩ := List.mem_iff_getElem?.mp (hall k hk)
      exact ⟨j, by simp [kvOf, hj]⟩
section
variable {w : World} {W : List Addr} {g0 g : Heap} {s0 s : Shared} {L : Addr} {ms : List (Addr × Obj)} {m : Str → Option Value} {A : Around} {E : Value → Shared → Prop}
theorem Fm.front {x : Addr × Obj} {l1 l2 : List (Addr × Obj)} (F : Fm w W g0 s0 L (l1 ++ x :: l2) g s m) : Fm w W g0 s0 L (x :: (l1 ++ l2)) g s m := F.perm List.perm_middle.symm
theorem Fm.back {x : Addr × Obj} {l1 l2 : List (Addr × Obj)} (F : Fm w W g0 s0 L (x :: (l1 ++ l2)) g s m) : Fm w W g0 s0 L (l1 ++ x :: l2) g s m := F.perm List.perm_middle
theorem Fm.calledS {V : List Addr} {msV msV' msR : List (Addr × Obj)} {g' : Heap} {s' : Shared} (F : Fm w W g0 s0 L (msV ++ msR) g s m) (S : StepW V g s g' s') (hV : ∀ a ∈ V, a ∈ msV.map (·.1)) (hm : ∀ p ∈ msV', s'.heap.get? p.1 = some p.2 ∧ g'.get? p.1 = none) (he : msV'.map (·.1) = msV.map (·.1)) :
    Fm w W g0 s0 L (msV' ++ msR) g' s' m := by
  have nd := F.nd
  rw [List.map_append, List.nodup_append] at nd
  refine F.calledW S (fun a ha => by rw [List.map_append]; exact List.mem_append_left _ (hV a ha)) (msV' ++ msR) (fun p hp => ?_) ?_
  · rcases List.mem_append.mp hp with hp | hp
    · refine ⟨(hm p hp).1, (hm p hp).2, .inl ?_⟩
      rw [List.map_append]
      exact List.mem_append_left _ (he ▸ List.mem_map.mpr ⟨p, hp, rfl⟩)
    · have M := F.mu p (List.mem_append_right _ hp)
      have nV : p.1 ∉ V := fun q => nd.2.2 _ (hV _ q) _ (List.mem_map.mpr ⟨p, hp, rfl⟩) rfl
      refine ⟨S.old _ _ nV M.1, ?_, .inl ?_⟩
      · cases q : g'.get? p.1 with
        | none => rfl
        | some o =>
          rcases S.frs _ _ q with z | z
          · rw [M.2.1] at z; cases z
          · rw [M.1] at z; cases z
      · rw [List.map_append]
        exact List.mem_append_right _ (List.mem_map.mpr ⟨p, hp, rfl⟩)
  · rw [List.map_append, List.nodup_append, he]
    exact nd
theorem Fm.dropL {l1 l2 : List (Addr × Obj)} (F : Fm w W g0 s0 L (l1 ++ l2) g s m) : Fm w W g0 s0 L l2 g s m := (F.perm (ms' := l2 ++ l1) List.perm_append_comm).drop
theorem q_ssetAt {d : Addr} {o : Obj} {kvs : List (Str × Value)} {x : Str} {t : Tok} {v : Value} {Q : Unit → Shared → Prop} (l1 : List (Addr × Obj)) {l2 : List (Addr × Obj)} (F : Fm w W g0 s0 L (l1 ++ (d, o) :: l2) g s m) (hd : o.IsDictOf (SK w) kvs) (hz : kvs.length ≤ 100)
    (h : ∀ o' s', Fm w W g0 s0 L (l1 ++ (d, o') :: l2) g s' m → o'.IsDictOf (SK w) (stored kvs x v) → Q () s') : wpAny (model PW w) A (setItem (.ref d) (.str x t) v) Q E s :=
  q_sset F.front hd hz fun o' s' F' hd' => h o' s' F'.back hd'
theorem q_spopAt {d : Addr} {o : Obj} {kvs : List (Str × Value)} {x : Str} {t : Tok} {v : Value} {Q : Value → Shared → Prop} (l1 : List (Addr × Obj)) {l2 : List (Addr × Obj)} (F : Fm w W g0 s0 L (l1 ++ (d, o) :: l2) g s m) (hd : o.IsDictOf (SK w) kvs) (hz : kvs.length ≤ 100)
    (h : ∀ o' s', Fm w W g0 s0 L (l1 ++ (d, o') :: l2) g s' m → o'.IsDictOf (SK w) (without kvs x) → Q ((valueAt kvs x).getD v) s') : wpAny (model PW w) A (call (.builtin "dict.pop") [.ref d, .str x t, v]) Q E s :=
  q_spop F.front hd hz fun o' s' F' hd' => h o' s' F'.back hd'
theorem mem_at {α : Type} {x : α} (l1 : List α) {l2 : List α} : x ∈ l1 ++ x :: l2 := List.mem_append_right _ (.head _)
theorem q_mulc {a b : Int} {t u : Tok} {Q : Value → Shared → Prop} (F : Fm w W g0 s0 L ms g s m) (ha : Builtin.Int.intBits a ≤ 64)
    (h : ∀ s' t, Fm w W g0 s0 L ms g s' m → Q (.int (a * b) t) s') : wpAny (model PW w) A (binaryOp .Mult (.int a t) (.int b u)) Q E s := PyProof.Rows.mul_int (h _ _ F.tok) (IntMulOk.of_left ha)
theorem q_fdiv {a b : Int} {t u : Tok} {Q : Value → Shared → Prop} (F : Fm w W g0 s0 L ms g s m) (hb : 0 < b) (hp : Builtin.divisionGoesByPylong a b = false)
    (h : ∀ s' t, Fm w W g0 s0 L ms g s' m → Q (.int (a / b) t) s') : wpAny (model PW w) A (binaryOp .FloorDiv (.int a t) (.int b u)) Q E s :=
  PyProof.Rows.floordiv_int (by omega) (by rw [Int.fdiv_eq_ediv_of_nonneg a (by omega)]; exact h _ _ F.tok) (.inl hp)
theorem q_neB {c d : Bool} {Q : Value → Shared → Prop} (h : Q (.bool (c != d)) s) : wpAny (model PW w) A (compareOp .NotEq (.bool c) (.bool d)) Q E s := PyProof.Rows.ne_bool h
def nmk (k : Nat) : Str := Str.mk #[120 + k]
theorem nmk_inj {a b : Nat} (h : nmk a = nmk b) : a = b := by
  have : (nmk a).cps.toList = (nmk b).cps.toList := by rw [h]
  have : [120 + a] = [120 + b] := this
  have := (List.cons.inj this).1; omega
theorem xy_item {i : Int} (h0 : 0 ≤ i) (h1 : i < 2) : Txt.item (Str.ofString "xy") i = nmk i.toNat := by
  obtain rfl | rfl : i = 0 ∨ i = 1 := by omega
  all_goals rfl
theorem q_xy {value slice : Expr} {i : Int} {t u : Tok} {Q : Value → Shared → Prop} (F : Fm w W g0 s0 L ms g s m) (h0 : 0 ≤ i) (h1 : i < 2)
    (h : ∀ s' t, Fm w W g0 s0 L ms g s' m → Q (.str (nmk i.toNat) t) s')
    (hs : subscripted slice false (.str (Str.ofString "xy") t) (.int i u) = operate [.str (Str.ofString "xy") t, .int i u] (getItem (.str (Str.ofString "xy") t) (.int i u)) := by with_unfolding_all rfl)
    (ht : ∀ r, letTemporaryGo value (.str (Str.ofString "xy") t) r = pure () := by intro _; with_unfolding_all rfl) :
    wpAny (model PW w) A (subscriptTail value slice (.str (Str.ofString "xy") t) (.int i u)) Q E s := by
  have hl : ((Str.ofString "xy").length : Int) = 2 := by decide
  refine item_str (by unfold fitsSsize; simp; omega) (by omega) (by omega) (fun _ => ?_) hs ht
  rw [xy_item h0 h1]; exact h _ _ F.tok
end
#print Builtin.divisionGoesByPylong
def cpS (sort : Nat) : Option Nat := if sort < 3 then some (sort + 1) else if sort = 3 then some 0 else none
theorem KsD.of_new {h h' g' : Heap} {dk : Addr} {st : Value} (hnew : ∀ a o, h'.get? a = some o → h.get? a = none → g'.get? a = some o) (x : KsD h' dk st ∧ h.get? dk = none) : KsD g' dk st := by
  obtain ⟨⟨a1, a2, a3, a4, a5, a6, a7, a8, a9, b1, b2, b3, b4, b5, b6, b7, b8, b9, c1, c2, c3, c4, c5, c6, c7, c8, c9, d1, d2, d3, e⟩, hn⟩ := x
  exact ⟨a1, a2, a3, a4, a5, a6, a7, a8, a9, b1, b2, b3, b4, b5, b6, b7, b8, b9, c1, c2, c3, c4, c5, c6, c7, c8, c9, d1, d2, d3, hnew _ _ e hn⟩
theorem q_ks {w : World} {W : List Addr} {g0 g : Heap} {s0 s : Shared} {L : Addr} {ms : List (Addr × Obj)} {m : Str → Option Value} {A : Around} {E : Value → Shared → Prop} {d v : Nat} {x : Str} {t u : Tok} {sort : Nat} {Q : Value → Shared → Prop} (r : Rm A d v) (F : Fm w W g0 s0 L ms g s m) (hs : sort < 5)
    (h : ∀ p ks q g' s', Sub g g' → Fm w W g0 s0 L ms g' s' m → IsTup g' p (List.toArray [.ref ks, cpV (cpS sort) q]) → KsOf g' ks (cpS sort) → Q (.ref p) s') : wpAny (model PW w) A (call (.ref 916) [.str x t, .int sort u] []) Q E s := by
  obtain rfl | rfl | rfl | rfl | rfl : sort = 0 ∨ sort = 1 ∨ sort = 2 ∨ sort = 3 ∨ sort = 4 := by omega
  · refine r.weak (x_ks0 F.X fun {p h' tk' q ks dk st ds rf dr u1 u2 u3 u4 t1 n1 t2 t3 t4 q2 q3 n2} hx n1 n2 n3 n4 n5 n6 n7 => ?_)
    obtain ⟨g', hs', F', hnew⟩ := F.ext (tk := tk') hx
    exact h p ks q g' _ hs' F' ⟨_, hnew _ _ n1.1 n1.2, rfl, _, rfl⟩ ⟨dk, _, hnew _ _ n2.1 n2.2, KsD.of_new hnew n3, _, rfl, ds, rf, dr, _, _, _, _, _, _, _, _, _, _, _, _, hnew _ _ n4.1 n4.2, hnew _ _ n5.1 n5.2, hnew _ _ n6.1 n6.2, hnew _ _ n7.1 n7.2⟩
  · refine r.weak (x_ks1 F.X fun {p h' tk' q ks dk st ds rf dr u1 u2 u3 u4 t1 n1 t2 t3 t4 q2 q3 n2} hx n1 n2 n3 n4 n5 n6 n7 => ?_)
    obtain ⟨g', hs', F', hnew⟩ := F.ext (tk := tk') hx
    exact h p ks q g' _ hs' F' ⟨_, hnew _ _ n1.1 n1.2, rfl, _, rfl⟩ ⟨dk, _, hnew _ _ n2.1 n2.2, KsD.of_new hnew n3, _, rfl, ds, rf, dr, _, _, _, _, _, _, _, _, _, _, _, _, hnew _ _ n4.1 n4.2, hnew _ _ n5.1 n5.2, hnew _ _ n6.1 n6.2, hnew _ _ n7.1 n7.2⟩
  · refine r.weak (x_ks2 F.X fun {p h' tk' q ks dk st ds rf dr u1 u2 u3 u4 t1 n1 t2 t3 t4 q2 q3 n2} hx n1 n2 n3 n4 n5 n6 n7 => ?_)
    obtain ⟨g', hs', F', hnew⟩ := F.ext (tk := tk') hx
    exact h p ks q g' _ hs' F' ⟨_, hnew _ _ n1.1 n1.2, rfl, _, rfl⟩ ⟨dk, _, hnew _ _ n2.1 n2.2, KsD.of_new hnew n3, _, rfl, ds, rf, dr, _, _, _, _, _, _, _, _, _, _, _, _, hnew _ _ n4.1 n4.2, hnew _ _ n5.1 n5.2, hnew _ _ n6.1 n6.2, hnew _ _ n7.1 n7.2⟩
  · refine r.weak (x_ks3 F.X fun {p h' tk' q ks dk st ds} hx n1 n2 n3 n4 n5 => ?_)
    obtain ⟨g', hs', F', hnew⟩ := F.ext (tk := tk') hx
    exact h p ks q g' _ hs' F' ⟨_, hnew _ _ n1.1 n1.2, rfl, _, rfl⟩ ⟨dk, _, hnew _ _ n2.1 n2.2, KsD.of_new hnew n3, _, _, rfl, hnew _ _ n4.1 n4.2, hnew _ _ n5.1 n5.2⟩
  · refine r.weak (x_ks4 F.X fun {p h' tk' ks dk} hx n1 n2 n3 => ?_)
    obtain ⟨g', hs', F', hnew⟩ := F.ext (tk := tk') hx
    exact h p ks 0 g' _ hs' F' ⟨_, hnew _ _ n1.1 n1.2, rfl, _, rfl⟩ ⟨dk, _, hnew _ _ n2.1 n2.2, KsD.of_new hnew n3, rfl⟩
def CpAt : Option Value → Option (Option Nat) → Prop
  | none, none => True
  | some v, some cp => ∃ t, v = cpV cp t
  | _, _ => False
def BvOf (g : Heap) (R : Ring) : Option (Option Nat) → Option Value → Prop
  | none, none => True
  | some cp, some v => Rd g v (bookD R cp)
  | _, _ => False
theorem BvOf.keeps {g h : Heap} {R : Ring} (k : Sub g h) : ∀ {b v}, BvOf g R b v → BvOf h R b v
  | none, none, _ => trivial
  | some _, some _, x => Rd.keeps x k
theorem keys_stored (kvs : List (Str × Value)) (x : Str) (v : Value) : (stored kvs x v).map (·.1) = if x ∈ kvs.map (·.1) then kvs.map (·.1) else kvs.map (·.1) ++ [x] := by
  unfold stored
  by_cases h : x ∈ kvs.map (·.1)
  · have hh : (kvs.any fun kv => decide (kv.1 = x)) = true := by
      obtain ⟨p, hp, e⟩ := List.mem_map.mp h
      exact List.any_eq_true.mpr ⟨p, hp, by simpa using e⟩
    rw [if_pos hh, if_pos h, List.map_map]
    refine List.map_congr_left fun p _ => ?_
    simp only [Function.comp]
    split <;> rfl
  · have hh : ¬ (kvs.any fun kv => decide (kv.1 = x)) = true := by
      intro q
      obtain ⟨p, hp, e⟩ := List.any_eq_true.mp q
      exact h (List.mem_map.mpr ⟨p, hp, by simpa using e⟩)
    rw [if_neg hh, if_neg h, List.map_append]; rfl
theorem keys_without (kvs : List (Str × Value)) (x : Str) : (without kvs x).map (·.1) = (kvs.map (·.1)).filter fun k => decide (k ≠ x) := by
  unfold without
  rw [List.filter_map]; rfl
theorem len_stored (kvs : List (Str × Value)) (x : Str) (v : Value) : (stored kvs x v).length ≤ kvs.length + 1 := by
  unfold stored
  split
  · rw [List.length_map]; omega
  · rw [List.length_append]; simp
theorem len_without (kvs : List (Str × Value)) (x : Str) : (without kvs x).length ≤ kvs.length := List.length_filter_le _ _
def put {α : Type} (f : Str → Option α) (x : Str) (v : Option α) : Str → Option α := fun y => if y = x then v else f y
theorem put_eq {α : Type} {f : Str → Option α} {x : Str} {v : Option α} : put f x v x = v := by unfold put; rw [if_pos rfl]
theorem put_ne {α : Type} {f : Str → Option α} {x y : Str} {v : Option α} (h : y ≠ x) : put f x v y = f y := by unfold put; rw [if_neg h]
structure LawD (w : World) (i : Nat) (g : Heap) (osp ocp ofr obk : Obj) (kS kC kF kB : List (Str × Value)) (cps : Str → Option (Option Nat)) : Prop where
  dS : osp.IsDictOf (SK w) kS
  dC : ocp.IsDictOf (SK w) kC
  dF : ofr.IsDictOf (SK w) kF
  dB : obk.IsDictOf (SK w) kB
  zS : kS.length ≤ i
  zC : kC.length ≤ i
  zF : kF.length ≤ i
  zB : kB.length ≤ i
  ks : kS.map (·.1) = kC.map (·.1)
  xy : ∀ x ∈ kC.map (·.1), x = nmk 0 ∨ x = nmk 1
  sp : ∀ x, SpAt g (valueAt kS x) (cps x)
  cp : ∀ x, CpAt (valueAt kC x) (cps x)
  fr : ∀ x cp, cps x = some cp → SpAt g (valueAt kF x) (some cp)
structure LawR (w : World) (i : Nat) (g : Heap) (HA : Nat → Addr) (M sp rg : Addr) (odM : Obj) (R : Ring) (T rl ow H : Addr) (oH : Obj) (kH kB : List (Str × Value)) (tok : Nat → Addr) (b : Str → Option (Option Nat)) : Prop where
  ok : RingOk R
  rg : Rd g (.ref rg) (ringD R)
  md : MdD odM sp (some (.ref T)) (5 + 2 * i)
  tm : IsTm g T rl ow H M
  rl : RgOf g R tok rl
  ow : OwOf g R HA tok ow
  dH : oH.IsDictOf (SK w) kH
  zH : kH.length ≤ i
  bk : ∀ x, HvOf g R HA tok (b x) (valueAt kH x) ∧ BvOf g R (b x) (valueAt kB x)
theorem MdD.mono {o : Obj} {sp : Addr} {tm : Option Value} {b c : Nat} (h : MdD o sp tm b) (hb : b ≤ c) : MdD o sp tm c := by
  obtain ⟨es, n, h1, h2, h3⟩ := h
  exact ⟨es, n, h1, by omega, h3⟩
section
variable {w : World} {i : Nat} {g g' : Heap} {osp ocp ofr obk : Obj} {kS kC kF kB : List (Str × Value)} {cps : Str → Option (Option Nat)}
theorem LawD.keeps (D : LawD w i g osp ocp ofr obk kS kC kF kB cps) (k : Sub g g') : LawD w i g' osp ocp ofr obk kS kC kF kB cps :=
  ⟨D.dS, D.dC, D.dF, D.dB, D.zS, D.zC, D.zF, D.zB, D.ks, D.xy, fun x => (D.sp x).keeps k, D.cp, fun x cp h => (D.fr x cp h).keeps k⟩
theorem LawD.next (D : LawD w i g osp ocp ofr obk kS kC kF kB cps) : LawD w (i + 1) g osp ocp ofr obk kS kC kF kB cps :=
  ⟨D.dS, D.dC, D.dF, D.dB, Nat.le_succ_of_le D.zS, Nat.le_succ_of_le D.zC, Nat.le_succ_of_le D.zF, Nat.le_succ_of_le D.zB, D.ks, D.xy, D.sp, D.cp, D.fr⟩
theorem LawD.book {obk' : Obj} {kB' : List (Str × Value)} (D : LawD w i g osp ocp ofr obk kS kC kF kB cps) (d : obk'.IsDictOf (SK w) kB') (z : kB'.length ≤ i) : LawD w i g osp ocp ofr obk' kS kC kF kB' cps :=
  ⟨D.dS, D.dC, D.dF, d, D.zS, D.zC, D.zF, z, D.ks, D.xy, D.sp, D.cp, D.fr⟩
theorem LawD.lay {osp' ocp' ofr' : Obj} {x : Str} {ks : Addr} {cp : Option Nat} {t : Tok} (D : LawD w i g osp ocp ofr obk kS kC kF kB cps) (hx : x = nmk 0 ∨ x = nmk 1) (hks : KsOf g ks cp) (hc : ∀ c, cp = some c → c ≤ 3)
    (d1 : osp'.IsDictOf (SK w) (stored kS x (.ref ks))) (d2 : ocp'.IsDictOf (SK w) (stored kC x (cpV cp t))) (d3 : ofr'.IsDictOf (SK w) (stored kF x (.ref ks))) :
    LawD w (i + 1) g osp' ocp' ofr' obk (stored kS x (.ref ks)) (stored kC x (cpV cp t)) (stored kF x (.ref ks)) kB (put cps x (some cp)) := by
  have l1 := len_stored kS x (.ref ks)
  have l2 := len_stored kC x (cpV cp t)
  have l3 := len_stored kF x (.ref ks)
  have z1 := D.zS
  have z2 := D.zC
  have z3 := D.zF
  have z4 := D.zB
  refine ⟨d1, d2, d3, D.dB, by omega, by omega, by omega, by omega, ?_, ?_, fun y => ?_, fun y => ?_, fun y c h => ?_⟩
  · rw [keys_stored, keys_stored, D.ks]
  · rw [keys_stored]
    intro y hy
    split at hy
    · exact D.xy y hy
    · rcases List.mem_append.mp hy with hy | hy
      · exact D.xy y hy
      · rw [List.mem_singleton.mp hy]; exact hx
  · by_cases e : y = x
    · subst e
      rw [valueAt_stored, put_eq]
      exact ⟨ks, rfl, hks, hc⟩
    · rw [valueAt_stored_ne _ _ e, put_ne e]; exact D.sp y
  · by_cases e : y = x
    · subst e
      rw [valueAt_stored, put_eq]
      exact ⟨t, rfl⟩
    · rw [valueAt_stored_ne _ _ e, put_ne e]; exact D.cp y
  · by_cases e : y = x
    · subst e
      rw [put_eq] at h
      cases h
      rw [valueAt_stored]
      exact ⟨ks, rfl, hks, hc⟩
    · rw [put_ne e] at h
      rw [valueAt_stored_ne _ _ e]; exact D.fr y c h
theorem LawD.pop {osp' ocp' : Obj} {x : Str} (D : LawD w i g osp ocp ofr obk kS kC kF kB cps) (d1 : osp'.IsDictOf (SK w) (without kS x)) (d2 : ocp'.IsDictOf (SK w) (without kC x)) :
    LawD w (i + 1) g osp' ocp' ofr obk (without kS x) (without kC x) kF kB (put cps x none) := by
  have l1 := len_without kS x
  have l2 := len_without kC x
  have z1 := D.zS
  have z2 := D.zC
  have z3 := D.zF
  have z4 := D.zB
  refine ⟨d1, d2, D.dF, D.dB, by omega, by omega, by omega, by omega, ?_, ?_, fun y => ?_, fun y => ?_, fun y c h => ?_⟩
  · rw [keys_without, keys_without, D.ks]
  · rw [keys_without]
    intro y hy
    exact D.xy y (List.mem_filter.mp hy).1
  · by_cases e : y = x
    · subst e
      rw [valueAt_without, put_eq]; trivial
    · rw [valueAt_without_ne _ e, put_ne e]; exact D.sp y
  · by_cases e : y = x
    · subst e
      rw [valueAt_without, put_eq]; trivial
    · rw [valueAt_without_ne _ e, put_ne e]; exact D.cp y
  · by_cases e : y = x
    · subst e
      rw [put_eq] at h
      cases h
    · rw [put_ne e] at h
      exact D.fr y c h
end
section
variable {w : World} {i : Nat} {g g' : Heap} {HA : Nat → Addr} {M sp rg : Addr} {odM : Obj} {R : Ring} {T rl ow H : Addr} {oH : Obj} {kH kB : List (Str × Value)} {tok : Nat → Addr} {b : Str → Option (Option Nat)}
theorem LawR.keeps (Z : LawR w i g HA M sp rg odM R T rl ow H oH kH kB tok b) (k : Sub g g') : LawR w i g' HA M sp rg odM R T rl ow H oH kH kB tok b :=
  ⟨Z.ok, Z.rg.keeps k, Z.md, Z.tm.keeps k, Z.rl.keeps k, Z.ow.keeps k, Z.dH, Z.zH, fun x => ⟨HvOf.keeps k (Z.bk x).1, (Z.bk x).2.keeps k⟩⟩
theorem LawR.next (Z : LawR w i g HA M sp rg odM R T rl ow H oH kH kB tok b) : LawR w (i + 1) g HA M sp rg odM R T rl ow H oH kH kB tok b :=
  ⟨Z.ok, Z.rg, Z.md.mono (by omega), Z.tm, Z.rl, Z.ow, Z.dH, Nat.le_succ_of_le Z.zH, Z.bk⟩
theorem LawR.lay {oH' : Obj} {x : Str} {v u : Value} {cp : Option Nat} (Z : LawR w i g HA M sp rg odM R T rl ow H oH kH kB tok b) (d : oH'.IsDictOf (SK w) (stored kH x v)) (hv : RvOf g R HA tok cp v) (hu : Rd g u (bookD R cp)) :
    LawR w (i + 1) g HA M sp rg odM R T rl ow H oH' (stored kH x v) (stored kB x u) tok (put b x (some cp)) := by
  have l := len_stored kH x v
  have z := Z.zH
  refine ⟨Z.ok, Z.rg, Z.md.mono (by omega), Z.tm, Z.rl, Z.ow, d, by omega, fun y => ?_⟩
  by_cases e : y = x
  · subst e
    rw [valueAt_stored, valueAt_stored, put_eq]
    exact ⟨hv, hu⟩
  · rw [valueAt_stored_ne _ _ e, valueAt_stored_ne _ _ e, put_ne e]; exact Z.bk y
theorem LawR.pop {oH' : Obj} {x : Str} (Z : LawR w i g HA M sp rg odM R T rl ow H oH kH kB tok b) (d : oH'.IsDictOf (SK w) (without kH x)) :
    LawR w (i + 1) g HA M sp rg odM R T rl ow H oH' (without kH x) (without kB x) tok (put b x none) := by
  have l := len_without kH x
  have z := Z.zH
  refine ⟨Z.ok, Z.rg, Z.md.mono (by omega), Z.tm, Z.rl, Z.ow, d, by omega, fun y => ?_⟩
  by_cases e : y = x
  · subst e
    rw [valueAt_without, valueAt_without, put_eq]
    exact ⟨trivial, trivial⟩
  · rw [valueAt_without_ne _ e, valueAt_without_ne _ e, put_ne e]; exact Z.bk y
end
def IsN (g : Heap) (nl : Addr) (ns : Nat → Int) : Prop := ∃ its, g.IsList nl its ∧ its.size = 38 ∧ ∀ k, k < 38 → ∃ t, its[k]? = some (.int (ns k) t)
theorem IsN.keeps {g h : Heap} {nl ns} (x : IsN g nl ns) (k : Sub g h) : IsN h nl ns := let ⟨its, a, b⟩ := x; ⟨its, isl a k, b⟩
structure LawS (g : Heap) (HA : Nat → Addr) (ns : Nat → Int) (M dM nl hl : Addr) : Prop where
  inst : g.get? M = some (instO 159 dM)
  n : IsN g nl ns
  hl : HlOf g HA hl
  hs : HsOf g HA
theorem LawS.keeps {g h : Heap} {HA ns M dM nl hl} (x : LawS g HA ns M dM nl hl) (k : Sub g h) : LawS h HA ns M dM nl hl := ⟨k _ _ x.inst, x.n.keeps k, isl x.hl k, x.hs.keeps k⟩
structure LawM (m : Str → Option Value) (M nl hl sp cp fr bk : Addr) : Prop where
  me : m "meta" = some (.ref M)
  n : m "n" = some (.ref nl)
  hl : m "hosts" = some (.ref hl)
  sp : m "spaces" = some (.ref sp)
  cp : m "copies" = some (.ref cp)
  fr : m "fresh" = some (.ref fr)
  bk : m "book" = some (.ref bk)
section
variable {w : World} {W : List Addr} {g0 g : Heap} {s0 s : Shared} {L : Addr} {m : Str → Option Value} {A : Around} {E : Value → Shared → Prop} {HA : Nat → Addr} {ns : Nat → Int} {M dM nl hl sp cp fr bk rg T rl ow H : Addr} {odM osp ocp ofr obk oH : Obj} {kS kC kF kB kH : List (Str × Value)} {cps b : Str → Option (Option Nat)} {i : Nat} {R : Ring} {tok : Nat → Addr} {tl : List (Addr × Obj)} {x : Str} {t : Tok}
theorem Fm.ne01 {a b : Addr} {oa ob : Obj} {tl : List (Addr × Obj)} (F : Fm w W g0 s0 L ((a, oa) :: (b, ob) :: tl) g s m) : a ≠ b := fun e => by
  have nd := F.nd
  simp only [List.map_cons, List.nodup_cons] at nd
  exact nd.1 (e ▸ .head _)
theorem Fm.ne02 {a b c : Addr} {oa ob oc : Obj} {tl : List (Addr × Obj)} (F : Fm w W g0 s0 L ((a, oa) :: (b, ob) :: (c, oc) :: tl) g s m) : a ≠ c := fun e => by
  have nd := F.nd
  simp only [List.map_cons, List.nodup_cons] at nd
  exact nd.1 (e ▸ .tail _ (.head _))
theorem Fm.ne12 {a b c : Addr} {oa ob oc : Obj} {tl : List (Addr × Obj)} (F : Fm w W g0 s0 L ((a, oa) :: (b, ob) :: (c, oc) :: tl) g s m) : b ≠ c := fun e => by
  have nd := F.nd
  simp only [List.map_cons, List.nodup_cons] at nd
  exact nd.2.1 (e ▸ .head _)
theorem meta3 (F : Fm w W g0 s0 L ((H, oH) :: (dM, odM) :: (sp, osp) :: tl) g s m) (hi : g.get? M = some (instO 159 dM)) (hl : lookIn (Str.ofString "keyspaces") odM = some (some (.ref sp))) : MetaAt g s.heap M dM sp odM osp :=
  ⟨hi, F.turnable (.tail _ (.head _)), (F.mu _ (.tail _ (.head _))).2.1, F.turnable (.tail _ (.tail _ (.head _))), (F.mu _ (.tail _ (.tail _ (.head _)))).2.1, F.ne12, hl⟩
theorem meta2 (F : Fm w W g0 s0 L ((dM, odM) :: (sp, osp) :: tl) g s m) (hi : g.get? M = some (instO 159 dM)) (hl : lookIn (Str.ofString "keyspaces") odM = some (some (.ref sp))) : MetaAt g s.heap M dM sp odM osp :=
  ⟨hi, F.turnable (.head _), (F.mu _ (.head _)).2.1, F.turnable (.tail _ (.head _)), (F.mu _ (.tail _ (.head _))).2.1, F.ne01, hl⟩
theorem three_of {g' : Heap} {s' : Shared} {o' : Obj} (b1 : s'.heap.get? H = some o') (b2 : s'.heap.get? dM = some odM) (b3 : s'.heap.get? sp = some osp) (b4 : g'.get? H = none) (b5 : g'.get? dM = none) (b6 : g'.get? sp = none) :
    ∀ p ∈ [(H, o'), (dM, odM), (sp, osp)], s'.heap.get? p.1 = some p.2 ∧ g'.get? p.1 = none := by
  intro p hp
  simp only [List.mem_cons, List.not_mem_nil, or_false] at hp
  rcases hp with rfl | rfl | rfl
  · exact ⟨b1, b4⟩
  · exact ⟨b2, b5⟩
  · exact ⟨b3, b6⟩
theorem q_updJ {f : Addr} {Q : Value → Shared → Prop} (r : Rm A 13 90) (F : Fm w W g0 s0 L ((H, oH) :: (dM, odM) :: (sp, osp) :: tl) g s m) (D : LawD w i g osp ocp ofr obk kS kC kF kB cps) (Z : LawR w i g HA M sp rg odM R T rl ow H oH kH kB tok b) (S0 : LawS g HA ns M dM nl hl) (hz : i ≤ 100) (hf : f = 128 ∨ f = 135)
    (h : ∀ g' s' oH' kH', Sub g g' → Fm w W g0 s0 L ((H, oH') :: (dM, odM) :: (sp, osp) :: tl) g' s' m → oH'.IsDictOf (SK w) kH' →
      ((kH' = kH ∧ (cps x = none ∨ hasBook (b x) = false)) ∨ (∃ v cp, hasBook (b x) = true ∧ cps x = some cp ∧ kH' = stored kH x v ∧ RvOf g' R HA tok cp v)) → Q .none s') :
    wpAny (model PW w) A (call (.ref f) [.ref M, .str x t] []) Q E s := by
  have hisn := hv_none (Z.bk x).1
  have fin : ∀ g' s' o' kvs', StepW [H, dM, sp] g s g' s' → s'.heap.get? H = some o' → s'.heap.get? dM = some odM → s'.heap.get? sp = some osp → g'.get? H = none → g'.get? dM = none → g'.get? sp = none → o'.IsDictOf (SK w) kvs' →
      ((kvs' = kH ∧ (cps x = none ∨ ((valueAt kH x).getD .none == .none) = true)) ∨ (∃ v cp, ((valueAt kH x).getD .none == .none) = false ∧ cps x = some cp ∧ kvs' = stored kH x v ∧ RvOf g' R HA tok cp v)) → Q .none s' := by
    intro g' s' o' kvs' S b1 b2 b3 b4 b5 b6 b7 b8
    refine h g' s' o' kvs' S.sub (Fm.calledS (msV := [(H, oH), (dM, odM), (sp, osp)]) (msV' := [(H, o'), (dM, odM), (sp, osp)]) F S (by simp) (three_of b1 b2 b3 b4 b5 b6) rfl) b7 ?_
    rw [hisn] at b8
    rcases b8 with ⟨e, e2⟩ | ⟨v, cp, e1, e2, e3, e4⟩
    · exact .inl ⟨e, e2.imp id fun q => by simpa using q⟩
    · exact .inr ⟨v, cp, by simpa using e1, e2, e3, e4⟩
  have z := Z.zH
  rcases hf with rfl | rfl
  · exact c_added r F.gd F.step.keep Z.tm (meta3 F S0.inst Z.md.sp) Z.md.tm (F.turnable (.head _)) (F.mu _ (.head _)).2.1 ⟨F.ne01, F.ne02⟩ Z.dH D.dS (by omega) (D.sp x) S0.hs Z.rl Z.ow Z.ok fin
  · exact c_updated r F.gd F.step.keep Z.tm (meta3 F S0.inst Z.md.sp) Z.md.tm (F.turnable (.head _)) (F.mu _ (.head _)).2.1 ⟨F.ne01, F.ne02⟩ Z.dH D.dS (by omega) (D.sp x) S0.hs Z.rl Z.ow Z.ok fin
theorem q_remJ {Q : Value → Shared → Prop} (r : Rm A 13 90) (F : Fm w W g0 s0 L ((H, oH) :: (dM, odM) :: (sp, osp) :: tl) g s m) (Z : LawR w i g HA M sp rg odM R T rl ow H oH kH kB tok b) (S0 : LawS g HA ns M dM nl hl) (hz : i ≤ 100)
    (h : ∀ g' s' oH', Sub g g' → Fm w W g0 s0 L ((H, oH') :: (dM, odM) :: (sp, osp) :: tl) g' s' m → oH'.IsDictOf (SK w) (without kH x) → Q .none s') :
    wpAny (model PW w) A (call (.ref 142) [.ref M, .str x t] []) Q E s := by
  have z := Z.zH
  refine c_removed r F.gd F.step.keep Z.tm (meta3 F S0.inst Z.md.sp) Z.md.tm (F.turnable (.head _)) (F.mu _ (.head _)).2.1 F.ne01 Z.dH (by omega) fun g' s' o' S b1 b2 b3 b4 b5 => ?_
  refine h g' s' o' S.sub (Fm.calledS (msV := [(H, oH), (dM, odM)]) (msV' := [(H, o'), (dM, odM)]) (msR := (sp, osp) :: tl) F S (by simp) ?_ rfl) b5
  intro p hp
  simp only [List.mem_cons, List.not_mem_nil, or_false] at hp
  rcases hp with rfl | rfl
  · exact ⟨b1, b3⟩
  · exact ⟨b2, b4⟩
theorem q_door0 {f : Addr} {Q : Value → Shared → Prop} {b : Nat} (r : Rm A 13 90) (F : Fm w W g0 s0 L ((dM, odM) :: (sp, osp) :: tl) g s m) (hd : MdD odM sp (some .none) b) (S0 : LawS g HA ns M dM nl hl) (hf : f = 128 ∨ f = 135 ∨ f = 142)
    (h : ∀ g' s', Sub g g' → Fm w W g0 s0 L ((dM, odM) :: (sp, osp) :: tl) g' s' m → Q .none s') : wpAny (model PW w) A (call (.ref f) [.ref M, .str x t] []) Q E s := by
  have fin : ∀ g' s', StepW [dM] g s g' s' → s'.heap.get? dM = some odM → g'.get? dM = none → Q .none s' := fun g' s' S b1 b2 =>
    h g' s' S.sub (Fm.calledS (msV := [(dM, odM)]) (msV' := [(dM, odM)]) (msR := (sp, osp) :: tl) F S (by simp) (fun p hp => by obtain rfl := List.mem_singleton.mp hp; exact ⟨b1, b2⟩) rfl)
  rcases hf with rfl | rfl | rfl
  · exact c_added0 r F.gd F.step.keep (meta2 F S0.inst hd.sp) hd.tm fin
  · exact c_updated0 r F.gd F.step.keep (meta2 F S0.inst hd.sp) hd.tm fin
  · exact c_removed0 r F.gd F.step.keep (meta2 F S0.inst hd.sp) hd.tm fin
theorem q_grJ {Q : Value → Shared → Prop} {tk0 : Addr} {u : Int} (r : Rm A 14 100) (F : Fm w W g0 s0 L ((H, oH) :: (dM, odM) :: (sp, osp) :: tl) g s m) (D : LawD w i g osp ocp ofr obk kS kC kF kB cps) {kB' : List (Str × Value)} (Z : LawR w i g HA M sp rg odM R T rl ow H oH kH kB' tok b) (S0 : LawS g HA ns M dM nl hl) (hz : i ≤ 100) (hx : Tk g tk0 u)
    (h : ∀ l g' s' oH' kH' bo', Sub g g' → Fm w W g0 s0 L ((H, oH') :: (dM, odM) :: (sp, osp) :: tl) g' s' m → oH'.IsDictOf (SK w) kH' →
      ((kH' = kH ∧ bo' = b x ∧ (cps x = none ∨ hasBook (b x) = true)) ∨ (∃ v cp, hasBook (b x) = false ∧ cps x = some cp ∧ kH' = stored kH x v ∧ bo' = some cp ∧ RvOf g' R HA tok cp v)) → AnsOf g' R HA u l bo' → Q (.ref l) s') :
    wpAny (model PW w) A (call (.ref 528) [.ref T, .str x t, .ref tk0] []) Q E s := by
  have z := Z.zH
  refine c_getrep (bo := b x) (cpo := cps x) r F.gd F.step.keep Z.tm (meta3 F S0.inst Z.md.sp) (F.turnable (.head _)) (F.mu _ (.head _)).2.1 ⟨F.ne01, F.ne02⟩ Z.dH D.dS (by omega) (D.sp x) (Z.bk x).1 S0.hs Z.rl Z.ow Z.ok hx fun l g' s' o' kvs' bo' S b1 b2 b3 b4 b5 b6 b7 b8 b9 => ?_
  refine h l g' s' o' kvs' bo' S.sub (Fm.calledS (msV := [(H, oH), (dM, odM), (sp, osp)]) (msV' := [(H, o'), (dM, odM), (sp, osp)]) F S (by simp) (three_of b1 b2 b3 b4 b5 b6) rfl) b7 ?_ b9
  have hb : (∃ c, b x = some (some c)) ↔ hasBook (b x) = true := by
    rcases b x with _ | _ | c <;> simp [hasBook]
  rcases b8 with ⟨e1, e2, e3⟩ | ⟨v, cp, e1, e2, e3, e4, e5⟩
  · exact .inl ⟨e1, e2, e3.imp id hb.mp⟩
  · refine .inr ⟨v, cp, ?_, e2, e3, e4, e5⟩
    rw [Bool.eq_false_iff]
    intro q
    obtain ⟨c, q⟩ := hb.mpr q
    exact e1 c q
end
section
variable {w : World} {W : List Addr} {g0 g : Heap} {s0 s : Shared} {L : Addr} {ms : List (Addr × Obj)} {m : Str → Option Value} {A : Around} {E : Value → Shared → Prop}
theorem comp_core {elt target iter : Expr} {ifs : List Expr} {scope : Scope} {pos : Pos} {env : Env} {oI : Obj} {sB : Shared} {tk : Nat} {cl : List (Str × Addr)} (RR : Value → Addr → Result → Shared → Prop)
    (FB : Fm w W g0 s0 L ms g sB m) (hf : oI.isFreed = false)
    (hkind : scope.kind = .function) (hcells : ∀ x ∈ scope.names, x.2 ≠ .cell)
    (hself : ∀ (s1 : Shared) (P : Value → Shared → Prop), s1.heap.get? sB.heap.objs.size = some oI → P (.ref sB.heap.objs.size) s1 → wpAny (model PW w) A (pyIter (.ref sB.heap.objs.size)) P NE s1)
    (loop : ∀ C l s1, sB.heap.get? sB.heap.objs.size = none → sB.heap.get? C = none → sB.heap.get? l = none → C ≠ l → Fm w [] g sB C [(l, listOf #[] 0), (sB.heap.objs.size, oI)] g s1 (fun _ => none) →
      codeAny (model PW w) A (.compLoop (.ListComp elt [⟨target, iter, ifs, 0⟩] scope pos) 0 (.ref sB.heap.objs.size) (.ref l) (compEnvC scope cl C env)) (RR (.ref l) C) s1) :
    wpAny (model PW w) A (newList []) (fun acc s₃ => wpAny (model PW w) A (newFunctionEnv scope env.globals cl [] env.qual none .none (some env)) (fun cenv s₄ =>
        codeAny (model PW w) A (.compStart (.ListComp elt [⟨target, iter, ifs, 0⟩] scope pos) 0 (.ref sB.heap.objs.size) acc { cenv with scope := relabel scope env }) (RR acc cenv.locals) s₄) E s₃) E { sB with heap := sB.heap.push oI, toks := tk } := by
  refine wpAny_newObj_type ?_ (by show (#[] : Array Value).size ≤ sizeLine; rw [sizeLine_eq]; simp)
  refine wpAny_newFunctionEnv hcells (by simp) (fun h4 hns hs4 => ?_) hkind
  have fr : sB.heap.get? sB.heap.objs.size = none := Heap.get?_none_of_le (Nat.le_refl _)
  have z1 : (sB.heap.push oI).objs.size = sB.heap.objs.size + 1 := Heap.size_push ..
  have z2 : ((sB.heap.push oI).push (listOf #[] 0)).objs.size = sB.heap.objs.size + 1 + 1 := by rw [Heap.size_push, z1]
  have sub1 : Sub sB.heap (sB.heap.push oI) := fun b o e => Heap.get?_push_of_some _ e
  have sub3 : Sub (sB.heap.push oI) ((sB.heap.push oI).push (listOf #[] 0)) := fun b o e => Heap.get?_push_of_some _ e
  have sub4 : Sub ((sB.heap.push oI).push (listOf #[] 0)) h4 := fun b o e => (hs4.2 b (Nat.ne_of_lt (Heap.lt_size e))).trans (Heap.get?_push_of_some _ e)
  have sub := sub1.trans (sub3.trans sub4)
  have el : h4.get? (sB.heap.objs.size + 1) = some (listOf #[] 0) := sub4 _ _ (by rw [← z1]; exact Heap.get?_push_size _ rfl)
  have eI : h4.get? sB.heap.objs.size = some oI := sub4 _ _ (sub3 _ _ (Heap.get?_push_size _ hf))
  have none_of : ∀ b, sB.heap.objs.size ≤ b → sB.heap.get? b = none := fun b hb => Heap.get?_none_of_le hb
  have gn : ∀ b, sB.heap.objs.size ≤ b → g.get? b = none := fun b hb => by
    cases q : g.get? b with
    | none => rfl
    | some o => have := FB.step.keep _ _ q; rw [none_of b hb] at this; cases this
  have F4 : Fm w [] g sB (sB.heap.objs.size + 1 + 1) [(sB.heap.objs.size + 1, listOf #[] 0), (sB.heap.objs.size, oI)] g ⟨h4, sB.gens, sB.drawn, tk, sB.os⟩ (fun _ => none) := by
    refine ⟨⟨rfl, rfl, rfl, fun b o _ e => sub b o e, fun b o e => ⟨o, sub b o e⟩, Sub.refl _, fun b o e => sub b o (FB.step.keep b o e), fun _ _ e => .inl e⟩, FB.gd, z2 ▸ hns, ⟨none_of _ (Nat.le_succ_of_le (Nat.le_succ _)), Nat.le_succ_of_le (Nat.le_succ _), FB.gd, FB.step.keep⟩, gn _ (Nat.le_succ_of_le (Nat.le_succ _)), fun p hp => ?_, by simp⟩
    simp only [List.mem_cons, List.not_mem_nil, or_false] at hp
    rcases hp with rfl | rfl
    · exact ⟨el, gn _ (by omega), Nat.ne_of_lt (Nat.lt_succ_self _), .inl (none_of _ (by omega))⟩
    · exact ⟨eI, gn _ (Nat.le_refl _), Nat.ne_of_lt (by omega), .inl fr⟩
  have key := loop (sB.heap.objs.size + 1 + 1) (sB.heap.objs.size + 1) _ fr (none_of _ (by omega)) (none_of _ (by omega)) (Nat.succ_ne_self _) F4
  show codeAny (model PW w) A (.compStart (.ListComp elt [⟨target, iter, ifs, 0⟩] scope pos) 0 (.ref sB.heap.objs.size) (.ref (sB.heap.push oI).objs.size) (compEnvC scope cl ((sB.heap.push oI).push (listOf #[] 0)).objs.size env)) (RR (.ref (sB.heap.push oI).objs.size) ((sB.heap.push oI).push (listOf #[] 0)).objs.size) ⟨h4, sB.gens, sB.drawn, tk, sB.os⟩
  rw [z2, z1]
  exact codeAny_compStart_list key (wpAny_mono (hself _ (fun v s' => codeAny (model PW w) A (.compLoop (.ListComp elt [⟨target, iter, ifs, 0⟩] scope pos) 0 v (.ref (sB.heap.objs.size + 1)) (compEnvC scope cl (sB.heap.objs.size + 1 + 1) env)) _ s') eI key) (fun _ _ z => z) fun _ _ z => z.elim)
theorem AssignComp_ {elt target iter : Expr} {ifs : List Expr} {scope : Scope} {pos : Pos} {env : Env} {y : Str} {py spos : Pos} {Q : Flow → Shared → Prop} (cl : List (Str × Addr))
    (h : wpAny (model PW w) A (eval iter env) (fun x s₁ => wpAny (model PW w) A (pyIter x) (fun it s₂ => wpAny (model PW w) A (newList []) (fun acc s₃ => wpAny (model PW w) A (newFunctionEnv scope env.globals cl [] env.qual none .none (some env)) (fun cenv s₄ =>
        codeAny (model PW w) A (.compStart (.ListComp elt [⟨target, iter, ifs, 0⟩] scope pos) 0 it acc { cenv with scope := relabel scope env }) (compPost (model PW w) A E (some (assign (.Name y py) env)) (fun _ s' => Q .next s') acc cenv.locals) s₄) E s₃) E s₂) E s₁) E s)
    (hsw : swapsWith (.ListComp elt [⟨target, iter, ifs, 0⟩] scope pos) (some (.Name y py)) spos.line env = pure true := by rfl)
    (hs : ∀ x, foldedSetIterable iter env x = pure x := by intro _; rfl) (hclos : closureFor scope env = pure cl := by rfl) (hkind : scope.kind = .function := by rfl) (hnames : ∀ x ∈ scope.names, x.2 = .local → scope.names.lookup x.1 = some .local := by decide) :
    wpAny (model PW w) A (exec (.Assign [.Name y py] (.ListComp elt [⟨target, iter, ifs, 0⟩] scope pos) spos) env) Q E s := by
  rw [exec_Assign_Name_used _ _ _ _ hsw]
  refine wpAny_bind (wpAny_standAt (wpAny_bind ?_))
  show wpAny _ A (do let _ ← comprehension (.ListComp elt [⟨target, iter, ifs, 0⟩] scope pos) scope env _ (newList []) false (eval iter env) (some (assign (.Name y py) env))) _ _ s
  refine wpAny_bind (wpAny_mono (wpAny_comprehension_free (use := some (assign (.Name y py) env)) (Q := fun _ s' => Q .next s') rfl hs hclos hkind hnames h) (fun _ s' hq => wpAny_pure (wpAny_pure hq)) fun _ _ e => e)
theorem comp_runU {elt target iter : Expr} {ifs : List Expr} {scope : Scope} {pos : Pos} {env : Env} {oI : Obj} {sB : Shared} {tk : Nat} {cl : List (Str × Addr)} {y : Str} {py : Pos} {Q : Shared → Prop} (Post : Array Value → Heap → Prop)
    (FB : Fm w W g0 s0 L ms g sB m) (hf : oI.isFreed = false) (ea : EnvAt env L) (hly : env.kindOf y = some .local)
    (hkind : scope.kind = .function) (hcells : ∀ x ∈ scope.names, x.2 ≠ .cell)
    (hself : ∀ (s1 : Shared) (P : Value → Shared → Prop), s1.heap.get? sB.heap.objs.size = some oI → P (.ref sB.heap.objs.size) s1 → wpAny (model PW w) A (pyIter (.ref sB.heap.objs.size)) P NE s1)
    (loop : ∀ C l s1 (R : Result → Shared → Prop), sB.heap.get? sB.heap.objs.size = none → Fm w [] g sB C [(l, listOf #[] 0), (sB.heap.objs.size, oI)] g s1 (fun _ => none) →
      (∀ its n g' s2 m2, Fm w [] g sB C [(l, listOf its n)] g' s2 m2 → Post its g' → R (.ok .next) s2) →
      codeAny (model PW w) A (.compLoop (.ListComp elt [⟨target, iter, ifs, 0⟩] scope pos) 0 (.ref sB.heap.objs.size) (.ref l) (compEnvC scope cl C env)) R s1)
    (h : ∀ l its n g' s', Sub g g' → Fm w W g0 s0 L ((l, listOf its n) :: ms) g' s' (fun z => if z = y then some (.ref l) else m z) → s0.heap.get? l = none → Post its g' → Q s') :
    wpAny (model PW w) A (newList []) (fun acc s₃ => wpAny (model PW w) A (newFunctionEnv scope env.globals cl [] env.qual none .none (some env)) (fun cenv s₄ =>
        codeAny (model PW w) A (.compStart (.ListComp elt [⟨target, iter, ifs, 0⟩] scope pos) 0 (.ref sB.heap.objs.size) acc { cenv with scope := relabel scope env }) (compPost (model PW w) A E (some (assign (.Name y py) env)) (fun _ s' => Q s') acc cenv.locals) s₄) E s₃) E { sB with heap := sB.heap.push oI, toks := tk } := by
  refine comp_core (RR := fun acc C => compPost (model PW w) A E (some (assign (.Name y py) env)) (fun _ s' => Q s') acc C) FB hf hkind hcells hself fun C l s1 frI frC frl hCl F1 => ?_
  refine loop C l s1 _ frI F1 fun its n g' s2 m2 F2 post => ?_
  have ns2 := F2.ns
  obtain ⟨oC, x1, x2, eC, rC⟩ := ns2
  have zero : ∀ a, sB.heap.get? a = none → s0.heap.get? a = none := fun a ha => by
    cases q : s0.heap.get? a with
    | none => rfl
    | some o => obtain ⟨o', e'⟩ := FB.step.live _ _ q; rw [ha] at e'; cases e'
  have F3 : Fm w W g0 s0 L ((C, oC) :: (l, listOf its n) :: ms) g' s2 m := by
    refine FB.calledW F2.step (by simp) _ (fun p hp => ?_) ?_
    · rcases List.mem_cons.mp hp with rfl | hp
      · exact ⟨eC, F2.gL, .inr frC⟩
      · rcases List.mem_cons.mp hp with rfl | hp
        · exact ⟨F2.turnable (.head _), (F2.mu _ (.head _)).2.1, .inr frl⟩
        · have M := FB.mu p hp
          refine ⟨F2.step.old _ _ (by simp) M.1, ?_, .inl (List.mem_map.mpr ⟨p, hp, rfl⟩)⟩
          cases z : g'.get? p.1 with
          | none => rfl
          | some o2 =>
            rcases F2.step.frs _ _ z with q | q
            · rw [M.2.1] at q; cases q
            · rw [M.1] at q; cases q
    · have nin : ∀ a, sB.heap.get? a = none → a ∉ ms.map (·.1) := fun a ha q => by
        obtain ⟨p, hp, e⟩ := List.mem_map.mp q
        have := (FB.mu p hp).1
        rw [e, ha] at this; cases this
      simp only [List.map_cons, List.nodup_cons, List.mem_cons, not_or]
      exact ⟨⟨hCl, nin C frC⟩, nin l frl, FB.nd⟩
  show wpAny _ A (assign (.Name y py) env (.ref l)) _ E s2
  refine wpAny_assign_Name (e_st ea F3 (fun s4 F4 => ?_) hly)
  refine ⟨m2, ⟨oC, x1, x2, F4.turnable (.head _), rC⟩, fun h' hsb => ?_⟩
  exact h l its n g' _ F2.step.sub (F4.lost (tk := s4.toks) hsb.extBut (zero C frC)) (zero l frl) post
end
section
variable {w : World} {W : List Addr} {g0 g : Heap} {s0 s : Shared} {L : Addr} {m : Str → Option Value} {A : Around} {E : Value → Shared → Prop} {HA : Nat → Addr} {M dM sp rw : Addr} {odM : Obj} {tl : List (Addr × Obj)} {R : Ring} {tm : Option Value} {b : Nat} {t : Tok}
theorem q_rtmJ {Q : Value → Shared → Prop} (r : Rm A 5 50) (F : Fm w W g0 s0 L ((dM, odM) :: tl) g s m) (hM : g.get? M = some (instO 159 dM)) (hd : MdD odM sp tm b) (hb : b ≤ 90) (hrw : RowsOf g R HA rw) (hH : HsOf g HA) (ok : RingOk R)
    (h : ∀ T rl ow H tok g' s' odM', Sub g g' → Fm w W g0 s0 L ((H, emptyD) :: (dM, odM') :: tl) g' s' m → MdD odM' sp (some (.ref T)) (b + 2) → IsTm g' T rl ow H M → RgOf g' R tok rl → OwOf g' R HA tok ow → Q .none s') :
    wpAny (model PW w) A (call (.ref 149) [.ref M, .str (Str.ofString "Murmur3Partitioner") t, .ref rw] []) Q E s := by
  have nd := F.nd
  rw [List.map_cons, List.nodup_cons] at nd
  refine c_rtm r F.gd F.step.keep hM (F.turnable (.head _)) (F.mu _ (.head _)).2.1 hd hb hrw hH ok fun T rl ow H tok g' s' odM' S b1 b2 hd' hT b3 b4 b5 hRg hOw => ?_
  refine h T rl ow H tok g' s' odM' S.sub (F.calledW S (by simp) ((H, emptyD) :: (dM, odM') :: tl) (fun p hp => ?_) ?_) hd' hT hRg hOw
  · rcases List.mem_cons.mp hp with rfl | hp
    · exact ⟨b3, b4, .inr b5⟩
    rcases List.mem_cons.mp hp with rfl | hp
    · exact ⟨b1, b2, .inl (by simp)⟩
    have M3 := F.mu _ (.tail _ hp)
    have ne : p.1 ≠ dM := fun e => nd.1 (e ▸ List.mem_map.mpr ⟨p, hp, rfl⟩)
    refine ⟨S.old _ _ (by simpa using ne) M3.1, ?_, .inl (List.mem_map.mpr ⟨p, .tail _ hp, rfl⟩)⟩
    cases q : g'.get? p.1 with
    | none => rfl
    | some o =>
      rcases S.frs _ _ q with z | z
      · rw [M3.2.1] at z; cases z
      · rw [M3.1] at z; cases z
  · rw [List.map_cons, List.nodup_cons]
    refine ⟨fun q => ?_, F.nd⟩
    obtain ⟨p, hp, e⟩ := List.mem_map.mp q
    have e : p.1 = H := e
    rcases List.mem_cons.mp hp with rfl | hp
    · have := F.turnable (.head _)
      rw [show (dM, odM').1 = dM from rfl] at e
      rw [show (dM, odM).1 = dM from rfl, e, b5] at this; cases this
    · have := F.turnable (.tail _ hp)
      rw [e, b5] at this; cases this
theorem q_rtm0J {Q : Value → Shared → Prop} {rv : Value} (r : Rm A 2 30) (F : Fm w W g0 s0 L ((dM, odM) :: tl) g s m) (hM : g.get? M = some (instO 159 dM)) (hd : MdD odM sp tm b) (hb : b ≤ 90)
    (h : ∀ g' s' odM', Sub g g' → Fm w W g0 s0 L ((dM, odM') :: tl) g' s' m → MdD odM' sp (some .none) (b + 2) → Q .none s') :
    wpAny (model PW w) A (call (.ref 149) [.ref M, .str (Str.ofString "Other") t, rv] []) Q E s := by
  refine c_rtm0 r F.gd F.step.keep hM (F.turnable (.head _)) (F.mu _ (.head _)).2.1 hd hb fun g' s' odM' S b1 b2 hd' => ?_
  exact h g' s' odM' S.sub (Fm.calledS (msV := [(dM, odM)]) (msV' := [(dM, odM')]) (msR := tl) F S (by simp) (fun p hp => by obtain rfl := List.mem_singleton.mp hp; exact ⟨b1, b2⟩) rfl) hd'
end
inductive Stp where
  | tl | bd | el
def bodyOf : Stmt → List Stmt
  | .If _ b _ _ => b
  | .For _ _ b _ _ => b
  | _ => []
def elseOf : Stmt → List Stmt
  | .If _ _ o _ => o
  | _ => []
def atP : List Stmt → List Stp → List Stmt
  | b, [] => b
  | _ :: l, .tl :: r => atP l r
  | s :: _, .bd :: r => atP (bodyOf s) r
  | s :: _, .el :: r => atP (elseOf s) r
  | [], _ => []
def fnBody (o : Obj) : List Stmt := match o.data with
  | .func fd => (match fd.body with
    | .stmts b => b
    | _ => [])
  | _ => []
def fnScope (o : Obj) : Scope := match o.data with
  | .func fd => fd.scope
  | _ => { kind := .function, names := [], isGenerator := false, isCoroutine := false }
abbrev six : List Stp := [.tl, .tl, .tl, .tl, .tl, .tl]
abbrev loopP : List Stp := [.tl, .tl, .tl, .tl, .tl, .tl, .bd]
structure LawAt (w : World) (p : List Stp) (body : List Stmt) (scope : Scope) : Prop where
  ex : ∃ o, (Mine.hd.heap_39 w.params).lookup 928 = some o ∧ atP (fnBody o) p = body ∧ fnScope o = scope
theorem iter_abc {w : World} {A : Around} (hh : A.handled = none) (I : Addr) (t : Tok) (gs : Heap) : Iterates w A gs I 3 (fun i o => o.cls = .type "str_ascii_iterator" ∧ o.data = .fields #[.str (Str.ofString "abc") t, .int i 0]) (fun i v _ _ => ∃ t, v = .str (nm i) t) where
  item := fun i s o hi ho hI _ => by
    have hx : (Str.ofString "abc").cps[i]? = some (97 + i) := by
      obtain rfl | rfl | rfl : i = 0 ∨ i = 1 ∨ i = 2 := by omega
      all_goals rfl
    refine wpAny_pyNext_ascii_item ⟨o, hI, ho⟩ hx fun h' h1 h2 => ?_
    obtain ⟨o', e1, e2⟩ := h1
    exact ⟨_, o', h', _, rfl, rfl, h2.extBut, e1, e2, _, rfl⟩
  done := fun s o ho hI _ => by
    exact wpAny_pyNext_ascii_end hh ⟨o, hI, ho⟩ (by rfl) fun h' h1 => ⟨h', _, rfl, rfl, h1⟩
theorem self_ascii {w : World} {A : Around} {E : Value → Shared → Prop} {s : Shared} {I : Addr} {o : Obj} {P : Value → Shared → Prop} (hI : s.heap.get? I = some o) (hc : o.cls = .type "str_ascii_iterator") (h : P (.ref I) s) : wpAny (model PW w) A (pyIter (.ref I)) P E s :=
  self_iter PySem.F.slot_str_ascii_iterator_iter PySem.F.entry_str_ascii_iterator_iter (PySem.F.args_str_ascii_iterator_iter_1 _) PySem.F.slot_str_ascii_iterator_next.lookup hI hc h
theorem q_host {w : World} {W : List Addr} {g0 g : Heap} {s0 s : Shared} {L : Addr} {ms : List (Addr × Obj)} {m : Str → Option Value} {A : Around} {E : Value → Shared → Prop} {d u : Nat} {k : Nat} {t1 t2 t3 : Tok} {Q : Value → Shared → Prop} (r : Rm A d u) (F : Fm w W g0 s0 L ms g s m)
    (h : ∀ a g' s', Sub g g' → Fm w W g0 s0 L ms g' s' m → Hs g' a k → Q (.ref a) s') : wpAny (model PW w) A (call (.ref 884) [.str (nm k) t1, .str (Str.ofString "d") t2, .str (Str.ofString "r") t3] []) Q E s := by
  refine r.weak (x_host F.X fun {a dd h' tk'} hs n1 n2 => ?_)
  obtain ⟨g', hs', F', hnew⟩ := F.ext (tk := tk') hs
  exact h a g' _ hs' F' ⟨t1, t2, t3, dd, hnew _ _ n1.1 n1.2, hnew _ _ n2.1 n2.2⟩
theorem q_slice4 {w : World} {W : List Addr} {g0 g : Heap} {s0 s : Shared} {L : Addr} {ms : List (Addr × Obj)} {m : Str → Option Value} {A : Around} {E : Value → Shared → Prop} {value slice : Expr} {nl : Addr} {ns : Nat → Int} {a b : Nat} {t u : Tok} {Q : Value → Shared → Prop} (F : Fm w W g0 s0 L ms g s m) (hn : IsN g nl ns) (ha : a = 0 ∨ a = 4) (hb : b = a + 4)
    (h : ∀ pl g' s', Sub g g' → Fm w W g0 s0 L ms g' s' m → IsP g' pl (fun k => ns (a + k)) → Q (.ref pl) s')
    (hs : subscripted slice false (.ref nl) (.ref s.heap.objs.size) = operate [.ref s.heap.objs.size, .ref nl] (getItem (.ref nl) (.ref s.heap.objs.size)) := by with_unfolding_all rfl)
    (ht : ∀ r, letTemporaryGo value (.ref nl) r = pure () := by intro _; with_unfolding_all rfl) :
    wpAny (model PW w) A (subscriptTail value slice (.ref nl) (.ref s.heap.objs.size)) Q E { s with heap := s.heap.push { cls := .type "slice", data := .fields #[.int a t, .int b u, .none] } } := by
  obtain ⟨its, hl, hz, hit⟩ := hn
  refine slice_listK (lo := some (a : Int)) (hi := some (b : Int)) (isl hl F.step.keep) ?_ ?_ ?_ hs ht (by rw [sizeLine_eq]; omega)
  · exact .int _ _
  · exact .int _ _
  · rw [slicePick_run its a b (by omega) (by omega)]
    obtain ⟨g1, hs1, F1, e1⟩ := F.push (o := { cls := .type "slice", data := .fields #[.int a t, .int b u, .none] }) (tk := s.toks) rfl
    obtain ⟨g2, hs2, F2, e2⟩ := F1.push (o := { cls := .type "list", data := .seq ((its.toList.drop a).take (b - a)).toArray }) (tk := s.toks) rfl
    have e2 : g2.get? (s.heap.objs.size + 1) = some { cls := .type "list", data := .seq ((its.toList.drop a).take (b - a)).toArray } := by
      have : (s.heap.push { cls := .type "slice", data := .fields #[.int a t, .int b u, .none] }).objs.size = s.heap.objs.size + 1 := Heap.size_push ..
      rw [← this]; exact e2
    refine h _ g2 _ (hs1.trans hs2) F2 ⟨_, ⟨_, e2, rfl, _, rfl⟩, fun k hk => ?_⟩
    obtain ⟨t0, e0⟩ := hit (a + k) (by omega)
    refine ⟨t0, ?_⟩
    rw [List.getElem?_toArray, List.getElem?_take, if_pos (by omega), List.getElem?_drop]
    simpa using e0
section
variable {w : World} {W : List Addr} {g0 g : Heap} {s0 s : Shared} {L : Addr} {m : Str → Option Value} {A : Around} {HA : Nat → Addr} {ns : Nat → Int} {M dM nl hl sp cp fr bk rg T rl ow H : Addr} {odM osp ocp ofr obk oH : Obj} {kS kC kF kB kH : List (Str × Value)} {cps b : Str → Option (Option Nat)} {i : Nat} {R : Ring} {tok : Nat → Addr} {l1 l2 : List (Addr × Obj)} {x : Str} {t : Tok}
theorem Fm.as {ms ms' : List (Addr × Obj)} (F : Fm w W g0 s0 L ms g s m) (e : ms = ms') : Fm w W g0 s0 L ms' g s m := e ▸ F
theorem br1 {body : List Stmt} {scope : Scope} {Q : Flow → Shared → Prop} (hB : LawAt w (loopP ++ [.tl, .tl, .el, .bd]) body scope) (F : Fm w W g0 s0 L (l1 ++ (sp, osp) :: (cp, ocp) :: l2) g s m) (D : LawD w i g osp ocp ofr obk kS kC kF kB cps) (hz : i ≤ 100)
    (hm : LawM m M nl hl sp cp fr bk) (hx : m "name" = some (.str x t))
    (h : ∀ s' osp' ocp', Fm w W g0 s0 L (l1 ++ (sp, osp') :: (cp, ocp') :: l2) g s' m → osp'.IsDictOf (SK w) (without kS x) → ocp'.IsDictOf (SK w) (without kC x) → Q .next s') :
    wpAny (model PW w) A (execs body (envOfC (Str.ofString "law") scope L 928 (.ref 927))) Q NE s := by
  have z1 := D.zS
  have z2 := D.zC
  walk_at "law"
  walk_at "mm"
  refine q_sM PySem.F.slot_dict_pop PySem.F.type_dict_pop F (mem_at l1) D.dS ?_
  walk_at "mm"
  refine q_spopAt l1 F D.dS (by omega) fun osp' s F d1 => ?_
  walk_at "mm"
  have F := F.as (ms' := (l1 ++ [(sp, osp')]) ++ (cp, ocp) :: l2) (by simp only [List.append_assoc, List.cons_append, List.nil_append])
  refine q_sM PySem.F.slot_dict_pop PySem.F.type_dict_pop F (mem_at _) D.dC ?_
  walk_at "mm"
  refine q_spopAt _ F D.dC (by omega) fun ocp' s F d2 => ?_
  have F := F.as (ms' := l1 ++ (sp, osp') :: (cp, ocp') :: l2) (by simp only [List.append_assoc, List.cons_append, List.nil_append])
  walk_at "mm"
  exact h s osp' ocp' F d1 d2
theorem br0 {body : List Stmt} {scope : Scope} {Q : Flow → Shared → Prop} {third : Int} {tt : Tok} (hB : LawAt w (loopP ++ [.tl, .tl, .bd]) body scope) (r : Rm A 5 40) (F : Fm w W g0 s0 L (l1 ++ (sp, osp) :: (cp, ocp) :: (fr, ofr) :: l2) g s m) (D : LawD w i g osp ocp ofr obk kS kC kF kB cps) (hz : i ≤ 100)
    (hm : LawM m M nl hl sp cp fr bk) (hx : m "name" = some (.str x t)) (h3 : m "third" = some (.int third tt))
    (h : ∀ g' s' m' osp' ocp' ofr' ks u, Sub g g' → Fm w W g0 s0 L (l1 ++ (sp, osp') :: (cp, ocp') :: (fr, ofr') :: l2) g' s' m' → (∀ y, y ≠ Str.ofString "made" → y ≠ Str.ofString "many" → m' y = m y) → KsOf g' ks (cpS (third % 5).toNat) →
      osp'.IsDictOf (SK w) (stored kS x (.ref ks)) → ocp'.IsDictOf (SK w) (stored kC x (cpV (cpS (third % 5).toNat) u)) → ofr'.IsDictOf (SK w) (stored kF x (.ref ks)) → Q .next s') :
    wpAny (model PW w) A (execs body (envOfC (Str.ofString "law") scope L 928 (.ref 927))) Q NE s := by
  have z1 := D.zS
  have z2 := D.zC
  have z3 := D.zF
  walk_at "law"
  walk_at "mm"
  refine Assign_Tuple ?_
  walk_at "mm"
  have e5 : third % 5 = (((third % 5).toNat : Nat) : Int) := by omega
  rw [e5]
  refine q_ks (sort := (third % 5).toNat) r F (by omega) fun p ks q g' s hs' F hp hk => ?_
  refine q_assignTup (items := [.ref ks, cpV (cpS (third % 5).toNat) q]) r.hd F (ist hp F.step.keep) rfl rfl fun g2 s hs2 F => ?_
  refine assignInOrder_cons (wpAny_assign_Name (e_st (L := L) ⟨rfl, rfl, rfl, rfl⟩ F (fun s F => ?_) rfl))
  refine assignInOrder_cons (wpAny_assign_Name (e_st (L := L) ⟨rfl, rfl, rfl, rfl⟩ F (fun s F => assignInOrder_nil ?_) rfl))
  have hk := hk.keeps hs2
  walk_at "mm"
  refine wpAny_Assign_Subscript ?_
  walk_at "mm"
  have F := F.as (ms' := (l1 ++ [(sp, osp), (cp, ocp)]) ++ (fr, ofr) :: l2) (by simp only [List.append_assoc, List.cons_append, List.nil_append])
  refine q_ssetAt _ F D.dF (by omega) fun ofr' s F d3 => ?_
  walk_at "mm"
  refine wpAny_Assign_Subscript ?_
  walk_at "mm"
  have F := F.as (ms' := (l1 ++ [(sp, osp)]) ++ (cp, ocp) :: (fr, ofr') :: l2) (by simp only [List.append_assoc, List.cons_append, List.nil_append])
  refine q_ssetAt _ F D.dC (by omega) fun ocp' s F d2 => ?_
  walk_at "mm"
  refine wpAny_Assign_Subscript ?_
  walk_at "mm"
  have F := F.as (ms' := l1 ++ (sp, osp) :: (cp, ocp') :: (fr, ofr') :: l2) (by simp only [List.append_assoc, List.cons_append, List.nil_append])
  refine q_ssetAt _ F D.dS (by omega) fun osp' s F d1 => ?_
  walk_at "mm"
  exact h g2 s _ osp' ocp' ofr' ks q (hs'.trans hs2) F (fun y h1 h2 => by simp only [if_neg h1, if_neg h2]) hk d1 d2 d3
end
theorem bv_none {g : Heap} {R : Ring} {bo : Option (Option Nat)} {v : Option Value} (h : BvOf g R bo v) : (v.getD .none == Value.none) = !hasBook bo := by
  rcases bo with _ | _ | c <;> cases v <;> simp only [BvOf] at h
  · rfl
  · obtain ⟨_, h⟩ := h
    cases h; rfl
  · obtain ⟨l, its, rfl, _⟩ := h.list_of; rfl
theorem cp_some {v : Option Value} {c : Option (Option Nat)} (h : CpAt v c) : v.isSome = c.isSome := by
  cases v <;> cases c <;> simp [CpAt] at h ⊢
theorem LawR.reH {w : World} {i : Nat} {g : Heap} {HA : Nat → Addr} {M sp rg : Addr} {odM : Obj} {R : Ring} {T rl ow H : Addr} {oH oH' : Obj} {kH kB : List (Str × Value)} {tok : Nat → Addr} {b : Str → Option (Option Nat)} (Z : LawR w i g HA M sp rg odM R T rl ow H oH kH kB tok b) (d : oH'.IsDictOf (SK w) kH) : LawR w i g HA M sp rg odM R T rl ow H oH' kH kB tok b :=
  ⟨Z.ok, Z.rg, Z.md, Z.tm, Z.rl, Z.ow, d, Z.zH, Z.bk⟩
section
variable {w : World} {W : List Addr} {g0 g : Heap} {s0 s : Shared} {L : Addr} {m : Str → Option Value} {A : Around} {HA : Nat → Addr} {ns : Nat → Int} {M dM nl hl sp cp fr bk rg T rl ow H : Addr} {odM osp ocp ofr obk oH : Obj} {kS kC kF kB kH : List (Str × Value)} {cps b : Str → Option (Option Nat)} {i : Nat} {R : Ring} {tok : Nat → Addr} {l1 l2 : List (Addr × Obj)} {x : Str} {t : Tok}
theorem br23a {body : List Stmt} {scope : Scope} {Q : Flow → Shared → Prop} {k : Int} {tk : Tok} {pr : Bool} {c : Nat} (hB : LawAt w (loopP ++ [.tl, .tl, .el, .el, .bd]) body scope) (r : Rm A 13 90) (F : Fm w W g0 s0 L ((dM, odM) :: (sp, osp) :: l2) g s m) (hd : MdD odM sp (some .none) c) (S0 : LawS g HA ns M dM nl hl)
    (hm : LawM m M nl hl sp cp fr bk) (hx : m "name" = some (.str x t)) (hk : m "kind" = some (.int k tk)) (hk23 : k = 2 ∨ k = 3) (hp : m "present" = some (.bool pr)) (hr : m "ring" = some .none)
    (h : ∀ g' s', Sub g g' → Fm w W g0 s0 L ((dM, odM) :: (sp, osp) :: l2) g' s' m → Q .next s') :
    wpAny (model PW w) A (execs body (envOfC (Str.ofString "law") scope L 928 (.ref 927))) Q NE s := by
  walk_at "law"
  rcases hk23 with rfl | rfl
  · walk_at "mm"
    refine q_meth (C := 159) (f := 128) F (F.get S0.inst) (F.turnable (.head _)) (by k_is) (by k_is) (by k_is) (hd.mn (nm := Str.ofString "_keyspace_added") (by decide)) ?_
    walk_at "mm"
    refine q_door0 r F hd S0 (.inl rfl) fun g' s hs F => ?_
    walk_at "mm"
    exact h g' s hs F
  · walk_at "mm"
    refine q_meth (C := 159) (f := 135) F (F.get S0.inst) (F.turnable (.head _)) (by k_is) (by k_is) (by k_is) (hd.mn (nm := Str.ofString "_keyspace_updated") (by decide)) ?_
    walk_at "mm"
    refine q_door0 r F hd S0 (.inr (.inl rfl)) fun g' s hs F => ?_
    walk_at "mm"
    exact h g' s hs F
theorem br23b {body : List Stmt} {scope : Scope} {Q : Flow → Shared → Prop} {k : Int} {tk : Tok} (hB : LawAt w (loopP ++ [.tl, .tl, .el, .el, .bd]) body scope) (r : Rm A 13 90) (F : Fm w W g0 s0 L ((H, oH) :: (dM, odM) :: (sp, osp) :: (cp, ocp) :: (fr, ofr) :: (bk, obk) :: l2) g s m)
    (D : LawD w i g osp ocp ofr obk kS kC kF kB cps) (Z : LawR w i g HA M sp rg odM R T rl ow H oH kH kB tok b) (S0 : LawS g HA ns M dM nl hl) (hz : i ≤ 90)
    (hm : LawM m M nl hl sp cp fr bk) (hx : m "name" = some (.str x t)) (hk : m "kind" = some (.int k tk)) (hk23 : k = 2 ∨ k = 3) (hp : m "present" = some (.bool (cps x).isSome)) (hr : m "ring" = some (.ref rg))
    (h : ∀ g' s' oH' obk' kH' kB' b', Sub g g' → Fm w W g0 s0 L ((H, oH') :: (dM, odM) :: (sp, osp) :: (cp, ocp) :: (fr, ofr) :: (bk, obk') :: l2) g' s' m → LawR w (i + 1) g' HA M sp rg odM R T rl ow H oH' kH' kB' tok b' → obk'.IsDictOf (SK w) kB' → kB'.length ≤ i + 1 → Q .next s') :
    wpAny (model PW w) A (execs body (envOfC (Str.ofString "law") scope L 928 (.ref 927))) Q NE s := by
  have zB := D.zB
  have zC := D.zC
  have hbn := bv_none (Z.bk x).2
  walk_at "law"
  refine wpAny_execs_cons ?_
  refine wpAny_mono (Q := fun f s2 => f = .next ∧ ∃ g' oH' kH', Sub g g' ∧ Fm w W g0 s0 L ((H, oH') :: (dM, odM) :: (sp, osp) :: (cp, ocp) :: (fr, ofr) :: (bk, obk) :: l2) g' s2 m ∧ oH'.IsDictOf (SK w) kH' ∧
    ((kH' = kH ∧ (cps x = none ∨ hasBook (b x) = false)) ∨ (∃ v cp, hasBook (b x) = true ∧ cps x = some cp ∧ kH' = stored kH x v ∧ RvOf g' R HA tok cp v))) (E := NE) ?_ (fun f s2 q => ?_) (fun _ _ q => q.elim)
  · rcases hk23 with rfl | rfl
    · walk_at "mm"
      refine q_meth (C := 159) (f := 128) F (F.get S0.inst) (F.turnable (.tail _ (.head _))) (by k_is) (by k_is) (by k_is) (Z.md.mn (nm := Str.ofString "_keyspace_added") (by decide)) ?_
      walk_at "mm"
      refine q_updJ r F D Z S0 (by omega) (.inl rfl) fun g' s oH' kH' hs F d1 hrel => ?_
      walk_at "mm"
      exact ⟨rfl, g', oH', kH', hs, F, d1, hrel⟩
    · walk_at "mm"
      refine q_meth (C := 159) (f := 135) F (F.get S0.inst) (F.turnable (.tail _ (.head _))) (by k_is) (by k_is) (by k_is) (Z.md.mn (nm := Str.ofString "_keyspace_updated") (by decide)) ?_
      walk_at "mm"
      refine q_updJ r F D Z S0 (by omega) (.inr rfl) fun g' s oH' kH' hs F d1 hrel => ?_
      walk_at "mm"
      exact ⟨rfl, g', oH', kH', hs, F, d1, hrel⟩
  · obtain ⟨rfl, g', oH', kH', hs', F, d1, hrel⟩ := q
    walk_at "mm"
    have Z' := Z.keeps hs'
    have fin0 : ∀ {s}, Fm w W g0 s0 L ((H, oH') :: (dM, odM) :: (sp, osp) :: (cp, ocp) :: (fr, ofr) :: (bk, obk) :: l2) g' s m → kH' = kH → Q .next s := fun {s} F e => by
      subst e
      exact h g' s oH' obk kH' kB b hs' F (Z'.reH d1).next D.dB (by omega)
    cases hcp : cps x with
    | none =>
      refine q_if_f (by rfl) ?_
      walk_at "mm"
      rcases hrel with ⟨e, _⟩ | ⟨v, cp, _, e2, _⟩
      · exact fin0 F e
      · rw [hcp] at e2; cases e2
    | some cp' =>
      refine q_if_t (by rfl) ?_
      walk_at "mm"
      refine q_sM PySem.F.slot_dict_get PySem.F.type_dict_get F (mem_at [_, _, _, _, _]) D.dB ?_
      walk_at "mm"
      refine q_sget1 F (mem_at [_, _, _, _, _]) D.dB fun s F => ?_
      walk_at "mm"
      rw [hbn]
      cases hbb : hasBook (b x) with
      | false =>
        walk_at "mm"
        rcases hrel with ⟨e, _⟩ | ⟨v, cp, e1, _⟩
        · exact fin0 F e
        · rw [hbb] at e1; cases e1
      | true =>
        rcases hrel with ⟨_, e | e⟩ | ⟨v, cpx, e1, e2, e3, hrv⟩
        · rw [hcp] at e; cases e
        · rw [hbb] at e; cases e
        rw [hcp] at e2
        cases e2
        subst e3
        walk_at "mm"
        refine wpAny_Assign_Subscript ?_
        walk_at "mm"
        have hcx := D.cp x
        rw [hcp] at hcx
        obtain ⟨vc, hvc, tc, rfl⟩ : ∃ v, valueAt kC x = some v ∧ ∃ t, v = cpV cp' t := by
          revert hcx
          generalize valueAt kC x = vv
          intro hcx
          cases vv with
          | none => exact hcx.elim
          | some v => exact ⟨v, rfl, hcx⟩
        refine q_sitem F (mem_at [_, _, _]) D.dC hvc fun s F => ?_
        walk_at "mm"
        have hspx := D.sp x
        rw [hcp] at hspx
        have hc3 : ∀ c, cp' = some c → c ≤ 3 := by
          revert hspx
          generalize valueAt kS x = vv
          intro hspx
          cases vv with
          | none => exact hspx.elim
          | some v => obtain ⟨_, _, _, q⟩ := hspx; exact q
        refine c_mapV r.less F.gd F.step.keep Z'.rg Z.ok hc3 fun u g2 s S hu => ?_
        have F := F.called S
        walk_at "mm"
        refine q_ssetAt [_, _, _, _, _] F D.dB (by omega) fun obk' s F d2 => ?_
        walk_at "mm"
        exact h g2 s oH' obk' _ _ _ (hs'.trans S.sub) F ((Z'.keeps S.sub).lay d1 (RvOf.keeps S.sub hrv) hu) d2 (by have := len_stored kB x u; omega)
end
theorem sp_some {g : Heap} {v : Option Value} {c : Option (Option Nat)} (h : SpAt g v c) : v.isSome = c.isSome := by
  cases v <;> cases c <;> simp [SpAt] at h ⊢
section
variable {w : World} {W : List Addr} {g0 g : Heap} {s0 s : Shared} {L : Addr} {m : Str → Option Value} {A : Around} {HA : Nat → Addr} {ns : Nat → Int} {M dM nl hl sp cp fr bk rg T rl ow H : Addr} {odM osp ocp ofr obk oH : Obj} {kS kC kF kB kH : List (Str × Value)} {cps b : Str → Option (Option Nat)} {i : Nat} {R : Ring} {tok : Nat → Addr} {l1 l2 : List (Addr × Obj)} {x : Str} {t : Tok}
theorem br4a {body : List Stmt} {scope : Scope} {Q : Flow → Shared → Prop} {c : Nat} (hB : LawAt w (loopP ++ [.tl, .tl, .el, .el, .el, .bd]) body scope) (r : Rm A 13 90) (F : Fm w W g0 s0 L ((dM, odM) :: (sp, osp) :: (cp, ocp) :: (fr, ofr) :: (bk, obk) :: l2) g s m) (D : LawD w i g osp ocp ofr obk kS kC kF kB cps) (hd : MdD odM sp (some .none) c) (S0 : LawS g HA ns M dM nl hl) (hz : i ≤ 90)
    (hm : LawM m M nl hl sp cp fr bk) (hx : m "name" = some (.str x t)) (hp : m "present" = some (.bool (cps x).isSome))
    (h : ∀ g' s' obk', Sub g g' → Fm w W g0 s0 L ((dM, odM) :: (sp, osp) :: (cp, ocp) :: (fr, ofr) :: (bk, obk') :: l2) g' s' m → obk'.IsDictOf (SK w) (without kB x) → Q .next s') :
    wpAny (model PW w) A (execs body (envOfC (Str.ofString "law") scope L 928 (.ref 927))) Q NE s := by
  have zB := D.zB
  have hss := sp_some (D.sp x)
  walk_at "law"
  walk_at "mm"
  refine q_meth (C := 159) (f := 142) F (F.get S0.inst) (F.turnable (.head _)) (by k_is) (by k_is) (by k_is) (hd.mn (nm := Str.ofString "_keyspace_removed") (by decide)) ?_
  walk_at "mm"
  refine q_door0 r F hd S0 (.inr (.inr rfl)) fun g' s hs F => ?_
  walk_at "mm"
  refine q_sM PySem.F.slot_dict_pop PySem.F.type_dict_pop F (mem_at [_, _, _, _]) D.dB ?_
  walk_at "mm"
  refine q_spopAt [_, _, _, _] F D.dB (by omega) fun obk' s F d1 => ?_
  walk_at "mm"
  refine q_sin F (mem_at [_]) D.dS fun s F => ?_
  walk_at "mm"
  rw [hss]
  refine q_if_f (by simp) ?_
  walk_at "mm"
  exact h g' s obk' hs F d1
theorem br4b {body : List Stmt} {scope : Scope} {Q : Flow → Shared → Prop} (hB : LawAt w (loopP ++ [.tl, .tl, .el, .el, .el, .bd]) body scope) (r : Rm A 13 90) (F : Fm w W g0 s0 L ((H, oH) :: (dM, odM) :: (sp, osp) :: (cp, ocp) :: (fr, ofr) :: (bk, obk) :: l2) g s m)
    (D : LawD w i g osp ocp ofr obk kS kC kF kB cps) (Z : LawR w i g HA M sp rg odM R T rl ow H oH kH kB tok b) (S0 : LawS g HA ns M dM nl hl) (hz : i ≤ 90)
    (hm : LawM m M nl hl sp cp fr bk) (hx : m "name" = some (.str x t)) (hp : m "present" = some (.bool (cps x).isSome))
    (h : ∀ g' s' oH' obk' kH' kB' b', Sub g g' → Fm w W g0 s0 L ((H, oH') :: (dM, odM) :: (sp, osp) :: (cp, ocp) :: (fr, ofr) :: (bk, obk') :: l2) g' s' m → LawR w (i + 1) g' HA M sp rg odM R T rl ow H oH' kH' kB' tok b' → obk'.IsDictOf (SK w) kB' → kB'.length ≤ i + 1 → Q .next s') :
    wpAny (model PW w) A (execs body (envOfC (Str.ofString "law") scope L 928 (.ref 927))) Q NE s := by
  have zB := D.zB
  have hss := sp_some (D.sp x)
  walk_at "law"
  walk_at "mm"
  refine q_meth (C := 159) (f := 142) F (F.get S0.inst) (F.turnable (.tail _ (.head _))) (by k_is) (by k_is) (by k_is) (Z.md.mn (nm := Str.ofString "_keyspace_removed") (by decide)) ?_
  walk_at "mm"
  refine q_remJ r F Z S0 (by omega) fun g' s oH' hs F d0 => ?_
  walk_at "mm"
  refine q_sM PySem.F.slot_dict_pop PySem.F.type_dict_pop F (mem_at [_, _, _, _, _]) D.dB ?_
  walk_at "mm"
  refine q_spopAt [_, _, _, _, _] F D.dB (by omega) fun obk' s F d1 => ?_
  walk_at "mm"
  refine q_sin F (mem_at [_, _]) D.dS fun s F => ?_
  walk_at "mm"
  rw [hss]
  refine q_if_f (by simp) ?_
  walk_at "mm"
  exact h g' s oH' obk' _ _ _ hs F ((Z.keeps hs).pop d0) d1 (by have := len_without kB x; omega)
end
def AnsK (R : Ring) (u : Int) (bo : Option (Option Nat)) (ks : List Nat) : Prop := match bo with
  | some (some (c + 1)) => ∃ q, IsSpot R u q ∧ ks = wlk R (c + 1) q R.length
  | _ => ks = []
theorem AnsK.uniq {R : Ring} {u : Int} {bo : Option (Option Nat)} {k1 k2 : List Nat} (a : AnsK R u bo k1) (b : AnsK R u bo k2) : k1 = k2 := by
  rcases bo with _ | _ | _ | c
  · exact a.trans b.symm
  · exact a.trans b.symm
  · exact a.trans b.symm
  · obtain ⟨q, h1, e1⟩ := a
    obtain ⟨p, h2, e2⟩ := b
    rw [e1, e2, h1.uniq h2]
theorem AnsK.ok {R : Ring} (ok : RingOk R) {u : Int} {bo : Option (Option Nat)} {ks : List Nat} (a : AnsK R u bo ks) : (∀ k ∈ ks, k < 3) ∧ ks.length ≤ 4 := by
  have := ok.le
  rcases bo with _ | _ | _ | c
  · rw [show ks = [] from a]; simp
  · rw [show ks = [] from a]; simp
  · rw [show ks = [] from a]; simp
  · obtain ⟨q, h1, e1⟩ := a
    rw [e1]
    exact ⟨wlk_own ok _ _ _, by have := wlk_len R (c + 1) q R.length; omega⟩
theorem ansK_of {g : Heap} {R : Ring} {HA : Nat → Addr} {u : Int} {l : Addr} {bo : Option (Option Nat)} (h : AnsOf g R HA u l bo) : ∃ ks, AnsK R u bo ks ∧ g.IsList l (hostsV HA ks).toArray := by
  rcases bo with _ | _ | _ | c
  · exact ⟨[], rfl, h⟩
  · exact ⟨[], rfl, h⟩
  · exact ⟨[], rfl, h⟩
  · obtain ⟨q, its, h1, h2, rfl⟩ := h
    exact ⟨_, ⟨q, h1, rfl⟩, h2⟩
theorem ansK_v {g : Heap} {R : Ring} {u : Int} {bo : Option (Option Nat)} {v : Value} (h : AnsV g R u bo.join v) : ∃ ks, AnsK R u bo ks ∧ Rd g v (namesD ks) := by
  rcases bo with _ | _ | _ | c
  · exact ⟨[], rfl, h⟩
  · exact ⟨[], rfl, h⟩
  · exact ⟨[], rfl, h⟩
  · obtain ⟨q, h1, h2⟩ := h
    exact ⟨_, ⟨q, h1, rfl⟩, h2⟩
theorem bv_rd {g : Heap} {R : Ring} {bo : Option (Option Nat)} {v : Option Value} (h : BvOf g R bo v) : Rd g (v.getD .none) (bookD R bo.join) := by
  rcases bo with _ | cp <;> cases v <;> simp only [BvOf] at h
  · exact ⟨_, .none⟩
  · exact h
theorem cpx_some {v : Option Value} {cp : Option Nat} (h : CpAt v (some cp)) : ∃ t, v = some (cpV cp t) := by
  cases v with
  | none => exact h.elim
  | some v => obtain ⟨t, rfl⟩ := h; exact ⟨t, rfl⟩
theorem spx_le {g : Heap} {v : Option Value} {cp : Option Nat} (h : SpAt g v (some cp)) : ∀ c, cp = some c → c ≤ 3 := by
  cases v with
  | none => exact h.elim
  | some v => obtain ⟨_, _, _, q⟩ := h; exact q
theorem names_can1 {ks : List Nat} (h : ∀ k ∈ ks, k < 3) : (namesD ks).canLay0 = true := names_can h
theorem names_dep {ks : List Nat} : (namesD ks).depth ≤ 100 := by
  have := @names_depth ks
  simp only [namesD, PyData.depth]; omega
section
variable {w : World} {W : List Addr} {g0 g : Heap} {s0 s : Shared} {L : Addr} {m : Str → Option Value} {A : Around} {HA : Nat → Addr} {ns : Nat → Int} {M dM nl hl sp cp fr bk rg T rl ow H : Addr} {odM osp ocp ofr obk oH : Obj} {kS kC kF kB kH : List (Str × Value)} {cps b : Str → Option (Option Nat)} {i : Nat} {R : Ring} {tok : Nat → Addr} {l1 l2 : List (Addr × Obj)} {x : Str} {t : Tok}
theorem br5r {body : List Stmt} {scope : Scope} {Q : Flow → Shared → Prop} {u : Int} {tu : Tok} {kB1 : List (Str × Value)} (hB : LawAt w (loopP ++ [.tl, .tl, .el, .el, .el, .el, .bd, .tl, .tl]) body scope) (r : Rm A 14 100) (F : Fm w W g0 s0 L ((H, oH) :: (dM, odM) :: (sp, osp) :: (cp, ocp) :: (fr, ofr) :: (bk, obk) :: l2) g s m)
    {obk0 : Obj} (D : LawD w i g osp ocp ofr obk0 kS kC kF kB cps) (Z : LawR w i g HA M sp rg odM R T rl ow H oH kH kB tok b) (S0 : LawS g HA ns M dM nl hl) (hz : i ≤ 90)
    (hd1 : obk.IsDictOf (SK w) kB1) (hz1 : kB1.length ≤ i + 1) (hk1 : (kB1 = kB ∧ (cps x = none ∨ hasBook (b x) = true)) ∨ (∃ v cp', hasBook (b x) = false ∧ cps x = some cp' ∧ kB1 = stored kB x v ∧ Rd g v (bookD R cp')))
    (hm : LawM m M nl hl sp cp fr bk) (hx : m "name" = some (.str x t)) (hv : m "value" = some (.int u tu))
    (h : ∀ g' s' m' oH' kH' b', Sub g g' → Fm w W g0 s0 L ((H, oH') :: (dM, odM) :: (sp, osp) :: (cp, ocp) :: (fr, ofr) :: (bk, obk) :: l2) g' s' m' → (∀ y, y ≠ Str.ofString "told" → m' y = m y) → LawR w (i + 1) g' HA M sp rg odM R T rl ow H oH' kH' kB1 tok b' → Q .next s') :
    wpAny (model PW w) A (execs body (envOfC (Str.ofString "law") scope L 928 (.ref 927))) Q NE s := by
  have hT' := Z.tm
  obtain ⟨dT, u1, t1, u2, t2, u3, t3, u4, t4, u5, t5, n, e1, e2⟩ := hT'
  have ok := Z.ok
  walk_at "law"
  walk_at "mm"
  refine q_own (C := 159) F (F.get S0.inst) (F.turnable (.tail _ (.head _))) (by k_is) (by k_is) (by k_is) (by k_is) Z.md.tm (by k_handed) fun s F => ?_
  walk_at "mm"
  refine q_meth (C := 531) (f := 528) F (F.get e1) (F.get e2) (by k_is) (by k_is) (by k_is) (by rfl) ?_
  walk_at "mm"
  refine q_tok768 r F fun tk0 g1 s hs1 F hTk => ?_
  walk_at "mm"
  have Z1 := Z.keeps hs1
  have S1 := S0.keeps hs1
  refine q_grJ r F (D.keeps hs1) Z1 S1 (by omega) hTk fun l g2 s oH' kH' bo' hs2 F dH hrel hans => ?_
  have Z2 := Z1.keeps hs2
  have S2 := S1.keeps hs2
  obtain ⟨b', Z3, hb'⟩ : ∃ b', LawR w (i + 1) g2 HA M sp rg odM R T rl ow H oH' kH' kB1 tok b' ∧ b' x = bo' := by
    rcases hrel with ⟨rfl, rfl, hc⟩ | ⟨v, cp', hb0, hc, rfl, rfl, hrv⟩
    · rcases hk1 with ⟨rfl, _⟩ | ⟨v, cp', hb0, hc', _, _⟩
      · exact ⟨b, (Z2.reH dH).next, rfl⟩
      · rcases hc with hc | hc
        · rw [hc] at hc'; cases hc'
        · rw [hb0] at hc; cases hc
    · rcases hk1 with ⟨_, hc' | hc'⟩ | ⟨v', cp'', hb1, hc', rfl, hrd⟩
      · rw [hc] at hc'; cases hc'
      · rw [hb0] at hc'; cases hc'
      · rw [hc] at hc'
        cases hc'
        exact ⟨put b x (some cp'), Z2.lay dH hrv (hrd.keeps (hs1.trans hs2)), put_eq⟩
  subst hb'
  obtain ⟨ks, hks, hlist⟩ := ansK_of hans
  have hks3 := (hks.ok ok).1
  have hks4 := (hks.ok ok).2
  walk_at "mm"
  refine ListComp_ [] ?_
  walk_at "mm"
  refine wpAny_pyIter_list (items := (hostsV HA ks).toArray) (isl hlist F.step.keep) ?_
  refine comp_runP (fun its g' => RdAll g' its.toList (namesL ks)) F rfl rfl (by decide) (fun s1 P e h => self_list e rfl h) ?_ ?_
  · intro C l3 s3 R3 frI F3 post
    refine comp_for (fun i2 xs2 g4 m4 => xs2.size = i2 ∧ RdAll g4 xs2.toList (namesL (ks.take i2))) (iter_list r.hd _ l _ g2 hlist) F3 ⟨rfl, rfl⟩ frI ⟨rfl, by simpa [namesL] using RdAll.nil⟩ (by simp [hostsV]; omega) (fun i xs g m h => Nat.le_of_eq h.1) ⟨rfl, rfl, rfl, rfl⟩ rfl ?_ ?_
    · rintro i2 xs2 k2 g4 g5 s4 m4 v2 oi2 hi2 hs4 hs5 ⟨hsz2, hra2⟩ ⟨_, _, hv2, _⟩ F
      have hi2' : i2 < ks.length := by simpa [hostsV] using hi2
      have hv2' : v2 = .ref (HA (ks[i2])) := by
        simp only [hostsV, List.getElem?_toArray, List.getElem?_map, List.getElem?_eq_getElem hi2', Option.map_some, Option.some.injEq] at hv2
        exact hv2.symm
      subst hv2'
      refine wpAny_tests_nil ?_
      rw [if_pos rfl]
      walk_at "mm"
      refine q_name r.less F ((S2.keeps (hs4.trans hs5)).hs _ (hks3 _ (List.getElem_mem hi2'))) fun g6 s4 t4 hs6 F => ?_
      refine ⟨g6, _, hs6, F, by simp [hsz2], ?_⟩
      rw [List.take_add_one, List.getElem?_eq_getElem hi2']
      simp only [namesL, List.map_append, Option.toList, List.map_cons, List.map_nil]
      exact (hra2.keeps (hs5.trans hs6)).push (Rd.str _ _)
    · rintro xs2 k2 g4 s3 m3 hs4 ⟨hsz2, hra2⟩ F3
      refine post _ _ _ _ _ F3 ?_
      rwa [List.take_of_length_le (by simp [hostsV])] at hra2
  · intro l3 its3 n3 g3 s hs3 F hl3 post3
    obtain ⟨g4, hs4, F, hll3⟩ := F.rest hl3
    have hs24 := hs3.trans hs4
    have rd3 : Rd g4 (.ref l3) (namesD ks) := Rd.list ⟨_, hll3, rfl, _, rfl⟩ (post3.keeps hs4)
    have Z4 := Z3.keeps hs24
    walk_at "mm"
    refine q_sM PySem.F.slot_dict_get PySem.F.type_dict_get F (mem_at [_, _, _, _, _]) hd1 ?_
    walk_at "mm"
    refine q_sget1 F (mem_at [_, _, _, _, _]) hd1 fun s F => ?_
    walk_at "mm"
    refine c_answer r.less F.gd F.step.keep (bv_rd (Z4.bk x).2) ok fun v g5 s S hv5 => ?_
    have F := F.called S
    obtain ⟨ks', hks', rd5⟩ := ansK_v hv5
    rw [hks'.uniq hks] at rd5
    refine q_neSame ((rd3.keeps S.sub).keeps F.step.keep) (rd5.keeps F.step.keep) (names_can1 hks3) names_dep r ?_
    walk_at "mm"
    exact h g5 s _ oH' kH' b' (((hs1.trans hs2).trans hs24).trans S.sub) F (fun y h1 => by simp only [if_neg h1]) (Z4.keeps S.sub)
theorem br5 {body : List Stmt} {scope : Scope} {Q : Flow → Shared → Prop} {third : Int} {tt : Tok} (hB : LawAt w (loopP ++ [.tl, .tl, .el, .el, .el, .el, .bd]) body scope) (r : Rm A 14 100) (F : Fm w W g0 s0 L ((H, oH) :: (dM, odM) :: (sp, osp) :: (cp, ocp) :: (fr, ofr) :: (bk, obk) :: l2) g s m)
    (D : LawD w i g osp ocp ofr obk kS kC kF kB cps) (Z : LawR w i g HA M sp rg odM R T rl ow H oH kH kB tok b) (S0 : LawS g HA ns M dM nl hl) (hz : i ≤ 90)
    (hm : LawM m M nl hl sp cp fr bk) (hx : m "name" = some (.str x t)) (h3 : m "third" = some (.int third tt)) (hp : m "present" = some (.bool (cps x).isSome)) (hr : m "ring" = some (.ref rg))
    (h : ∀ g' s' m' oH' obk' kH' kB' b', Sub g g' → Fm w W g0 s0 L ((H, oH') :: (dM, odM) :: (sp, osp) :: (cp, ocp) :: (fr, ofr) :: (bk, obk') :: l2) g' s' m' → (∀ y, y ≠ Str.ofString "value" → y ≠ Str.ofString "told" → m' y = m y) → LawR w (i + 1) g' HA M sp rg odM R T rl ow H oH' kH' kB' tok b' → obk'.IsDictOf (SK w) kB' → kB'.length ≤ i + 1 → Q .next s') :
    wpAny (model PW w) A (execs body (envOfC (Str.ofString "law") scope L 928 (.ref 927))) Q NE s := by
  have zB := D.zB
  have hbn := bv_none (Z.bk x).2
  have ok := Z.ok
  have hpos := ok.pos
  have hle := ok.le
  obtain ⟨its, hlr, hsz, hit⟩ := ring_item Z.rg
  walk_at "law"
  walk_at "mm"
  refine q_len F (isl hlr F.step.keep) (by omega) fun s t F => ?_
  walk_at "mm"
  refine q_mod F (by omega) fun s t F => ?_
  walk_at "mm"
  have e1 : third % (its.size : Int) = (((third % (R.length : Int)).toNat : Nat) : Int) := by rw [hsz]; have := Int.emod_nonneg third (show (R.length : Int) ≠ 0 by omega); omega
  have hk : (third % (R.length : Int)).toNat < R.length := by
    have h1 := Int.emod_nonneg third (show (R.length : Int) ≠ 0 by omega)
    have h2 := Int.emod_lt_of_pos third (show 0 < (R.length : Int) by omega)
    omega
  generalize (third % (R.length : Int)).toNat = k at e1 hk
  obtain ⟨Tp, t1, t2, hT, hTup⟩ := hit k hk
  refine q_itemN k (isl hlr F.step.keep) e1 (by omega) hT ?_
  walk_at "mm"
  refine q_tupI 0 (ist hTup F.step.keep) rfl (by omega) rfl ?_
  walk_at "mm"
  have hm' : LawM (fun y => if y = Str.ofString "value" then some (.int ((R.getD k (0, 0)).1 + third / 8 % 3 - 1) t) else m y) M nl hl sp cp fr bk := ⟨hm1, hm2, hm3, hm4, hm5, hm6, hm7⟩
  have fin : ∀ {g1 s1 obk1 kB1}, Sub g g1 → Fm w W g0 s0 L ((H, oH) :: (dM, odM) :: (sp, osp) :: (cp, ocp) :: (fr, ofr) :: (bk, obk1) :: l2) g1 s1 (fun y => if y = Str.ofString "value" then some (.int ((R.getD k (0, 0)).1 + third / 8 % 3 - 1) t) else m y) → obk1.IsDictOf (SK w) kB1 → kB1.length ≤ i + 1 →
      ((kB1 = kB ∧ (cps x = none ∨ hasBook (b x) = true)) ∨ (∃ v cp', hasBook (b x) = false ∧ cps x = some cp' ∧ kB1 = stored kB x v ∧ Rd g1 v (bookD R cp'))) → ∀ {body scope}, LawAt w (loopP ++ [.tl, .tl, .el, .el, .el, .el, .bd, .tl, .tl]) body scope → wpAny (model PW w) A (execs body (envOfC (Str.ofString "law") scope L 928 (.ref 927))) Q NE s1 :=
    fun {g1 s1 obk1 kB1} hs F d z hk1 {body scope} hB => br5r hB r F (D.keeps hs) (Z.keeps hs) (S0.keeps hs) hz d z hk1 hm' hx rfl fun g' s' m' oH' kH' b' hs' F hy Z' => h g' s' m' oH' obk1 kH' kB1 b' (hs.trans hs') F (fun y h1 h2 => (hy y h2).trans (if_neg h1)) Z' d z
  refine q_sM PySem.F.slot_dict_get PySem.F.type_dict_get F (mem_at [_, _, _, _, _]) D.dB ?_
  walk_at "mm"
  refine q_sget1 F (mem_at [_, _, _, _, _]) D.dB fun s F => ?_
  walk_at "mm"
  rw [hbn]
  cases hbb : hasBook (b x) with
  | true =>
    refine q_if_f (by rfl) ?_
    refine wpAny_execs_nil ?_
    exact fin (Sub.refl _) F D.dB (by omega) (.inl ⟨rfl, .inr hbb⟩) ⟨⟨_, by k_is, rfl, rfl⟩⟩
  | false =>
    refine q_if_t (by rfl) ?_
    walk_at "mm"
    cases hcp : cps x with
    | none =>
      refine q_if_f (by rfl) ?_
      first
        | exact fin (Sub.refl _) F D.dB (by omega) (.inl ⟨rfl, .inl hcp⟩) ⟨⟨_, by k_is, rfl, rfl⟩⟩
        | (refine wpAny_execs_nil ?_; exact fin (Sub.refl _) F D.dB (by omega) (.inl ⟨rfl, .inl hcp⟩) ⟨⟨_, by k_is, rfl, rfl⟩⟩)
    | some cp' =>
      refine q_if_t (by rfl) ?_
      walk_at "mm"
      refine wpAny_Assign_Subscript ?_
      walk_at "mm"
      have hcx := D.cp x
      rw [hcp] at hcx
      obtain ⟨tc, hvc⟩ := cpx_some hcx
      refine q_sitem F (mem_at [_, _, _]) D.dC hvc fun s F => ?_
      walk_at "mm"
      have hspx := D.sp x
      rw [hcp] at hspx
      refine c_mapV r.less F.gd F.step.keep Z.rg Z.ok (spx_le hspx) fun u g2 s S hu => ?_
      have F := F.called S
      walk_at "mm"
      refine q_ssetAt [_, _, _, _, _] F D.dB (by omega) fun obk' s F d2 => ?_
      refine wpAny_execs_nil ?_
      exact fin S.sub F d2 (by have := len_stored kB x u; omega) (.inr ⟨u, cp', hbb, hcp, rfl, hu⟩) ⟨⟨_, by k_is, rfl, rfl⟩⟩
end
section
variable {w : World} {W : List Addr} {g0 g : Heap} {s0 s : Shared} {L : Addr} {m : Str → Option Value} {A : Around} {HA : Nat → Addr} {ns : Nat → Int} {M dM nl hl sp cp fr bk rg T rl ow H : Addr} {odM osp ocp ofr obk oH : Obj} {kS kC kF kB kH : List (Str × Value)} {cps b : Str → Option (Option Nat)} {i : Nat} {R : Ring} {tok : Nat → Addr} {l1 l2 : List (Addr × Obj)} {x : Str} {t : Tok}
theorem br6 {body : List Stmt} {scope : Scope} {Q : Flow → Shared → Prop} {cp' : Option Nat} (hB : LawAt w (loopP ++ [.tl, .tl, .el, .el, .el, .el, .el, .bd]) body scope) (r : Rm A 14 100) (F : Fm w W g0 s0 L ((H, oH) :: (dM, odM) :: (sp, osp) :: (cp, ocp) :: (fr, ofr) :: (bk, obk) :: l2) g s m)
    (D : LawD w i g osp ocp ofr obk kS kC kF kB cps) (Z : LawR w i g HA M sp rg odM R T rl ow H oH kH kB tok b) (S0 : LawS g HA ns M dM nl hl)
    (hm : LawM m M nl hl sp cp fr bk) (hx : m "name" = some (.str x t)) (hr : m "ring" = some (.ref rg)) (hcp : cps x = some cp')
    (h : ∀ g' s', Sub g g' → Fm w W g0 s0 L ((H, oH) :: (dM, odM) :: (sp, osp) :: (cp, ocp) :: (fr, ofr) :: (bk, obk) :: l2) g' s' m → Q .next s') :
    wpAny (model PW w) A (execs body (envOfC (Str.ofString "law") scope L 928 (.ref 927))) Q NE s := by
  have hT' := Z.tm
  obtain ⟨dT, u1, t1, u2, t2, u3, t3, u4, t4, u5, t5, n, e1, e2⟩ := hT'
  have ok := Z.ok
  have hspx := D.sp x
  rw [hcp] at hspx
  have hcx := D.cp x
  rw [hcp] at hcx
  obtain ⟨tc, hvc⟩ := cpx_some hcx
  obtain ⟨ks, hvf, hks⟩ : ∃ ks, valueAt kF x = some (.ref ks) ∧ KsOf g ks cp' := by
    have := D.fr x cp' hcp
    revert this
    generalize valueAt kF x = vv
    intro this
    cases vv with
    | none => exact this.elim
    | some v => obtain ⟨ks, rfl, q, _⟩ := this; exact ⟨ks, rfl, q⟩
  have htk : ∀ k, k < R.length → Tk g (tok k) (R.getD k (0, 0)).1 := by
    obtain ⟨its, nn, _, _, q⟩ := Z.rl
    exact fun k hk => (q k hk).2
  walk_at "law"
  walk_at "mm"
  refine q_own (C := 159) F (F.get S0.inst) (F.turnable (.tail _ (.head _))) (by k_is) (by k_is) (by k_is) (by k_is) Z.md.tm (by k_handed) fun s F => ?_
  walk_at "mm"
  refine q_meth (C := 531) (f := 514) F (F.get e1) (F.get e2) (by k_is) (by k_is) (by k_is) (by rfl) ?_
  walk_at "mm"
  refine q_sitem F (mem_at [_, _, _, _]) D.dF hvf fun s F => ?_
  walk_at "mm"
  refine c_rmk r.less F.gd F.step.keep Z.tm hks S0.hs Z.rl Z.ow ok (spx_le hspx) fun v g1 s S hrv => ?_
  have F := F.called S
  have hs1 := S.sub
  walk_at "mm"
  refine c_readV r.less F.gd F.step.keep hrv (S0.keeps hs1).hs (fun k hk => (htk k hk).keeps hs1) ok fun v1 g2 s S hv1 => ?_
  have F := F.called S
  have hs2 := S.sub
  walk_at "mm"
  refine q_sitem F (mem_at [_, _, _]) D.dC hvc fun s F => ?_
  walk_at "mm"
  refine c_mapV r.less F.gd F.step.keep (Z.rg.keeps (hs1.trans hs2)) ok (spx_le hspx) fun v2 g3 s S hv2 => ?_
  have F := F.called S
  have hs3 := S.sub
  refine q_neSame ((hv1.keeps hs3).keeps F.step.keep) (hv2.keeps F.step.keep) (bookD_can ok _) (by have := @bookD_depth R cp'; omega) r ?_
  walk_at "mm"
  exact h g3 s ((hs1.trans hs2).trans hs3) F
end
section
variable {w : World} {W : List Addr} {g0 g : Heap} {s0 s : Shared} {L : Addr} {m : Str → Option Value} {A : Around} {HA : Nat → Addr} {ns : Nat → Int} {M dM nl hl sp cp fr bk rg T rl ow H : Addr} {odM osp ocp ofr obk oH : Obj} {kS kC kF kB kH : List (Str × Value)} {cps b : Str → Option (Option Nat)} {i : Nat} {R : Ring} {tok : Nat → Addr} {l1 l2 : List (Addr × Obj)} {x : Str} {t : Tok}
theorem Fm.repl {x y : Addr × Obj} {l1 l2 : List (Addr × Obj)} (F : Fm w W g0 s0 L (x :: (l1 ++ y :: l2)) g s m) : Fm w W g0 s0 L (l1 ++ x :: l2) g s m := by
  have p : (x :: (l1 ++ y :: l2)).Perm ((l1 ++ x :: l2) ++ [y]) :=
    (List.perm_middle.cons x).trans ((List.Perm.swap y x _).trans ((List.perm_middle.symm.cons y).trans (List.perm_append_comm (l₁ := [y]))))
  exact (F.perm p.symm).drop
theorem br7 {body : List Stmt} {scope : Scope} {Q : Flow → Shared → Prop} {third : Int} {tt : Tok} {tm : Option Value} {c : Nat} (hB : LawAt w (loopP ++ [.tl, .tl, .el, .el, .el, .el, .el, .el, .bd]) body scope) (r : Rm A 14 100) (F : Fm w W g0 s0 L ((dM, odM) :: (sp, osp) :: (cp, ocp) :: (fr, ofr) :: (bk, obk) :: l2) g s m)
    (hd : MdD odM sp tm c) (hc : c ≤ 90) (S0 : LawS g HA ns M dM nl hl) (hm : LawM m M nl hl sp cp fr bk) (h3 : m "third" = some (.int third tt))
    (h0 : ∀ g' s' m' bk' odM', Sub g g' → Fm w W g0 s0 L ((dM, odM') :: (sp, osp) :: (cp, ocp) :: (fr, ofr) :: (bk', emptyD) :: l2) g' s' m' → (∀ y, y ≠ Str.ofString "book" → y ≠ Str.ofString "ring" → m' y = m y) → m' "book" = some (.ref bk') → m' "ring" = some .none → MdD odM' sp (some .none) (c + 2) → Q .next s')
    (h1 : ∀ g' s' m' bk' odM' T rl ow H tok rg R, Sub g g' → Fm w W g0 s0 L ((H, emptyD) :: (dM, odM') :: (sp, osp) :: (cp, ocp) :: (fr, ofr) :: (bk', emptyD) :: l2) g' s' m' → (∀ y, y ≠ Str.ofString "book" → y ≠ Str.ofString "ring" → m' y = m y) → m' "book" = some (.ref bk') → m' "ring" = some (.ref rg) → RingOk R → Rd g' (.ref rg) (ringD R) →
      MdD odM' sp (some (.ref T)) (c + 2) → IsTm g' T rl ow H M → RgOf g' R tok rl → OwOf g' R HA tok ow → Q .next s') :
    wpAny (model PW w) A (execs body (envOfC (Str.ofString "law") scope L 928 (.ref 927))) Q NE s := by
  walk_at "law"
  walk_at "mm"
  refine q_newDictM F fun bk' s F nbk => ?_
  have F := Fm.repl (l1 := [(dM, odM), (sp, osp), (cp, ocp), (fr, ofr)]) (l2 := l2) F
  simp only [List.cons_append, List.nil_append] at F
  walk_at "mm"
  by_cases h30 : third % 3 = 0
  · refine q_if_t (by rw [h30]; rfl) ?_
    walk_at "mm"
    refine q_meth (C := 159) (f := 149) F (F.get S0.inst) (F.turnable (.head _)) (by k_is) (by k_is) (by k_is) (hd.mn (nm := Str.ofString "rebuild_token_map") (by decide)) ?_
    walk_at "mm"
    walk_at "sl"
    refine q_slice4 (a := 4) (b := 8) F S0.n (.inr rfl) rfl fun pl g1 s hs1 F hP => ?_
    walk_at "mm"
    refine c_ring r.less F.gd F.step.keep hP fun rg2 g2 s S hR => ?_
    have F := F.called S
    have hs2 := hs1.trans S.sub
    walk_at "mm"
    have S2 := S0.keeps hs2
    refine c_rows r.less F.gd F.step.keep hR S2.hs S2.hl (ringOf_ok _) fun rw g3 s S hRw => ?_
    have F := F.called S
    have hs3 := hs2.trans S.sub
    have S3 := S0.keeps hs3
    walk_at "mm"
    refine q_rtm0J r.less F S3.inst hd hc fun g4 s odM' hs4 F hd' => ?_
    walk_at "mm"
    exact h0 g4 s _ bk' odM' (hs3.trans hs4) F (fun y h1 h2 => by simp only [if_neg h1, if_neg h2]) rfl rfl hd'
  · refine q_if_f (by simpa using h30) ?_
    walk_at "mm"
    walk_at "sl"
    refine q_slice4 (a := 4) (b := 8) F S0.n (.inr rfl) rfl fun pl g1 s hs1 F hP => ?_
    walk_at "mm"
    refine c_ring r.less F.gd F.step.keep hP fun rg2 g2 s S hR => ?_
    have F := F.called S
    have hs2 := hs1.trans S.sub
    walk_at "mm"
    have S2 := S0.keeps hs2
    refine q_meth (C := 159) (f := 149) F (F.get S2.inst) (F.turnable (.head _)) (by k_is) (by k_is) (by k_is) (hd.mn (nm := Str.ofString "rebuild_token_map") (by decide)) ?_
    walk_at "mm"
    refine c_rows r.less F.gd F.step.keep hR S2.hs S2.hl (ringOf_ok _) fun rw g3 s S hRw => ?_
    have F := F.called S
    have hs3' := S.sub
    have hs3 := hs2.trans S.sub
    have S3 := S0.keeps hs3
    walk_at "mm"
    refine q_rtmJ r.less F S3.inst hd hc hRw S3.hs (ringOf_ok _) fun T rl ow H tok g4 s odM' hs4 F hd' hT hRg hOw => ?_
    walk_at "mm"
    exact h1 g4 s _ bk' odM' T rl ow H tok rg2 _ (hs3.trans hs4) F (fun y h1 h2 => by simp only [if_neg h1, if_neg h2]) rfl rfl (ringOf_ok _) (hR.keeps (hs3'.trans hs4)) hd' hT hRg hOw
end
theorem hv_rv {g : Heap} {R : Ring} {HA tok : Nat → Addr} {bo : Option (Option Nat)} {v : Option Value} (h : HvOf g R HA tok bo v) : RvOf g R HA tok bo.join (v.getD .none) := by
  rcases bo with _ | cp <;> cases v <;> simp only [HvOf] at h
  · rfl
  · exact h
section
variable {w : World} {W : List Addr} {g0 g : Heap} {s0 s : Shared} {L : Addr} {m : Str → Option Value} {A : Around} {HA : Nat → Addr} {ns : Nat → Int} {M dM nl hl sp cp fr bk rg T rl ow H : Addr} {odM osp ocp ofr obk oH : Obj} {kS kC kF kB kH : List (Str × Value)} {cps b : Str → Option (Option Nat)} {i : Nat} {R : Ring} {tok : Nat → Addr} {l1 l2 : List (Addr × Obj)} {x : Str} {t : Tok}
theorem tlA {body : List Stmt} {scope : Scope} {Q : Flow → Shared → Prop} {c : Nat} (hB : LawAt w (loopP ++ [.tl, .tl, .tl]) body scope) (F : Fm w W g0 s0 L ((dM, odM) :: l2) g s m) (hd : MdD odM sp (some .none) c) (S0 : LawS g HA ns M dM nl hl)
    (hm : LawM m M nl hl sp cp fr bk) (hr : m "ring" = some .none) (h : ∀ s', Fm w W g0 s0 L ((dM, odM) :: l2) g s' m → Q .next s') :
    wpAny (model PW w) A (execs body (envOfC (Str.ofString "law") scope L 928 (.ref 927))) Q NE s := by
  walk_at "law"
  walk_at "mm"
  refine q_own (C := 159) F (F.get S0.inst) (F.turnable (.head _)) (by k_is) (by k_is) (by k_is) (by k_is) hd.tm (by k_handed) fun s F => ?_
  walk_at "mm"
  exact h s F
theorem tlB {body : List Stmt} {scope : Scope} {Q : Flow → Shared → Prop} (hB : LawAt w (loopP ++ [.tl, .tl, .tl]) body scope) (r : Rm A 14 100) (F : Fm w W g0 s0 L ((H, oH) :: (dM, odM) :: (sp, osp) :: (cp, ocp) :: (fr, ofr) :: (bk, obk) :: l2) g s m)
    (dB : obk.IsDictOf (SK w) kB) (Z : LawR w i g HA M sp rg odM R T rl ow H oH kH kB tok b) (S0 : LawS g HA ns M dM nl hl)
    (hm : LawM m M nl hl sp cp fr bk) (hr : m "ring" = some (.ref rg))
    (h : ∀ g' s' m', Sub g g' → Fm w W g0 s0 L ((H, oH) :: (dM, odM) :: (sp, osp) :: (cp, ocp) :: (fr, ofr) :: (bk, obk) :: l2) g' s' m' → (∀ y, y ≠ Str.ofString "held" → m' y = m y) → Q .next s') :
    wpAny (model PW w) A (execs body (envOfC (Str.ofString "law") scope L 928 (.ref 927))) Q NE s := by
  have hT' := Z.tm
  obtain ⟨dT, u1, t1, u2, t2, u3, t3, u4, t4, u5, t5, n, e1, e2⟩ := hT'
  have ok := Z.ok
  have htk : ∀ k, k < R.length → Tk g (tok k) (R.getD k (0, 0)).1 := by
    obtain ⟨its, nn, _, _, q⟩ := Z.rl
    exact fun k hk => (q k hk).2
  walk_at "law"
  walk_at "mm"
  refine q_own (C := 159) F (F.get S0.inst) (F.turnable (.tail _ (.head _))) (by k_is) (by k_is) (by k_is) (by k_is) Z.md.tm (by k_handed) fun s F => ?_
  walk_at "mm"
  refine q_own (C := 159) F (F.get S0.inst) (F.turnable (.tail _ (.head _))) (by k_is) (by k_is) (by k_is) (by k_is) Z.md.tm (by k_handed) fun s F => ?_
  walk_at "mm"
  refine q_own (C := 531) F (F.get e1) (F.get e2) (by k_is) (by k_is) (by k_is) (by k_is) (by rfl) (by k_handed) fun s F => ?_
  walk_at "mm"
  refine q_sM PySem.F.slot_dict_get PySem.F.type_dict_get F (.head _) Z.dH ?_
  walk_at "mm"
  refine q_sget2 F (.head _) Z.dH fun s F => ?_
  walk_at "mm"
  refine c_readV r.less F.gd F.step.keep (hv_rv (Z.bk _).1) S0.hs htk ok fun v1 g1 s S hv1 => ?_
  have F := F.called S
  have hs1 := S.sub
  walk_at "mm"
  refine q_sM PySem.F.slot_dict_get PySem.F.type_dict_get F (mem_at [_, _, _, _, _]) dB ?_
  walk_at "mm"
  refine q_sget1 F (mem_at [_, _, _, _, _]) dB fun s F => ?_
  refine q_neSame (hv1.keeps F.step.keep) ((bv_rd ((Z.bk _).2.keeps hs1)).keeps F.step.keep) (bookD_can ok _) (by have := @bookD_depth R (b (Str.ofString "x")).join; omega) r ?_
  walk_at "mm"
  refine q_sM PySem.F.slot_dict_get PySem.F.type_dict_get F (.head _) Z.dH ?_
  walk_at "mm"
  refine q_sget2 F (.head _) Z.dH fun s F => ?_
  walk_at "mm"
  refine c_readV r.less F.gd F.step.keep (hv_rv ((Z.keeps hs1).bk _).1) (S0.keeps hs1).hs (fun k hk => (htk k hk).keeps hs1) ok fun v2 g2 s S hv2 => ?_
  have F := F.called S
  have hs2 := hs1.trans S.sub
  walk_at "mm"
  refine q_sM PySem.F.slot_dict_get PySem.F.type_dict_get F (mem_at [_, _, _, _, _]) dB ?_
  walk_at "mm"
  refine q_sget1 F (mem_at [_, _, _, _, _]) dB fun s F => ?_
  refine q_neSame (hv2.keeps F.step.keep) ((bv_rd ((Z.bk _).2.keeps hs2)).keeps F.step.keep) (bookD_can ok _) (by have := @bookD_depth R (b (Str.ofString "y")).join; omega) r ?_
  walk_at "mm"
  exact h g2 s _ hs2 F fun y h1 => by simp only [if_neg h1]
end
def LawJ (w : World) (HA : Nat → Addr) (M dM nl hl sp cp fr : Addr) (i : Nat) (ms : List (Addr × Obj)) (g : Heap) (m : Str → Option Value) : Prop :=
  ∃ odM osp ocp ofr obk bk kS kC kF kB cps, LawD w i g osp ocp ofr obk kS kC kF kB cps ∧ LawM m M nl hl sp cp fr bk ∧
    ((m "ring" = some .none ∧ MdD odM sp (some .none) (5 + 2 * i) ∧ ms = [(dM, odM), (sp, osp), (cp, ocp), (fr, ofr), (bk, obk)]) ∨
     (∃ R T rl ow H oH kH tok b rg, LawR w i g HA M sp rg odM R T rl ow H oH kH kB tok b ∧ m "ring" = some (.ref rg) ∧ ms = [(H, oH), (dM, odM), (sp, osp), (cp, ocp), (fr, ofr), (bk, obk)]))
theorem LawM.of {m m' : Str → Option Value} {M nl hl sp cp fr bk : Addr} (h : LawM m M nl hl sp cp fr bk) (ys : List Str) (hy : ∀ y, y ∉ ys → m' y = m y) (h1 : Str.ofString "meta" ∉ ys ∧ Str.ofString "n" ∉ ys ∧ Str.ofString "hosts" ∉ ys ∧ Str.ofString "spaces" ∉ ys ∧ Str.ofString "copies" ∉ ys ∧ Str.ofString "fresh" ∉ ys ∧ Str.ofString "book" ∉ ys) : LawM m' M nl hl sp cp fr bk :=
  ⟨(hy _ h1.1).trans h.me, (hy _ h1.2.1).trans h.n, (hy _ h1.2.2.1).trans h.hl, (hy _ h1.2.2.2.1).trans h.sp, (hy _ h1.2.2.2.2.1).trans h.cp, (hy _ h1.2.2.2.2.2.1).trans h.fr, (hy _ h1.2.2.2.2.2.2).trans h.bk⟩
theorem LawM.re {m m' : Str → Option Value} {M nl hl sp cp fr bk bk' : Addr} (h : LawM m M nl hl sp cp fr bk) (hy : ∀ y, y ≠ Str.ofString "book" → y ≠ Str.ofString "ring" → m' y = m y) (hb : m' "book" = some (.ref bk')) : LawM m' M nl hl sp cp fr bk' :=
  ⟨(hy _ (by decide) (by decide)).trans h.me, (hy _ (by decide) (by decide)).trans h.n, (hy _ (by decide) (by decide)).trans h.hl, (hy _ (by decide) (by decide)).trans h.sp, (hy _ (by decide) (by decide)).trans h.cp, (hy _ (by decide) (by decide)).trans h.fr, hb⟩
theorem cpS_le (n : Nat) : ∀ c, cpS n = some c → c ≤ 3 := by
  intro c h
  unfold cpS at h
  split at h
  · cases h; omega
  · split at h
    · cases h; omega
    · cases h
section
variable {w : World} {W : List Addr} {g0 g : Heap} {s0 s : Shared} {L : Addr} {m : Str → Option Value} {A : Around} {HA : Nat → Addr} {ns : Nat → Int} {M dM nl hl sp cp fr : Addr} {i : Nat} {ms l2 : List (Addr × Obj)}
theorem law_turn {body : List Stmt} {scope : Scope} {Q : Flow → Shared → Prop} {tj : Tok} (hB : LawAt w loopP body scope) (r : Rm A 14 100) (F : Fm w W g0 s0 L (ms ++ l2) g s m) (hJ : LawJ w HA M dM nl hl sp cp fr i ms g m) (S0 : LawS g HA ns M dM nl hl) (hi : i < 10) (hj : m "j" = some (.int i tj))
    (h : ∀ g' s' m' ms', Sub g g' → Fm w W g0 s0 L (ms' ++ l2) g' s' m' → LawJ w HA M dM nl hl sp cp fr (i + 1) ms' g' m' → Q .next s') :
    wpAny (model PW w) A (execs body (envOfC (Str.ofString "law") scope L 928 (.ref 927))) Q NE s := by
  obtain ⟨odM, osp, ocp, ofr, obk, bk, kS, kC, kF, kB, cps, D, hm, hring⟩ := hJ
  obtain ⟨its, hln, hz38, hits⟩ := S0.n
  have hm0 := hm
  walk_at "law"
  walk_at "mm"
  obtain ⟨t8, e8⟩ := hits (8 + 3 * i) (by omega)
  obtain ⟨t9, e9⟩ := hits (9 + 3 * i) (by omega)
  obtain ⟨t10, e10⟩ := hits (10 + 3 * i) (by omega)
  refine Assign_Tuple_swapped (names := ["kind", "name", "third"]) ?_
  walk_at "mm"
  refine q_itemN (8 + 3 * i) (isl hln F.step.keep) (by push_cast; rfl) (by omega) e8 ?_
  walk_at "mm"
  refine q_itemN (9 + 3 * i) (isl hln F.step.keep) (by push_cast; rfl) (by omega) e9 ?_
  walk_at "mm"
  refine q_xy F (by omega) (by omega) fun s t F => ?_
  walk_at "mm"
  refine q_itemN (10 + 3 * i) (isl hln F.step.keep) (by push_cast; rfl) (by omega) e10 ?_
  walk_at "mm"
  refine q_newTup F (by simp) fun tp g1 s hs1 F htp => ?_
  refine q_unpack r.hd F ⟨_, F.get htp, rfl, _, rfl⟩ rfl fun g2 s hs2 F => ?_
  refine assignInOrder_cons (e_bind (L := L) ⟨rfl, rfl, rfl, rfl⟩ F (fun s F => assignInOrder_cons (e_bind (L := L) ⟨rfl, rfl, rfl, rfl⟩ F (fun s F => assignInOrder_cons (e_bind (L := L) ⟨rfl, rfl, rfl, rfl⟩ F (fun s F => assignInOrder_nil ?_) rfl)) rfl)) rfl)
  have hs := hs1.trans hs2
  have D := D.keeps hs
  have S0 := S0.keeps hs
  have hkb : 0 ≤ ns (8 + 3 * i) % 8 ∧ ns (8 + 3 * i) % 8 < 8 := by omega
  have hxb : (ns (9 + 3 * i) % 2).toNat = 0 ∨ (ns (9 + 3 * i) % 2).toNat = 1 := by omega
  generalize ns (8 + 3 * i) % 8 = kd at hkb F
  generalize ns (10 + 3 * i) = third at F
  generalize hx : nmk (ns (9 + 3 * i) % 2).toNat = x at F
  have hx01 : x = nmk 0 ∨ x = nmk 1 := by rw [← hx]; rcases hxb with e | e <;> rw [e] <;> simp
  have hcpm : (cp, ocp) ∈ ms ++ l2 := by
    rcases hring with ⟨_, _, rfl⟩ | ⟨_, _, _, _, _, _, _, _, _, _, _, _, rfl⟩
    · exact mem_at [_, _]
    · exact mem_at [_, _, _]
  walk_at "lv"
  refine q_sin F hcpm D.dC fun s F => ?_
  rw [cp_some (D.cp x)]
  walk_at "tt"
  obtain ⟨m1, F, hm1, hnm, hkd, hth, hpr, hrg⟩ : ∃ m1 : Str → Option Value, Fm w W g0 s0 L (ms ++ l2) g2 s m1 ∧ LawM m1 M nl hl sp cp fr bk ∧ (∃ t, m1 "name" = some (.str x t)) ∧ (∃ t, m1 "kind" = some (.int kd t)) ∧ (∃ t, m1 "third" = some (.int third t)) ∧ m1 "present" = some (.bool (cps x).isSome) ∧ m1 "ring" = m "ring" :=
    ⟨_, F, ⟨hm1, hm2, hm3, hm4, hm5, hm6, hm7⟩, ⟨_, by walk_at "hv"⟩, ⟨_, by walk_at "hv"⟩, ⟨_, by walk_at "hv"⟩, by walk_at "hv", by rfl⟩
  obtain ⟨tn, hnm⟩ := hnm
  obtain ⟨tk, hkd⟩ := hkd
  obtain ⟨tt, hth⟩ := hth
  have fin : ∀ {g' s' m' ms'} {body scope}, Sub g2 g' → Fm w W g0 s0 L (ms' ++ l2) g' s' m' → LawJ w HA M dM nl hl sp cp fr (i + 1) ms' g' m' → LawAt w (loopP ++ [.tl, .tl, .tl]) body scope → wpAny (model PW w) A (execs body (envOfC (Str.ofString "law") scope L 928 (.ref 927))) Q NE s' := by
    rintro g' s' m' ms' body scope hs' F ⟨odM, osp, ocp, ofr, obk, bk, kS, kC, kF, kB, cps, D, hm, hring⟩ hB
    rcases hring with ⟨hr, hmd, rfl⟩ | ⟨R, T, rl, ow, H, oH, kH, tok, b, rg, Z, hr, rfl⟩
    · exact tlA hB F hmd (S0.keeps hs') hm hr fun s2 F => h g' s2 m' _ (hs.trans hs') F ⟨odM, osp, ocp, ofr, obk, bk, kS, kC, kF, kB, cps, D, hm, .inl ⟨hr, hmd, rfl⟩⟩
    · exact tlB hB r F D.dB Z (S0.keeps hs') hm hr fun g3 s3 m3 hs3 F hy => h g3 s3 m3 [(H, oH), (dM, odM), (sp, osp), (cp, ocp), (fr, ofr), (bk, obk)] ((hs.trans hs').trans hs3) F
        ⟨odM, osp, ocp, ofr, obk, bk, kS, kC, kF, kB, cps, D.keeps hs3, hm.of ["held"] (fun y hy' => hy y (by simpa using hy')) (by decide), .inr ⟨R, T, rl, ow, H, oH, kH, tok, b, rg, Z.keeps hs3, (hy _ (by decide)).trans hr, rfl⟩⟩
  have zi : i ≤ 90 := by omega
  clear h
  rcases hring with ⟨hr, hmd, rfl⟩ | ⟨R, T, rl, ow, H, oH, kH, tok, b, rg, Z, hr, rfl⟩
  · rw [hr] at hrg
    obtain e | e | e | e | e | e | e | e : kd = 0 ∨ kd = 1 ∨ kd = 2 ∨ kd = 3 ∨ kd = 4 ∨ kd = 5 ∨ kd = 6 ∨ kd = 7 := by omega
    · rw [e] at hkd
      walk_at "lv"
      refine br0 (l1 := [(dM, odM)]) (l2 := (bk, obk) :: l2) ⟨⟨_, by k_is, rfl, rfl⟩⟩ r.less F D (by omega) hm1 hnm hth fun g' s' m' osp' ocp' ofr' ks u hs' F hy hks d1 d2 d3 => ?_
      repeat refine wpAny_execs_nil ?_
      exact fin hs' F ⟨odM, osp', ocp', ofr', obk, bk, _, _, _, kB, _, (D.keeps hs').lay hx01 hks (cpS_le _) d1 d2 d3, hm1.of ["made", "many"] (fun y h => hy y (by simp at h; exact h.1) (by simp at h; exact h.2)) (by decide), .inl ⟨(hy _ (by decide) (by decide)).trans hrg, hmd.mono (by omega), rfl⟩⟩ ⟨⟨_, by k_is, rfl, rfl⟩⟩
    · rw [e] at hkd
      walk_at "lv"
      walk_at "lv"
      refine br1 (l1 := [(dM, odM)]) (l2 := (fr, ofr) :: (bk, obk) :: l2) ⟨⟨_, by k_is, rfl, rfl⟩⟩ F D (by omega) hm1 hnm fun s' osp' ocp' F d1 d2 => ?_
      repeat refine wpAny_execs_nil ?_
      exact fin (Sub.refl _) F ⟨odM, osp', ocp', ofr, obk, bk, _, _, kF, kB, _, D.pop d1 d2, hm1, .inl ⟨hrg, hmd.mono (by omega), rfl⟩⟩ ⟨⟨_, by k_is, rfl, rfl⟩⟩
    · rw [e] at hkd
      walk_at "lv"
      walk_at "lv"
      walk_at "lv"
      refine br23a (l2 := (cp, ocp) :: (fr, ofr) :: (bk, obk) :: l2) ⟨⟨_, by k_is, rfl, rfl⟩⟩ r.less F hmd S0 hm1 hnm hkd (.inl rfl) hpr hrg fun g' s' hs' F => ?_
      repeat refine wpAny_execs_nil ?_
      exact fin hs' F ⟨odM, osp, ocp, ofr, obk, bk, kS, kC, kF, kB, cps, (D.keeps hs').next, hm1, .inl ⟨hrg, hmd.mono (by omega), rfl⟩⟩ ⟨⟨_, by k_is, rfl, rfl⟩⟩
    · rw [e] at hkd
      walk_at "lv"
      walk_at "lv"
      walk_at "lv"
      refine br23a (l2 := (cp, ocp) :: (fr, ofr) :: (bk, obk) :: l2) ⟨⟨_, by k_is, rfl, rfl⟩⟩ r.less F hmd S0 hm1 hnm hkd (.inr rfl) hpr hrg fun g' s' hs' F => ?_
      repeat refine wpAny_execs_nil ?_
      exact fin hs' F ⟨odM, osp, ocp, ofr, obk, bk, kS, kC, kF, kB, cps, (D.keeps hs').next, hm1, .inl ⟨hrg, hmd.mono (by omega), rfl⟩⟩ ⟨⟨_, by k_is, rfl, rfl⟩⟩
    · rw [e] at hkd
      walk_at "lv"
      walk_at "lv"
      walk_at "lv"
      walk_at "lv"
      refine br4a (l2 := l2) ⟨⟨_, by k_is, rfl, rfl⟩⟩ r.less F D hmd S0 (by omega) hm1 hnm hpr fun g' s' obk' hs' F d1 => ?_
      repeat refine wpAny_execs_nil ?_
      exact fin hs' F ⟨odM, osp, ocp, ofr, obk', bk, kS, kC, kF, _, cps, (D.keeps hs').next.book d1 (by have := len_without kB x; have := D.zB; omega), hm1, .inl ⟨hrg, hmd.mono (by omega), rfl⟩⟩ ⟨⟨_, by k_is, rfl, rfl⟩⟩
    · rw [e] at hkd
      walk_at "lv"
      walk_at "lv"
      walk_at "lv"
      walk_at "lv"
      walk_at "lv"
      walk_at "lv"
      walk_at "lv"
      repeat refine wpAny_execs_nil ?_
      exact fin (Sub.refl _) F ⟨odM, osp, ocp, ofr, obk, bk, kS, kC, kF, kB, cps, D.next, hm1, .inl ⟨hrg, hmd.mono (by omega), rfl⟩⟩ ⟨⟨_, by k_is, rfl, rfl⟩⟩
    · rw [e] at hkd
      walk_at "lv"
      walk_at "lv"
      walk_at "lv"
      walk_at "lv"
      walk_at "lv"
      walk_at "lv"
      walk_at "lv"
      repeat refine wpAny_execs_nil ?_
      exact fin (Sub.refl _) F ⟨odM, osp, ocp, ofr, obk, bk, kS, kC, kF, kB, cps, D.next, hm1, .inl ⟨hrg, hmd.mono (by omega), rfl⟩⟩ ⟨⟨_, by k_is, rfl, rfl⟩⟩
    · rw [e] at hkd
      walk_at "lv"
      walk_at "lv"
      walk_at "lv"
      walk_at "lv"
      walk_at "lv"
      walk_at "lv"
      walk_at "lv"
      refine br7 (l2 := l2) ⟨⟨_, by k_is, rfl, rfl⟩⟩ r F hmd (by omega) S0 hm1 hth ?_ ?_
      · intro g' s' m' bk' odM' hs' F hy hb1 hr1 hmd'
        have hmm := hm1.re hy hb1
        repeat refine wpAny_execs_nil ?_
        exact fin hs' F ⟨odM', osp, ocp, ofr, emptyD, bk', kS, kC, kF, [], cps, (D.keeps hs').next.book (emptyD_is {}) (by simp), hmm, .inl ⟨hr1, hmd'.mono (by omega), rfl⟩⟩ ⟨⟨_, by k_is, rfl, rfl⟩⟩
      · intro g' s' m' bk' odM' T rl ow H tok rg R hs' F hy hb1 hr1 ok hR hmd' hT hRg hOw
        have hmm := hm1.re hy hb1
        repeat refine wpAny_execs_nil ?_
        exact fin (ms' := [(H, emptyD), (dM, odM'), (sp, osp), (cp, ocp), (fr, ofr), (bk', emptyD)]) hs' F ⟨odM', osp, ocp, ofr, emptyD, bk', kS, kC, kF, [], cps, (D.keeps hs').next.book (emptyD_is {}) (by simp), hmm, .inr ⟨R, T, rl, ow, H, emptyD, [], tok, fun _ => none, rg, ⟨ok, hR, hmd'.mono (by omega), hT, hRg, hOw, emptyD_is {}, by simp, fun x => ⟨trivial, trivial⟩⟩, hr1, rfl⟩⟩ ⟨⟨_, by k_is, rfl, rfl⟩⟩
  · rw [hr] at hrg
    have Z := Z.keeps hs
    obtain e | e | e | e | e | e | e | e : kd = 0 ∨ kd = 1 ∨ kd = 2 ∨ kd = 3 ∨ kd = 4 ∨ kd = 5 ∨ kd = 6 ∨ kd = 7 := by omega
    · rw [e] at hkd
      walk_at "lv"
      refine br0 (l1 := [(H, oH), (dM, odM)]) (l2 := (bk, obk) :: l2) ⟨⟨_, by k_is, rfl, rfl⟩⟩ r.less F D (by omega) hm1 hnm hth fun g' s' m' osp' ocp' ofr' ks u hs' F hy hks d1 d2 d3 => ?_
      repeat refine wpAny_execs_nil ?_
      exact fin (ms' := [(H, oH), (dM, odM), (sp, osp'), (cp, ocp'), (fr, ofr'), (bk, obk)]) hs' F ⟨odM, osp', ocp', ofr', obk, bk, _, _, _, kB, _, (D.keeps hs').lay hx01 hks (cpS_le _) d1 d2 d3, hm1.of ["made", "many"] (fun y h => hy y (by simp at h; exact h.1) (by simp at h; exact h.2)) (by decide), .inr ⟨R, T, rl, ow, H, oH, kH, tok, b, rg, (Z.keeps hs').next, (hy _ (by decide) (by decide)).trans hrg, rfl⟩⟩ ⟨⟨_, by k_is, rfl, rfl⟩⟩
    · rw [e] at hkd
      walk_at "lv"
      walk_at "lv"
      refine br1 (l1 := [(H, oH), (dM, odM)]) (l2 := (fr, ofr) :: (bk, obk) :: l2) ⟨⟨_, by k_is, rfl, rfl⟩⟩ F D (by omega) hm1 hnm fun s' osp' ocp' F d1 d2 => ?_
      repeat refine wpAny_execs_nil ?_
      exact fin (ms' := [(H, oH), (dM, odM), (sp, osp'), (cp, ocp'), (fr, ofr), (bk, obk)]) (Sub.refl _) F ⟨odM, osp', ocp', ofr, obk, bk, _, _, kF, kB, _, D.pop d1 d2, hm1, .inr ⟨R, T, rl, ow, H, oH, kH, tok, b, rg, Z.next, hrg, rfl⟩⟩ ⟨⟨_, by k_is, rfl, rfl⟩⟩
    · rw [e] at hkd
      walk_at "lv"
      walk_at "lv"
      walk_at "lv"
      refine br23b (l2 := l2) ⟨⟨_, by k_is, rfl, rfl⟩⟩ r.less F D Z S0 (by omega) hm1 hnm hkd (.inl rfl) hpr hrg fun g' s' oH' obk' kH' kB' b' hs' F Z' d1 z1 => ?_
      repeat refine wpAny_execs_nil ?_
      exact fin (ms' := [(H, oH'), (dM, odM), (sp, osp), (cp, ocp), (fr, ofr), (bk, obk')]) hs' F ⟨odM, osp, ocp, ofr, obk', bk, kS, kC, kF, kB', cps, (D.keeps hs').next.book d1 z1, hm1, .inr ⟨R, T, rl, ow, H, oH', kH', tok, b', rg, Z', hrg, rfl⟩⟩ ⟨⟨_, by k_is, rfl, rfl⟩⟩
    · rw [e] at hkd
      walk_at "lv"
      walk_at "lv"
      walk_at "lv"
      refine br23b (l2 := l2) ⟨⟨_, by k_is, rfl, rfl⟩⟩ r.less F D Z S0 (by omega) hm1 hnm hkd (.inr rfl) hpr hrg fun g' s' oH' obk' kH' kB' b' hs' F Z' d1 z1 => ?_
      repeat refine wpAny_execs_nil ?_
      exact fin (ms' := [(H, oH'), (dM, odM), (sp, osp), (cp, ocp), (fr, ofr), (bk, obk')]) hs' F ⟨odM, osp, ocp, ofr, obk', bk, kS, kC, kF, kB', cps, (D.keeps hs').next.book d1 z1, hm1, .inr ⟨R, T, rl, ow, H, oH', kH', tok, b', rg, Z', hrg, rfl⟩⟩ ⟨⟨_, by k_is, rfl, rfl⟩⟩
    · rw [e] at hkd
      walk_at "lv"
      walk_at "lv"
      walk_at "lv"
      walk_at "lv"
      refine br4b (l2 := l2) ⟨⟨_, by k_is, rfl, rfl⟩⟩ r.less F D Z S0 (by omega) hm1 hnm hpr fun g' s' oH' obk' kH' kB' b' hs' F Z' d1 z1 => ?_
      repeat refine wpAny_execs_nil ?_
      exact fin (ms' := [(H, oH'), (dM, odM), (sp, osp), (cp, ocp), (fr, ofr), (bk, obk')]) hs' F ⟨odM, osp, ocp, ofr, obk', bk, kS, kC, kF, kB', cps, (D.keeps hs').next.book d1 z1, hm1, .inr ⟨R, T, rl, ow, H, oH', kH', tok, b', rg, Z', hrg, rfl⟩⟩ ⟨⟨_, by k_is, rfl, rfl⟩⟩
    · rw [e] at hkd
      walk_at "lv"
      walk_at "lv"
      walk_at "lv"
      walk_at "lv"
      walk_at "lv"
      refine br5 (l2 := l2) ⟨⟨_, by k_is, rfl, rfl⟩⟩ r F D Z S0 (by omega) hm1 hnm hth hpr hrg fun g' s' m' oH' obk' kH' kB' b' hs' F hy Z' d1 z1 => ?_
      repeat refine wpAny_execs_nil ?_
      exact fin (ms' := [(H, oH'), (dM, odM), (sp, osp), (cp, ocp), (fr, ofr), (bk, obk')]) hs' F ⟨odM, osp, ocp, ofr, obk', bk, kS, kC, kF, kB', cps, (D.keeps hs').next.book d1 z1, hm1.of ["value", "told"] (fun y h => hy y (by simp at h; exact h.1) (by simp at h; exact h.2)) (by decide), .inr ⟨R, T, rl, ow, H, oH', kH', tok, b', rg, Z', (hy _ (by decide) (by decide)).trans hrg, rfl⟩⟩ ⟨⟨_, by k_is, rfl, rfl⟩⟩
    · rw [e] at hkd
      walk_at "lv"
      walk_at "lv"
      walk_at "lv"
      walk_at "lv"
      walk_at "lv"
      walk_at "lv"
      cases hcp : cps x with
      | none =>
        refine q_if_f (by rfl) ?_
        walk_at "lv"
        repeat refine wpAny_execs_nil ?_
        exact fin (ms' := [(H, oH), (dM, odM), (sp, osp), (cp, ocp), (fr, ofr), (bk, obk)]) (Sub.refl _) F ⟨odM, osp, ocp, ofr, obk, bk, kS, kC, kF, kB, cps, D.next, hm1, .inr ⟨R, T, rl, ow, H, oH, kH, tok, b, rg, Z.next, hrg, rfl⟩⟩ ⟨⟨_, by k_is, rfl, rfl⟩⟩
      | some cp' =>
        refine q_if_t (by rfl) ?_
        walk_at "tt"
        refine br6 (l2 := l2) ⟨⟨_, by k_is, rfl, rfl⟩⟩ r F D Z S0 hm1 hnm hrg hcp fun g' s' hs' F => ?_
        repeat refine wpAny_execs_nil ?_
        exact fin (ms' := [(H, oH), (dM, odM), (sp, osp), (cp, ocp), (fr, ofr), (bk, obk)]) hs' F ⟨odM, osp, ocp, ofr, obk, bk, kS, kC, kF, kB, cps, (D.keeps hs').next, hm1, .inr ⟨R, T, rl, ow, H, oH, kH, tok, b, rg, (Z.keeps hs').next, hrg, rfl⟩⟩ ⟨⟨_, by k_is, rfl, rfl⟩⟩
    · rw [e] at hkd
      walk_at "lv"
      walk_at "lv"
      walk_at "lv"
      walk_at "lv"
      walk_at "lv"
      walk_at "lv"
      walk_at "lv"
      have F := Fm.dropL (l1 := [(H, oH)]) F
      refine br7 (l2 := l2) ⟨⟨_, by k_is, rfl, rfl⟩⟩ r F Z.md (by omega) S0 hm1 hth ?_ ?_
      · intro g' s' m' bk' odM' hs' F hy hb1 hr1 hmd'
        have hmm := hm1.re hy hb1
        repeat refine wpAny_execs_nil ?_
        exact fin (ms' := [(dM, odM'), (sp, osp), (cp, ocp), (fr, ofr), (bk', emptyD)]) hs' F ⟨odM', osp, ocp, ofr, emptyD, bk', kS, kC, kF, [], cps, (D.keeps hs').next.book (emptyD_is {}) (by simp), hmm, .inl ⟨hr1, hmd'.mono (by omega), rfl⟩⟩ ⟨⟨_, by k_is, rfl, rfl⟩⟩
      · intro g' s' m' bk' odM' T rl ow H tok rg R hs' F hy hb1 hr1 ok hR hmd' hT hRg hOw
        have hmm := hm1.re hy hb1
        repeat refine wpAny_execs_nil ?_
        exact fin (ms' := [(H, emptyD), (dM, odM'), (sp, osp), (cp, ocp), (fr, ofr), (bk', emptyD)]) hs' F ⟨odM', osp, ocp, ofr, emptyD, bk', kS, kC, kF, [], cps, (D.keeps hs').next.book (emptyD_is {}) (by simp), hmm, .inr ⟨R, T, rl, ow, H, emptyD, [], tok, fun _ => none, rg, ⟨ok, hR, hmd'.mono (by omega), hT, hRg, hOw, emptyD_is {}, by simp, fun x => ⟨trivial, trivial⟩⟩, hr1, rfl⟩⟩ ⟨⟨_, by k_is, rfl, rfl⟩⟩
end
theorem LawJ.keeps {w : World} {HA : Nat → Addr} {M dM nl hl sp cp fr : Addr} {i : Nat} {ms : List (Addr × Obj)} {g g' : Heap} {m : Str → Option Value} (x : LawJ w HA M dM nl hl sp cp fr i ms g m) (k : Sub g g') : LawJ w HA M dM nl hl sp cp fr i ms g' m := by
  obtain ⟨odM, osp, ocp, ofr, obk, bk, kS, kC, kF, kB, cps, D, hm, hring⟩ := x
  refine ⟨odM, osp, ocp, ofr, obk, bk, kS, kC, kF, kB, cps, D.keeps k, hm, ?_⟩
  rcases hring with q | ⟨R, T, rl, ow, H, oH, kH, tok, b, rg, Z, q⟩
  · exact .inl q
  · exact .inr ⟨R, T, rl, ow, H, oH, kH, tok, b, rg, Z.keeps k, q⟩
theorem LawJ.chg {w : World} {HA : Nat → Addr} {M dM nl hl sp cp fr : Addr} {i : Nat} {ms : List (Addr × Obj)} {g : Heap} {m m' : Str → Option Value} (x : LawJ w HA M dM nl hl sp cp fr i ms g m) (hy : ∀ y, y ≠ Str.ofString "j" → m' y = m y) : LawJ w HA M dM nl hl sp cp fr i ms g m' := by
  obtain ⟨odM, osp, ocp, ofr, obk, bk, kS, kC, kF, kB, cps, D, hm, hring⟩ := x
  refine ⟨odM, osp, ocp, ofr, obk, bk, kS, kC, kF, kB, cps, D, hm.of ["j"] (fun y h => hy y (by simpa using h)) (by decide), ?_⟩
  rcases hring with ⟨q, r⟩ | ⟨R, T, rl, ow, H, oH, kH, tok, b, rg, Z, q, r⟩
  · exact .inl ⟨(hy _ (by decide)).trans q, r⟩
  · exact .inr ⟨R, T, rl, ow, H, oH, kH, tok, b, rg, Z, (hy _ (by decide)).trans q, r⟩
set_option hygiene false in
local macro_rules | `(tactic| x_close) => `(tactic| exact hc (ext_of D) (nwOf D (by k_mem)))
abbrev keysO (d : Addr) : Obj := ⟨.type "dict_keys", none, .fields #[.ref d], #[]⟩
theorem x_sk0 {w : World} {s : Shared} {E} {Q : Value → Shared → Prop} {v d : Addr} {n : Nat} (X : Frag.In (Mine.hd.heap_39 w.params) s.heap) (hv : s.heap.get? v = some ⟨.type "dict_keys", none, .fields #[.ref d], #[]⟩) (hd : s.heap.get? d = some ⟨.type "dict", none, .dict #[] n, #[]⟩)
   (hc : ∀ {D h' tk' c}, Sub s.heap h' → New s.heap h' D ⟨.type "list", none, .seq #[] c, #[]⟩ → Q (.ref D) ⟨h', s.gens, s.drawn, tk', s.os⟩) : wpAny (model PW w) A0 (call (.builtin "sorted") [.ref v] []) Q E s := by
  x_run
theorem x_sk1 {w : World} {s : Shared} {E} {Q : Value → Shared → Prop} {v d : Addr} {n : Nat} {h1 : Int} {x : Str} {t1 : Tok} {v1 : Value} (X : Frag.In (Mine.hd.heap_39 w.params) s.heap) (hv : s.heap.get? v = some ⟨.type "dict_keys", none, .fields #[.ref d], #[]⟩) (hd : s.heap.get? d = some ⟨.type "dict", none, .dict #[⟨h1, .str x t1, v1⟩] n, #[]⟩)
   (hc : ∀ {D h' tk' c}, Sub s.heap h' → New s.heap h' D ⟨.type "list", none, .seq #[.str x t1] c, #[]⟩ → Q (.ref D) ⟨h', s.gens, s.drawn, tk', s.os⟩) : wpAny (model PW w) A0 (call (.builtin "sorted") [.ref v] []) Q E s := by
  x_run
theorem x_sk2 {w : World} {s : Shared} {E} {Q : Value → Shared → Prop} {v d : Addr} {n : Nat} {h1 h2 : Int} {t1 t2 : Tok} {v1 v2 : Value} (X : Frag.In (Mine.hd.heap_39 w.params) s.heap) (hv : s.heap.get? v = some ⟨.type "dict_keys", none, .fields #[.ref d], #[]⟩) (hd : s.heap.get? d = some ⟨.type "dict", none, .dict #[⟨h1, .str (Str.ofString "x") t1, v1⟩, ⟨h2, .str (Str.ofString "y") t2, v2⟩] n, #[]⟩)
   (hc : ∀ {D h' tk' c}, Sub s.heap h' → New s.heap h' D ⟨.type "list", none, .seq #[.str (Str.ofString "x") t1, .str (Str.ofString "y") t2] c, #[]⟩ → Q (.ref D) ⟨h', s.gens, s.drawn, tk', s.os⟩) : wpAny (model PW w) A0 (call (.builtin "sorted") [.ref v] []) Q E s := by
  x_run
theorem x_sk3 {w : World} {s : Shared} {E} {Q : Value → Shared → Prop} {v d : Addr} {n : Nat} {h1 h2 : Int} {t1 t2 : Tok} {v1 v2 : Value} (X : Frag.In (Mine.hd.heap_39 w.params) s.heap) (hv : s.heap.get? v = some ⟨.type "dict_keys", none, .fields #[.ref d], #[]⟩) (hd : s.heap.get? d = some ⟨.type "dict", none, .dict #[⟨h1, .str (Str.ofString "y") t1, v1⟩, ⟨h2, .str (Str.ofString "x") t2, v2⟩] n, #[]⟩)
   (hc : ∀ {D h' tk' c}, Sub s.heap h' → New s.heap h' D ⟨.type "list", none, .seq #[.str (Str.ofString "x") t2, .str (Str.ofString "y") t1] c, #[]⟩ → Q (.ref D) ⟨h', s.gens, s.drawn, tk', s.os⟩) : wpAny (model PW w) A0 (call (.builtin "sorted") [.ref v] []) Q E s := by
  x_run
theorem call_keys {w : World} {A : Around} {E : Value → Shared → Prop} {s : Shared} {d : Addr} {o : Obj} {es : Array DictEntry} {n : Nat} {Q : Value → Shared → Prop} (ho : s.heap.get? d = some o) (hc : o.cls = .type "dict") (_he : o.data = .dict es n) (hd : (d == sysModules) = false)
    (h : Q (.ref s.heap.objs.size) { s with heap := s.heap.push { cls := .type "dict_keys", data := .fields #[.ref d] } }) : wpAny (model PW w) A (call (.builtin "dict.keys") [.ref d]) Q E s := by
  have hT : s.TypeIs (.ref d) "dict" := ⟨_, ho, hc⟩
  have m : MeetsIn PW w (Builtin.«dict.keys» ⟨[.ref d], []⟩) (fun _ R s => s.TypeIs (.ref d) "dict" ∧ R (.ok (.ret (.ref s.heap.objs.size))) { s with heap := s.heap.push { cls := .type "dict_keys", data := .fields #[.ref d] } }) :=
    .of_wp fun A R s ⟨hT, h⟩ => by
      show wpAny _ _ (Builtin.Dict.noArgs "keys" ⟨[.ref d], []⟩ >>= _) _ _ s
      unfold Builtin.Dict.noArgs
      refine wpAny_bind (wpAny_bind (wpAny_notOrdered_dict hT ?_))
      refine wpAny_pure ?_
      show wpAny _ _ (Builtin.Dict.showsAll d >>= _) _ _ s
      unfold Builtin.Dict.showsAll
      rw [if_neg (by rw [hd]; exact Bool.false_ne_true)]
      exact wpAny_bind (wpAny_pure (wpAny_bind (wpAny_newObj_type (wpAny_pure ⟨_, rfl, h⟩))))
  exact call_meetsIn PySem.F.slot_dict_keys hT PySem.F.entry_dict_keys (PySem.F.args_dict_keys_1 _) m ⟨hT, h⟩
theorem len_one {α : Type} {l : List α} (h : l.length = 1) : ∃ p, l = [p] := by
  match l, h with
  | [p], _ => exact ⟨p, rfl⟩
theorem len_two {α : Type} {l : List α} (h : l.length = 2) : ∃ p q, l = [p, q] := by
  match l, h with
  | [p, q], _ => exact ⟨p, q, rfl⟩
def sortD (ks : List Str) : List PyData := if ks = [nmk 1, nmk 0] then [.str (nmk 0), .str (nmk 1)] else ks.map .str
theorem keys_cases {ks : List Str} (hn : ks.Nodup) (hx : ∀ x ∈ ks, x = nmk 0 ∨ x = nmk 1) : ks = [] ∨ ks = [nmk 0] ∨ ks = [nmk 1] ∨ ks = [nmk 0, nmk 1] ∨ ks = [nmk 1, nmk 0] := by
  match ks, hn, hx with
  | [], _, _ => exact .inl rfl
  | [a], _, hx =>
    rcases hx a (.head _) with rfl | rfl
    · exact .inr (.inl rfl)
    · exact .inr (.inr (.inl rfl))
  | [a, b], hn, hx =>
    rw [List.nodup_cons] at hn
    rcases hx a (.head _) with rfl | rfl <;> rcases hx b (.tail _ (.head _)) with rfl | rfl
    · exact absurd (.head _) hn.1
    · exact .inr (.inr (.inr (.inl rfl)))
    · exact .inr (.inr (.inr (.inr rfl)))
    · exact absurd (.head _) hn.1
  | a :: b :: c :: r, hn, hx =>
    exfalso
    simp only [List.nodup_cons, List.mem_cons, not_or] at hn
    obtain ⟨⟨h1, h2, _⟩, ⟨h3, _⟩, _⟩ := hn
    rcases hx a (.head _) with rfl | rfl <;> rcases hx b (.tail _ (.head _)) with rfl | rfl <;> rcases hx c (.tail _ (.tail _ (.head _))) with rfl | rfl <;> first | exact h1 rfl | exact h2 rfl | exact h3 rfl
theorem sortD_ok {ks : List Str} (hn : ks.Nodup) (hx : ∀ x ∈ ks, x = nmk 0 ∨ x = nmk 1) : (PyData.list (sortD ks)).canLay0 = true ∧ (PyData.list (sortD ks)).depth ≤ 100 := by
  rcases keys_cases hn hx with rfl | rfl | rfl | rfl | rfl <;> exact ⟨by decide +kernel, by decide +kernel⟩
section
variable {w : World} {W : List Addr} {g0 g : Heap} {s0 s : Shared} {L : Addr} {ms : List (Addr × Obj)} {m : Str → Option Value} {A : Around} {E : Value → Shared → Prop}
theorem q_keys {d : Addr} {o : Obj} {kvs : List (Str × Value)} {Q : Value → Shared → Prop} (F : Fm w W g0 s0 L ms g s m) (hp : (d, o) ∈ ms) (hd : o.IsDictOf (SK w) kvs)
    (h : ∀ v g' s', Sub g g' → Fm w W g0 s0 L ms g' s' m → g'.get? v = some (keysO d) → Q (.ref v) s') : wpAny (model PW w) A (call (.builtin "dict.keys") [.ref d]) Q E s := by
  obtain ⟨es, ep, he, hdata, _⟩ := hd
  refine call_keys (F.turnable hp) he.1 hdata (F.lo hp) ?_
  obtain ⟨g', hs, F', hv⟩ := F.push (o := keysO d) (tk := s.toks) rfl
  exact h _ g' _ hs F' hv
theorem q_skeys {d v : Addr} {o : Obj} {kvs : List (Str × Value)} {a b : Nat} {Q : Value → Shared → Prop} (r : Rm A a b) (F : Fm w W g0 s0 L ms g s m) (hp : (d, o) ∈ ms) (hd : o.IsDictOf (SK w) kvs) (hx : ∀ x ∈ kvs.map (·.1), x = nmk 0 ∨ x = nmk 1) (hv : g.get? v = some (keysO d))
    (h : ∀ D g' s', Sub g g' → Fm w W g0 s0 L ms g' s' m → Rd g' (.ref D) (.list (sortD (kvs.map (·.1)))) → Q (.ref D) s') : wpAny (model PW w) A (call (.builtin "sorted") [.ref v]) Q E s := by
  have hdo := F.turnable hp
  obtain ⟨es, ep, ⟨hc1, hc2, hc3⟩, hdata, hkeys, hpairs, hnd⟩ := hd
  obtain ⟨oc, od, oda, osl⟩ := o
  obtain rfl : oc = .type "dict" := hc1
  obtain rfl : od = none := hc2
  obtain rfl : osl = #[] := hc3
  obtain rfl : oda = .dict es ep := hdata
  have fin : ∀ {D h' tk' c} {vs : List Value} {ds : List PyData}, Sub s.heap h' → New s.heap h' D ⟨.type "list", none, .seq vs.toArray c, #[]⟩ → (∀ g', RdAll g' vs ds) → ds = sortD (kvs.map (·.1)) → Q (.ref D) ⟨h', s.gens, s.drawn, tk', s.os⟩ := fun {D h' tk' c vs ds} hs hn hr e => by
    obtain ⟨g', hs', F', hnew⟩ := F.ext (tk := tk') hs
    exact h D g' _ hs' F' (e ▸ Rd.list ⟨_, hnew _ _ hn.1 hn.2, rfl, _, rfl⟩ (by simpa using hr g'))
  have hvh := F.get hv
  have e0 : nmk 0 = Str.ofString "x" := by rfl
  have e1 : nmk 1 = Str.ofString "y" := by rfl
  rcases keys_cases hnd hx with e | e | e | e | e
  · have : kvs = [] := List.map_eq_nil_iff.mp e
    subst this
    cases hh : es.toList with
    | nil =>
      have : es = #[] := by rw [← Array.toArray_toList (xs := es), hh]
      subst this
      exact r.weak (x_sk0 F.X hvh hdo fun hs hn => fin (vs := []) (ds := []) hs hn (fun _ => RdAll.nil) rfl)
    | cons _ _ => rw [hh] at hpairs; cases hpairs
  · obtain ⟨p, rfl⟩ := len_one (by simpa using congrArg List.length e)
    cases hh : es.toList with
    | nil => rw [hh] at hpairs; cases hpairs
    | cons e1 r1 =>
      rw [hh] at hpairs
      obtain ⟨eh, ek, ev⟩ := e1
      cases hpairs with
      | cons k1 k2 k3 =>
        cases k3
        obtain ⟨t1, rfl⟩ := Value.isStrOf_shape k1
        have : es = #[⟨eh, .str p.1 t1, ev⟩] := by rw [← Array.toArray_toList (xs := es), hh]
        subst this
        refine r.weak (x_sk1 F.X hvh hdo fun hs hn => fin (vs := [.str p.1 t1]) (ds := [.str p.1]) hs hn (fun _ => RdAll.cons (Rd.str _ _) RdAll.nil) ?_)
        have ep1 : p.1 = nmk 0 := by simpa using e
        simp only [List.map_cons, List.map_nil, ep1]
        rfl
  · obtain ⟨p, rfl⟩ := len_one (by simpa using congrArg List.length e)
    cases hh : es.toList with
    | nil => rw [hh] at hpairs; cases hpairs
    | cons e1 r1 =>
      rw [hh] at hpairs
      obtain ⟨eh, ek, ev⟩ := e1
      cases hpairs with
      | cons k1 k2 k3 =>
        cases k3
        obtain ⟨t1, rfl⟩ := Value.isStrOf_shape k1
        have : es = #[⟨eh, .str p.1 t1, ev⟩] := by rw [← Array.toArray_toList (xs := es), hh]
        subst this
        refine r.weak (x_sk1 F.X hvh hdo fun hs hn => fin (vs := [.str p.1 t1]) (ds := [.str p.1]) hs hn (fun _ => RdAll.cons (Rd.str _ _) RdAll.nil) ?_)
        have ep1 : p.1 = nmk 1 := by simpa using e
        simp only [List.map_cons, List.map_nil, ep1]
        rfl
  · obtain ⟨p, q, rfl⟩ := len_two (by simpa using congrArg List.length e)
    cases hh : es.toList with
    | nil => rw [hh] at hpairs; cases hpairs
    | cons e1' r1 =>
      rw [hh] at hpairs
      obtain ⟨eh, ek, ev⟩ := e1'
      cases hpairs with
      | cons k1 k2 k3 =>
        cases k3 with
        | @cons e2' _ _ _ j1 j2 j3 =>
          cases j3
          obtain ⟨fh, fk, fv⟩ := e2'
          obtain ⟨t1, rfl⟩ := Value.isStrOf_shape k1
          obtain ⟨t2, rfl⟩ := Value.isStrOf_shape j1
          have ep1 : p.1 = Str.ofString "x" := by rw [← e0]; exact (List.cons.inj e).1
          have ep2 : q.1 = Str.ofString "y" := by rw [← e1]; exact (List.cons.inj (List.cons.inj e).2).1
          have : es = #[⟨eh, .str (Str.ofString "x") t1, ev⟩, ⟨fh, .str (Str.ofString "y") t2, fv⟩] := by rw [← Array.toArray_toList (xs := es), hh, ep1, ep2]
          subst this
          refine r.weak (x_sk2 F.X hvh hdo fun hs hn => fin (vs := [.str (Str.ofString "x") t1, .str (Str.ofString "y") t2]) (ds := [.str (nmk 0), .str (nmk 1)]) hs hn (fun _ => RdAll.cons (Rd.str _ _) (RdAll.cons (Rd.str _ _) RdAll.nil)) ?_)
          simp only [List.map_cons, List.map_nil, ep1, ep2]
          rfl
  · obtain ⟨p, q, rfl⟩ := len_two (by simpa using congrArg List.length e)
    cases hh : es.toList with
    | nil => rw [hh] at hpairs; cases hpairs
    | cons e1' r1 =>
      rw [hh] at hpairs
      obtain ⟨eh, ek, ev⟩ := e1'
      cases hpairs with
      | cons k1 k2 k3 =>
        cases k3 with
        | @cons e2' _ _ _ j1 j2 j3 =>
          cases j3
          obtain ⟨fh, fk, fv⟩ := e2'
          obtain ⟨t1, rfl⟩ := Value.isStrOf_shape k1
          obtain ⟨t2, rfl⟩ := Value.isStrOf_shape j1
          have ep1 : p.1 = Str.ofString "y" := by rw [← e1]; exact (List.cons.inj e).1
          have ep2 : q.1 = Str.ofString "x" := by rw [← e0]; exact (List.cons.inj (List.cons.inj e).2).1
          have : es = #[⟨eh, .str (Str.ofString "y") t1, ev⟩, ⟨fh, .str (Str.ofString "x") t2, fv⟩] := by rw [← Array.toArray_toList (xs := es), hh, ep1, ep2]
          subst this
          refine r.weak (x_sk3 F.X hvh hdo fun hs hn => fin (vs := [.str (Str.ofString "x") t2, .str (Str.ofString "y") t1]) (ds := [.str (nmk 0), .str (nmk 1)]) hs hn (fun _ => RdAll.cons (Rd.str _ _) (RdAll.cons (Rd.str _ _) RdAll.nil)) ?_)
          simp only [List.map_cons, List.map_nil, ep1, ep2]
          exact (if_pos rfl).symm
end
theorem q_eqSame {w : World} {A : Around} {E : Value → Shared → Prop} {s : Shared} {a b : Value} {d : PyData} {u v : Nat} {Q : Value → Shared → Prop} (ra : Rd s.heap a d) (rb : Rd s.heap b d) (hd : d.canLay0 = true) (hz : d.depth ≤ 100) (r : Rm A u v)
    (h : Q (.bool true) s) : wpAny (model PW w) A (compareOp .Eq a b) Q E s := by
  obtain ⟨_, ra⟩ := ra
  obtain ⟨_, rb⟩ := rb
  refine SeqAt.compareEq_reads ra rb hd hd (by rw [cLine_is]; have := r.un; omega) ?_
  rw [SeqAt.eqv_refl d hd]; exact h
def IsN' (its : Array Value) (ns : Nat → Int) : Prop := its.size = 38 ∧ ∀ k, k < 38 → ∃ t, its[k]? = some (.int (ns k) t)
theorem c_law {w : World} {A : Around} {g0 : Heap} {sE : Shared} {E : Value → Shared → Prop} {Q : Value → Shared → Prop} {sl : Addr} {its : Array Value} {xs : List Int}
    (r : Rm A 20 200) (gd : Gd w g0) (hg : Sub g0 sE.heap) (hl : g0.IsList sl its) (hsz : its.size = xs.length) (hz : xs.length ≤ 63) (hit : ∀ k, k < xs.length → ∃ t, its[k]? = some (.int (xs.getD k 0) t))
    (h : ∀ g' s', Step g0 sE g' s' → Q (.bool true) s') : wpAny (model PW w) A (call (.ref 928) [.ref sl] []) Q E sE := by
  refine wpAny_call (fn_callC (binds := [("script", .ref sl)]) [] [] gd hg r (by k_is) (by k_is) (by rfl) ?_ (by simp) (by simp) rfl rfl rfl ?_ fun L s os hos hfr F => ?_)
  · intro L x hx
    simp only [List.mem_cons, List.not_mem_nil, or_false] at hx
    subst hx
    exact .inr ⟨by rfl, by rfl⟩
  · intro L x hx
    have hx : x ∈ [((Str.ofString "script", L + 1) : Str × Addr)] := hx
    obtain rfl := List.mem_singleton.mp hx
    rfl
  have F : Fm w [] g0 sE L [(L + 1, os "script")] g0 s (fun _ => none) := F
  have hoc : (os "script").data = .cell (some (.ref sl)) := hos ("script", L + 1) (List.Mem.head _)
  have hfr : sE.heap.get? (L + 1) = none := hfr ("script", L + 1) (List.Mem.head _)
  generalize os "script" = oc at F hoc
  have rd : ∀ env, Rm (A.deeper env) 19 197 := fun _ => r.deeper
  obtain ⟨g, hs0, F, hgc⟩ := F.rest hfr
  walk_at "mm"
  refine AssignComp_ [("script", L + 1)] ?_
  walk_at "mm"
  refine q_range F fun rr g1 s t u v hs1 F hrr => ?_
  have hrr : IsRange g1 rr 0 ((38 : Nat) : Int) 1 t u v := hrr
  refine iter_rangeP (F.get hrr) (by omega) ?_
  refine comp_runU (fun its2 g' => IsN' its2 (fun k => xs.getD k 0)) F rfl ⟨rfl, rfl, rfl, rfl⟩ rfl rfl (by decide) (fun s1 P e h => self_range e rfl h) ?_ ?_
  · intro C l2 s2 Rr frI F post
    refine comp_for (fun j ys g2 m2 => ys.size = j ∧ ∀ k, k < j → ∃ t, ys[k]? = some (.int (xs.getD k 0) t)) (iter_range (rd _).hd _ 38 g1) F (by simp [rawInt]) frI ⟨rfl, by simp⟩ (by omega) (fun i xs g m h => Nat.le_of_eq h.1) ⟨rfl, rfl, rfl, rfl⟩ rfl ?_ ?_
    · rintro j ys k g2 g3 s m3 v oi hj hs2 hs3 ⟨hy, hys⟩ ⟨_, _, ⟨ti, rfl⟩, _⟩ F
      refine wpAny_tests_nil ?_
      rw [if_pos rfl]
      have hs03 := (hs1.trans hs2).trans hs3
      have hl3 := isl hl (hs0.trans hs03)
      refine wpAny_IfExp ?_
      walk_at "mm"
      refine e_ldc (c := L + 1) (L := C) ⟨rfl, rfl, rfl, rfl⟩ rfl rfl ⟨_, F.get (hs03 _ _ hgc), hoc⟩ ?_ (by decide)
      walk_at "mm"
      refine q_len F (isl hl3 F.step.keep) (by omega) fun s t F => ?_
      walk_at "mm"
      have put : ∀ {t}, ∀ k', k' < j + 1 → ∃ t', (ys.push (.int (xs.getD j 0) t))[k']? = some (.int (xs.getD k' 0) t') := fun {t} k' hk' => by
        by_cases e : k' = j
        · subst e
          exact ⟨t, by rw [← hy]; simp⟩
        · obtain ⟨t', e'⟩ := hys k' (by omega)
          exact ⟨t', by rw [Array.getElem?_push, if_neg (by omega)]; exact e'⟩
      by_cases hlt : j < xs.length
      · refine q_if_t (by rw [hsz]; simp; omega) ?_
        walk_at "mm"
        refine e_ldc (c := L + 1) (L := C) ⟨rfl, rfl, rfl, rfl⟩ rfl rfl ⟨_, F.get (hs03 _ _ hgc), hoc⟩ ?_ (by decide)
        walk_at "mm"
        obtain ⟨tj, ej⟩ := hit j hlt
        refine q_itemN j (isl hl3 F.step.keep) rfl (by omega) ej ?_
        exact ⟨g3, _, Sub.refl _, F, by simp [hy], put⟩
      · refine q_if_f (by rw [hsz]; simp; omega) ?_
        walk_at "mm"
        have : xs.getD j 0 = 0 := by rw [List.getD_eq_getElem?_getD, List.getElem?_eq_none (by omega)]; rfl
        rw [this] at put
        exact ⟨g3, _, Sub.refl _, F, by simp [hy], put⟩
    · rintro ys k2 g2 s3 m3 hs2 ⟨hy, hys⟩ F
      exact post _ _ _ _ _ F ⟨hy, hys⟩
  · intro nl its2 n2 g2 s hs2 F hnl post
    obtain ⟨g3, hs3, F, hnl3⟩ := F.rest hnl
    have hN : IsN g3 nl (fun k => xs.getD k 0) := ⟨its2, ⟨_, hnl3, rfl, _, rfl⟩, post.1, post.2⟩
    walk_at "mm"
    refine AssignComp_ [] ?_
    walk_at "mm"
    refine wpAny_pyIter_ascii (by decide +kernel) ?_
    refine comp_runU (fun its2 g' => its2.size = 3 ∧ ∀ k, k < 3 → ∃ a, its2[k]? = some (.ref a) ∧ Hs g' a k) F rfl ⟨rfl, rfl, rfl, rfl⟩ rfl rfl (by decide) (fun s1 P e h => self_ascii e rfl h) ?_ ?_
    · intro C l2 s2 Rr frI F post
      refine comp_for (fun j ys g4 m4 => ys.size = j ∧ ∀ k, k < j → ∃ a, ys[k]? = some (.ref a) ∧ Hs g4 a k) (iter_abc (rd _).hd _ _ g3) F ⟨rfl, rfl⟩ frI ⟨rfl, by simp⟩ (by omega) (fun i xs g m h => Nat.le_of_eq h.1) ⟨rfl, rfl, rfl, rfl⟩ rfl ?_ ?_
      · rintro j ys k g4 g5 s m5 v oi hj hs4 hs5 ⟨hy, hys⟩ ⟨_, _, ⟨ti, rfl⟩, _⟩ F
        refine wpAny_tests_nil ?_
        rw [if_pos rfl]
        walk_at "mm"
        refine q_host (rd _) F fun a g6 s hs6 F ha => ?_
        refine ⟨g6, _, hs6, F, by simp [hy], fun k' hk' => ?_⟩
        by_cases e : k' = j
        · subst e
          exact ⟨a, by rw [← hy]; simp, ha⟩
        · obtain ⟨a', e', h'⟩ := hys k' (by omega)
          exact ⟨a', by rw [Array.getElem?_push, if_neg (by omega)]; exact e', h'.keeps (hs5.trans hs6)⟩
      · rintro ys k2 g4 s4 m4 hs4 ⟨hy, hys⟩ F
        exact post _ _ _ _ _ F ⟨hy, hys⟩
    · intro hl4 its4 n4 g4 s hs4 F hnl4 post4
      obtain ⟨HA, hHA⟩ : ∃ HA : Nat → Addr, ∀ k, k < 3 → its4[k]? = some (.ref (HA k)) ∧ Hs g4 (HA k) k := by
        refine ⟨fun k => if hk : k < 3 then (post4.2 k hk).choose else 0, fun k hk => ?_⟩
        simp only [dif_pos hk]
        exact ⟨(post4.2 k hk).choose_spec.1, (post4.2 k hk).choose_spec.2⟩
      have eits : its4 = #[.ref (HA 0), .ref (HA 1), .ref (HA 2)] := by
        refine Array.ext_getElem? fun k => ?_
        by_cases hk : k < 3
        · rw [(hHA k hk).1]
          obtain rfl | rfl | rfl : k = 0 ∨ k = 1 ∨ k = 2 := by omega
          all_goals rfl
        · rw [Array.getElem?_eq_none (by have := post4.1; omega), Array.getElem?_eq_none (by simp; omega)]
      rw [eits] at F
      obtain ⟨g5, hs5, F, hhl5⟩ := F.rest hnl4
      have hHL : HlOf g5 HA hl4 := ⟨_, hhl5, rfl, _, rfl⟩
      have hHS : HsOf g5 HA := fun k hk => (hHA k hk).2.keeps hs5
      walk_at "mm"
      refine (rd _).weak (x_meta F.X fun {M dM sp d3 h' tk' u1 u2 u3 t1 t2 t3 n} hx n1 n2 n3 => ?_)
      have hd0 : MdD (dictO [en u1 w_keyspaces t1 (.ref sp), en u2 w_dbaas t2 (.bool false), en u3 w__hosts t3 (.ref d3)] n) sp none 3 := ⟨_, n, rfl, by simp, by
        intro e he
        simp only [List.mem_cons, List.not_mem_nil, or_false] at he
        rcases he with rfl | rfl | rfl <;> rfl, by rfl, by rfl, by
        intro nm hm
        simp only [mnames, List.mem_cons, List.not_mem_nil, or_false] at hm
        rcases hm with rfl | rfl | rfl | rfl <;> rfl⟩
      have ne1 : dM ≠ sp := fun e => by
        have := n2.1
        rw [e, n3.1] at this; cases this
      have ne2 : M ≠ dM := fun e => by
        have := n1.1
        rw [e, n2.1] at this; cases this
      have ne3 : M ≠ sp := fun e => by
        have := n1.1
        rw [e, n3.1] at this; cases this
      obtain ⟨odM, n2, hd0⟩ : ∃ odM, New _ h' dM odM ∧ MdD odM sp none 3 := ⟨_, n2, hd0⟩
      obtain ⟨g6, hs6, F, hnM, hnew⟩ := F.extM (tk := tk') hx [(dM, odM), (sp, emptyD)] (fun p hp => by
        simp only [List.mem_cons, List.not_mem_nil, or_false] at hp
        rcases hp with rfl | rfl
        · exact n2
        · exact n3) (by simpa using ne1)
      have eM : g6.get? M = some (instO 159 dM) := hnew M _ (by simp [ne2, ne3]) n1.1 n1.2
      simp only [List.cons_append, List.nil_append] at F
      walk_at "mm"
      walk_at "sl"
      refine q_slice4 (a := 0) (b := 4) F (hN.keeps ((hs4.trans hs5).trans hs6)) (.inl rfl) rfl fun pl g7 s hs7 F hP => ?_
      walk_at "mm"
      refine c_ring (rd _).less F.gd F.step.keep hP fun rg g8 s S hR => ?_
      have F := F.called S
      have hs8 := S.sub
      walk_at "mm"
      refine q_meth (C := 159) (f := 149) F (F.get (hs8 _ _ (hs7 _ _ eM))) (F.turnable (.head _)) (by k_is) (by k_is) (by k_is) (hd0.mn (nm := Str.ofString "rebuild_token_map") (by decide)) ?_
      walk_at "mm"
      refine c_rows (rd _).less F.gd F.step.keep hR (hHS.keeps ((hs6.trans hs7).trans hs8)) (isl hHL ((hs6.trans hs7).trans hs8)) (ringOf_ok _) fun rw g9 s S hRw => ?_
      have F := F.called S
      have hs9 := S.sub
      walk_at "mm"
      have hs69 := (hs6.trans hs7).trans (hs8.trans hs9)
      refine q_rtmJ (rd _).less F (((hs7.trans hs8).trans hs9) _ _ eM) hd0 (by omega) hRw (hHS.keeps hs69) (ringOf_ok _) fun T rl ow H tok g10 s odM1 hs10 F hd1 hT hRg hOw => ?_
      have hs3' := hs4.trans (hs5.trans (hs69.trans hs10))
      have hs5' := hs69.trans hs10
      have S0 : LawS g10 HA (fun k => xs.getD k 0) M dM nl hl4 := ⟨hs10 _ _ (((hs7.trans hs8).trans hs9) _ _ eM), hN.keeps hs3', isl hHL hs5', hHS.keeps hs5'⟩
      walk_at "mm"
      refine Assign_Tuple ?_
      walk_at "mm"
      refine q_own (C := 159) F (F.get S0.inst) (F.turnable (.tail _ (.head _))) (by k_is) (by k_is) (by k_is) (by k_is) hd1.sp (by k_handed) fun s F => ?_
      walk_at "mm"
      refine q_newDictM F fun cp s F ncp => ?_
      walk_at "mm"
      refine q_newDictM F fun bk s F nbk => ?_
      walk_at "mm"
      refine q_newDictM F fun fr s F nfr => ?_
      walk_at "mm"
      have F := F.perm (ms' := [(H, emptyD), (dM, odM1), (sp, emptyD), (cp, emptyD), (fr, emptyD), (bk, emptyD)]) (by
        refine List.Perm.symm ((List.perm_append_comm (l₁ := [(fr, emptyD), (bk, emptyD), (cp, emptyD)]) (l₂ := [(H, emptyD), (dM, odM1), (sp, emptyD)])).trans ?_)
        exact List.Perm.append_left [(H, emptyD), (dM, odM1), (sp, emptyD)] (List.perm_append_comm (l₁ := [(fr, emptyD), (bk, emptyD)]) (l₂ := [(cp, emptyD)])))
      refine q_newTup F (by simp) fun tp g11 s hs11 F htp => ?_
      refine q_assignTup (items := [.ref sp, .ref cp, .ref bk, .ref fr]) (rd (envOfC (Str.ofString "law") _ L 928 (.ref 927))).hd F ⟨_, F.get htp, rfl, _, rfl⟩ rfl rfl fun g12 s hs12 F => ?_
      refine assignInOrder_cons (wpAny_assign_Name (e_st (L := L) ⟨rfl, rfl, rfl, rfl⟩ F (fun s F => ?_) rfl))
      refine assignInOrder_cons (wpAny_assign_Name (e_st (L := L) ⟨rfl, rfl, rfl, rfl⟩ F (fun s F => ?_) rfl))
      refine assignInOrder_cons (wpAny_assign_Name (e_st (L := L) ⟨rfl, rfl, rfl, rfl⟩ F (fun s F => ?_) rfl))
      refine assignInOrder_cons (wpAny_assign_Name (e_st (L := L) ⟨rfl, rfl, rfl, rfl⟩ F (fun s F => assignInOrder_nil ?_) rfl))
      have hs12' := hs11.trans hs12
      have S0 := S0.keeps hs12'
      walk_at "mm"
      refine q_range F fun rr2 g13 s t u v hs13 F hrr2 => ?_
      have hrr2 : IsRange g13 rr2 0 ((10 : Nat) : Int) 1 t u v := hrr2
      have S0 := S0.keeps hs13
      walk_at "mm"
      refine iter_rangeP (F.get hrr2) (by omega) ?_
      have nI := F.absent
      have F := F.pushL (o := { cls := .type "range_iterator", data := .fields #[rawInt 0, rawInt (10 : Nat), rawInt 1] }) (tk := s.toks) rfl
      refine for_loopA (fun i ms' g1 m1 => LawJ w HA M dM nl hl4 sp cp fr i ms' g1 m1) (iter_range (rd _).hd _ 10 g13) F (by simp [rawInt]) nI
        ⟨odM1, emptyD, emptyD, emptyD, emptyD, bk, [], [], [], [], fun _ => none, ⟨emptyD_is {}, emptyD_is {}, emptyD_is {}, emptyD_is {}, by simp, by simp, by simp, by simp, rfl, by simp, fun _ => trivial, fun _ => trivial, fun x cp h => by cases h⟩, ⟨by walk_at "hv", by walk_at "hv", by walk_at "hv", by walk_at "hv", by walk_at "hv", by walk_at "hv", by walk_at "hv"⟩,
          .inr ⟨_, T, rl, ow, H, emptyD, [], tok, fun _ => none, rg, ⟨ringOf_ok _, hR.keeps ((hs9.trans hs10).trans (hs12'.trans hs13)), hd1.mono (by omega), hT.keeps (hs12'.trans hs13), hRg.keeps (hs12'.trans hs13), hOw.keeps (hs12'.trans hs13), emptyD_is {}, by simp, fun x => ⟨trivial, trivial⟩⟩, by walk_at "hv", rfl⟩⟩
        (fun i o v s Q hI e q => wpAny_of_eq (a := ()) (by rfl) q) ?_ ?_
      · rintro i ms' g1 g2 s m1 v oi hi hs1 hs2 hJ ⟨_, _, ⟨ti, rfl⟩, _⟩ F
        refine wpAny_assign_Name (e_st (L := L) ⟨rfl, rfl, rfl, rfl⟩ F (fun s F => ?_) rfl)
        refine law_turn ⟨⟨_, by k_is, rfl, rfl⟩⟩ (rd _).less F ((hJ.keeps hs2).chg fun y hy => if_neg hy) (S0.keeps (hs1.trans hs2)) hi (by walk_at "hv") fun g' s' m' ms2 hs' F hJ' => ?_
        exact ⟨ms2, g', m', hs', F, hJ'⟩
      · rintro ms' g1 s m1 hs1 hJ F
        obtain ⟨odM, osp, ocp, ofr, obk, bk, kS, kC, kF, kB, cps, D, ⟨hm1, hm2, hm3, hm4, hm5, hm6, hm7⟩, hring⟩ := hJ
        have hxC := D.xy
        have hxS := D.xy
        rw [← D.ks] at hxS
        have hndC : (kC.map (·.1)).Nodup := by obtain ⟨_, _, _, _, _, _, q⟩ := D.dC; exact q
        have hsm : (sp, osp) ∈ ms' := by
          rcases hring with ⟨_, _, rfl⟩ | ⟨_, _, _, _, _, _, _, _, _, _, _, _, rfl⟩
          · exact mem_at [_]
          · exact mem_at [_, _]
        have hcm : (cp, ocp) ∈ ms' := by
          rcases hring with ⟨_, _, rfl⟩ | ⟨_, _, _, _, _, _, _, _, _, _, _, _, rfl⟩
          · exact mem_at [_, _]
          · exact mem_at [_, _, _]
        clear hring
        walk_at "mm"
        refine q_sM PySem.F.slot_dict_keys PySem.F.type_dict_keys F hsm D.dS ?_
        walk_at "mm"
        refine q_keys F hsm D.dS fun v1 g2 s hs2 F hv1 => ?_
        walk_at "mm"
        refine q_skeys (rd _) F hsm D.dS hxS hv1 fun D1 g3 s hs3 F hD1 => ?_
        walk_at "mm"
        refine q_sM PySem.F.slot_dict_keys PySem.F.type_dict_keys F hcm D.dC ?_
        walk_at "mm"
        refine q_keys F hcm D.dC fun v2 g4 s hs4 F hv2 => ?_
        walk_at "mm"
        refine q_skeys (rd _) F hcm D.dC hxC hv2 fun D2 g5 s hs5 F hD2 => ?_
        rw [D.ks] at hD1
        have so := sortD_ok hndC hxC
        refine q_eqSame ((hD1.keeps (hs4.trans hs5)).keeps F.step.keep) (hD2.keeps F.step.keep) so.1 so.2 (rd (envOfC (Str.ofString "law") _ L 928 (.ref 927))) ?_
        walk_at "mm"
        exact h g5 s F.step
theorem ints_at : ∀ {vs : List Value} {ns : List Int}, IntsAre vs ns → vs.length = ns.length ∧ ∀ k, k < ns.length → ∃ t, vs[k]? = some (.int (ns.getD k 0) t) := by
  intro vs ns h
  induction h with
  | nil => exact ⟨rfl, fun k hk => absurd hk (Nat.not_lt_zero _)⟩
  | cons n t h ih =>
    refine ⟨by simp [ih.1], fun k hk => ?_⟩
    cases k with
    | zero => exact ⟨t, rfl⟩
    | succ k => obtain ⟨t', e⟩ := ih.2 k (by simpa using hk); exact ⟨t', by simpa using e⟩
theorem the_law {w : World} {s₁ : Shared} {p : Program} {loose : List Str} {mean : ExcName → Option Value} {mg mb : Str → Option Value} {c : ClaimW} {cl : Str → Option Addr} {mean' : ExcName → Option Value} {args : List WData} {sl : Addr} {vs : List Value} {xs : List Int}
    (X : (Mine.hd.heap_39 w.params).In s₁.heap) (T : Top p loose mean mg mb s₁.heap) (hg : s₁.gens = #[]) (hl : s₁.heap.IsList sl vs.toArray) (hi : IntsAre vs xs) (hz : ¬ (63 : Int) < (xs.length : Int)) (hr : ∀ cls, c.raises args cls = false) (hp : c.post args (.bool true) args = true) :
    wpAny (model PW w) callerA (call (.ref 928) [.ref sl] []) (fun v s' => GoodWG c cl mean' args s₁ (.ok (.ret v)) s') (fun e s' => GoodWG c cl mean' args s₁ (.error e) s') s₁ := by
  refine c_law (g0 := s₁.heap) ⟨rfl, by decide, by decide⟩ ⟨X, p, loose, mg, mb, topRead_of T⟩ (Sub.refl _) hl (by simpa using (ints_at hi).1) (by omega) (fun k hk => by simpa using (ints_at hi).2 k hk) fun g' s' F => ?_
  exact ⟨.inl ⟨_, _, [], rfl, hr, ReadsW.bool true, hp, fun _ => ⟨List.nodup_nil, fun _ hm => nomatch hm⟩⟩, .of_keep fun b o e => F.old b o (by simp) e, F.os, .of_eq (F.gens.trans hg)⟩
end Mine

set_option maxRecDepth 100000 in
set_option maxHeartbeats 0 in
theorem PySem.Challenge.cw_fq5017_01_holds : PySem.Challenge.rw_fq5017_01.Holds := by
  refine Mine.hd ?_
  k_fill
  intro w s₀ s₁ mg mb G Y fa o pm cd doc dV kV ho hd hcd hD hmg hg args vals as hpre hlay hrd hwl hlo
  have KX := kIn_of Y
  refine Ground.open G ?_
  intro T B D TE TW
  wrow_args hpre hlay hrd hwl hlo
  all_goals x_fa T KX hmg
  all_goals (refine Mine.the_law KX T hg (by assumption) (by assumption) (by assumption) (fun _ => rfl) ?_; first | rfl | wrow_post)
