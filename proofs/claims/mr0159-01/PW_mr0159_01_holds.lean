import PyProof.Rows.All
import Wide.All
import OpenK.AllK
import Wide.FinOn
import PySem.Challenge.RW_mr0159_01
set_option Elab.async false
set_option maxRecDepth 100000
set_option maxHeartbeats 8000000
namespace Mine
open PySem PySem.W PyProof.Rows
open_top hd for PySem.Challenge.rw_mr0159_01
local macro_rules | `(tactic| walk_at $s:str) => `(tactic| k_extra $s)
section
/-- the ground: the written heap, the top's facts -/
structure Gr (w : World) (mean : ExcName → Option Value) (mg mb : Str → Option Value) (h : Heap) : Prop where
  X : (hd.heap_39 w.params).In h
  T : Top hd.view_39 (looseW hd.view_39 []) mean mg mb h
theorem Gr.keeps {w mean mg mb h h'} (G : Gr w mean mg mb h) (k : ∀ b o, h.get? b = some o → h'.get? b = some o) : Gr w mean mg mb h' :=
  ⟨G.X.keeps k, G.T.keeps k⟩
theorem Gr.fr {w mean mg mb h₀ L h m} (X : (hd.heap_39 w.params).In h₀) (T : Top hd.view_39 (looseW hd.view_39 []) mean mg mb h₀) (F : Fr h₀ L h m) : Gr w mean mg mb h :=
  ⟨X.keeps F.keep, T.keeps F.keep⟩

/-- what a call leaves: all that stood stands -/
structure Kept (s s' : Shared) : Prop where
  heap : ∀ b o, s.heap.get? b = some o → s'.heap.get? b = some o
  os : s'.os = s.os
  gens : AllBare s.gens → AllBare s'.gens
theorem Kept.refl (s : Shared) : Kept s s := ⟨fun _ _ e => e, rfl, id⟩
theorem Kept.trans {a b c : Shared} (x : Kept a b) (y : Kept b c) : Kept a c := ⟨fun b o e => y.heap b o (x.heap b o e), y.os.trans x.os, fun h => y.gens (x.gens h)⟩
theorem Kept.of {s : Shared} {h' : Heap} {tk : Nat} {dr : Drawn} (k : ∀ b o, s.heap.get? b = some o → h'.get? b = some o) : Kept s { heap := h', gens := s.gens, drawn := dr, toks := tk, os := s.os } := ⟨k, rfl, id⟩
theorem Kept.of2 {s s1 : Shared} {h' : Heap} {tk : Nat} {dr : Drawn} (y : Kept s s1) (k : ∀ b o, s.heap.get? b = some o → h'.get? b = some o) : Kept s { heap := h', gens := s1.gens, drawn := dr, toks := tk, os := s1.os } := ⟨k, y.os, y.gens⟩

/-- a known room about a call: no exception at hand, so many frames, so many units -/
abbrev Rm (d u : Nat) : Around := { handled := none, depth := d, frames := none, guards := none, units := u }
theorem lower {α : Type} {M : Model} {A : Around} {d u : Nat} {t : Sem α} {Q : α → Shared → Prop} {E : Value → Shared → Prop} {s : Shared}
    (hh : A.handled = none) (hd : A.depth ≤ d) (hu : A.units ≤ u) (h : wpAny M (Rm d u) t Q E s) : wpAny M A t Q E s :=
  fun Γ p hΓ => h Γ p ⟨hΓ.1.trans hh, Nat.le_trans hΓ.2.1 hd, (fun _ e => by cases e), (fun _ e => by cases e), Nat.le_trans hΓ.2.2.2.2 hu⟩

section
variable {prog : Program} {w : World} {A : Around} {s : Shared} {K : Frag} {h₀ : Heap} {R : Result → Shared → Prop} {p : Program} {loose : List Str} {mean : ExcName → Option Value} {mg mb : Str → Option Value}
theorem fn_call {name qual : Str} {params : Arguments} {body : List Stmt} {scope : Scope} {dV kV doc pm cdv ct oc : Value} {an od : Option Addr} {osl : Array (Option Value)} {f : Addr} {args : Args} {binds : List (Str × Value)}
    (X : K.In s.heap) (T : Top p loose mean mg mb s.heap) 
    (ho : K.lookup f = some ⟨oc, od, .func (fnOf name qual params body scope dV kV doc pm an cdv ct), osl⟩) (hcd : codeIn K cdv qual = true) (hroom : A.depth < recursionLimit)
    (hbind : BindsTo s (fnOf name qual params body scope dV kV doc pm an cdv ct) args binds) (hloc : ∀ y ∈ binds, scope.names.lookup y.1 = some .local)
    (hco : scope.isCoroutine = false) (hgen : scope.isGenerator = false) (hk : scope.kind = .function)
    (hcell : ∀ x ∈ scope.names, x.2 ≠ .cell)
    (h : ∀ L h₁, L = s.heap.objs.size → Fr s.heap L h₁ (fun y => binds.reverse.lookup y) → News s.heap L h₁ [] →
      wpAny (model prog w) (A.deeper (envOf qual scope L f cdv)) (execs body (envOf qual scope L f cdv))
        (fun fl s' => R (.ok (.ret (match fl with | .ret v => v | _ => .none))) s')
        (fun e s' => wpAny (model prog w) (A.deeper (envOf qual scope L f cdv)) (leaving (envOf qual scope L f cdv) e) (fun _ s'' => R (.error e) s'') (fun e' s'' => R (.error e') s'') s')
        { s with heap := h₁, toks := s.toks + binds.length }) : codeAny (model prog w) A (.call (.ref f) args) R s := by
  refine codeAny_call_def (fd := fnOf name qual params body scope dV kV doc pm an cdv ct) (body := body) (binds := binds) hroom (X _ _ ho) rfl T.nolimit (codeRec_of X hcd) rfl hbind hcell hloc (fun h₁ hns hk₁ => ?_) hco hgen hk
  exact h _ h₁ rfl ⟨hns, hk₁, Nat.le_refl _⟩ News.nil
end

/-- objects of the call's arguments are put on the ledger: they are hidden in the ground -/
theorem kept_hidden {h h' : Heap} {L : Addr} {m : Str → Option Value} {news news' : List (Addr × Obj)} (hn : ∀ p ∈ news, h.get? p.1 = some p.2)
    (F : Fr (hideAll h (news.map (·.1))) L h' m) (N : News (hideAll h (news.map (·.1))) L h' news') (hs : ∀ p ∈ news, p ∈ news') : ∀ b o, h.get? b = some o → h'.get? b = some o := fun b o e => by
  by_cases hb : b ∈ news.map (·.1)
  · obtain ⟨p, hp, rfl⟩ := List.mem_map.mp hb
    have h1 := hn p hp
    rw [e] at h1
    cases h1
    exact (N p (hs p hp)).1
  · exact F.keep b o (hideAll_get _ e hb)
theorem Gr.hidden {w mean mg mb} {hb h : Heap} {news : List (Addr × Obj)} (G : Gr w mean mg mb hb) (hk : ∀ b o, hb.get? b = some o → h.get? b = some o) (hn : ∀ p ∈ news, hb.get? p.1 = none) :
    Gr w mean mg mb (hideAll h (news.map (·.1))) := G.keeps fun b o e => hideAll_get _ (hk b o e) fun hm => by
  obtain ⟨p, hp, rfl⟩ := List.mem_map.mp hm
  have h1 := hn p hp
  rw [e] at h1
  cases h1
section
variable {prog : Program} {w : World} {A : Around} {s : Shared} {h₀ : Heap} {R : Result → Shared → Prop} {mean : ExcName → Option Value} {mg mb : Str → Option Value}
theorem fn_callN {hb : Heap} {news : List (Addr × Obj)} {name qual : Str} {params : Arguments} {body : List Stmt} {scope : Scope} {dV kV doc pm cdv ct oc : Value} {an od : Option Addr} {osl : Array (Option Value)} {f : Addr} {args : Args} {binds : List (Str × Value)}
    (G : Gr w mean mg mb hb) (hkb : ∀ b o, hb.get? b = some o → s.heap.get? b = some o) (hn : ∀ p ∈ news, s.heap.get? p.1 = some p.2 ∧ hb.get? p.1 = none)
    (ho : (hd.heap_39 w.params).lookup f = some ⟨oc, od, .func (fnOf name qual params body scope dV kV doc pm an cdv ct), osl⟩) (hcd : codeIn (hd.heap_39 w.params) cdv qual = true) (hroom : A.depth < recursionLimit)
    (hbind : BindsTo s (fnOf name qual params body scope dV kV doc pm an cdv ct) args binds) (hloc : ∀ y ∈ binds, scope.names.lookup y.1 = some .local)
    (hco : scope.isCoroutine = false) (hgen : scope.isGenerator = false) (hk : scope.kind = .function)
    (hcell : ∀ x ∈ scope.names, x.2 ≠ .cell)
    (h : ∀ g L h₁, g = hideAll s.heap (news.map (·.1)) → (hd.heap_39 w.params).In g → Top hd.view_39 (looseW hd.view_39 []) mean mg mb g → (∀ p ∈ news, p.1 < L) → Fr g L h₁ (fun y => binds.reverse.lookup y) → News g L h₁ news →
      wpAny (model prog w) (A.deeper (envOf qual scope L f cdv)) (execs body (envOf qual scope L f cdv))
        (fun fl s' => R (.ok (.ret (match fl with | .ret v => v | _ => .none))) s')
        (fun e s' => wpAny (model prog w) (A.deeper (envOf qual scope L f cdv)) (leaving (envOf qual scope L f cdv) e) (fun _ s'' => R (.error e) s'') (fun e' s'' => R (.error e') s'') s')
        { s with heap := h₁, toks := s.toks + binds.length }) : codeAny (model prog w) A (.call (.ref f) args) R s := by
  have Gs := G.keeps hkb
  have Gh := G.hidden hkb (fun p hp => (hn p hp).2)
  refine codeAny_call_def (fd := fnOf name qual params body scope dV kV doc pm an cdv ct) (body := body) (binds := binds) hroom (Gs.X _ _ ho) rfl Gs.T.nolimit (codeRec_of Gs.X hcd) rfl hbind hcell hloc (fun h₁ hns hk₁ => ?_) hco hgen hk
  exact h _ _ h₁ rfl Gh.X Gh.T (fun p hp => Heap.lt_size (hn p hp).1) ⟨hns, fun b o e => hk₁ b o (of_hideAll _ e), Nat.le_of_eq (hideAll_size _ _)⟩
    (fun p hp => ⟨hk₁ _ _ (hn p hp).1, Nat.ne_of_lt (Heap.lt_size (hn p hp).1), hideAll_none _ (List.mem_map_of_mem hp)⟩)
end

/-- an object that a call has made, put on the ledger -/
theorem news_new {h₀ h h' : Heap} {L a : Addr} {o : Obj} {m : Str → Option Value} {news : List (Addr × Obj)} (F : Fr h₀ L h m) (N : News h₀ L h' news) (_k : ∀ b o, h.get? b = some o → h'.get? b = some o) (hn : h.get? a = none) (ho : h'.get? a = some o) :
    News h₀ L h' ((a, o) :: news) := by
  intro p hp
  rcases List.mem_cons.mp hp with rfl | hp
  · refine ⟨ho, ?_, ?_⟩
    · rintro rfl
      obtain ⟨oL, _, _, hL, _⟩ := F.ns
      rw [hL] at hn; cases hn
    · cases e : h₀.get? a with
      | none => rfl
      | some o' => rw [F.keep _ _ e] at hn; cases hn
  · exact N p hp
theorem news_ne {h₀ h : Heap} {L a : Addr} {news : List (Addr × Obj)} (N : News h₀ L h news) (hn : h.get? a = none) : ∀ p ∈ news, p.1 ≠ a := fun p hp e => by
  have := (N p hp).1
  rw [e, hn] at this; cases this
def AllNe (d : Nat) : List (Addr × Obj) → Prop
  | [] => True
  | p :: r => @Ne Nat p.1 d ∧ AllNe d r
theorem allNe_of {d : Addr} : ∀ {l : List (Addr × Obj)}, (∀ p ∈ l, p.1 ≠ d) → AllNe d l
  | [], _ => trivial
  | p :: _, h => ⟨h p (.head _), allNe_of fun q hq => h q (.tail _ hq)⟩
theorem retS {Q : Value → Shared → Prop} {a b : Str} {t : Tok} {s : Shared} (h : Q (.str a t) s) (e : b = a) : Q (.str b t) s := e ▸ h
theorem retI {Q : Value → Shared → Prop} {a b : Int} {t : Tok} {s : Shared} (h : Q (.int a t) s) (e : b = a) : Q (.int b t) s := e ▸ h
theorem retB {Q : Value → Shared → Prop} {a b : Bool} {s : Shared} (h : Q (.bool a) s) (e : b = a) : Q (.bool b) s := e ▸ h
end
section
/-- rows for the walk -/
theorem rows_M1_1 : True := by
  w_top off
  k_with_none
  k_with "mine enter" => ( (refine' fn_call (by assumption) (by assumption) ?k6 ?k7 ?k8 ?k9 ?kB ?c2 ?c3 ?c4 ?c5 ?_); (case k6 => k_is); (case k7 => k_is); (case k8 => decide); (case k9 => exact BindsTo.of_eq rfl); (case kB => exact locs rfl); (case c2 => exact rfl); (case c3 => exact rfl); (case c4 => exact rfl); (case c5 => decide))
  trivial
def lawName (x : Int) : Str := if x.fmod 4 = 0 then "a" else if x.fmod 4 = 1 then "a.b" else if x.fmod 4 = 2 then "b" else "ab"
def lawText (x : Int) : Str :=
  if (x.fdiv 4).fmod 4 = 0 then lawName x
  else if (x.fdiv 4).fmod 4 = 1 then (if x.fmod 4 = 0 then "a\"x(\"" else if x.fmod 4 = 1 then "a\"x(\".b" else if x.fmod 4 = 2 then "b\"x(\"" else "a\"x(\"b")
  else if (x.fdiv 4).fmod 4 = 2 then (if x.fmod 4 = 0 then "(a" else if x.fmod 4 = 1 then "(a.b" else if x.fmod 4 = 2 then "(b" else "(ab")
  else (if x.fmod 4 = 0 then "a\"(y)\"" else if x.fmod 4 = 1 then "a.b\"(y)\"" else if x.fmod 4 = 2 then "b\"(y)\"" else "ab\"(y)\"")

theorem law_name_call {w : World} {A : Around} {mean mg mb} {s : Shared} {x : Int} {t : Tok} {Q : Value → Shared → Prop} {E : Value → Shared → Prop}
    (G : Gr w mean mg mb s.heap) (hh : A.handled = none) (hd : A.depth ≤ 700) (hu : A.units ≤ 900)
    (h : ∀ s' t', Kept s s' → Q (.str (lawName x) t') s') :
    wpAny (model PySem.Challenge.rw_mr0159_01.row.prog w) A (call (.ref 118) [.int x t]) Q E s := by
  refine lower hh hd hu ?_
  clear hh hd hu A
  obtain ⟨X, T⟩ := G
  revert X; k_fill; intro X
  refine wpAny_call ?_
  walk_at "mine enter"
  intro L h₁ hL F N
  try dsimp only
  try k_fold
  k_steps
  all_goals ((rename Fr _ _ _ _ => F); (rename (Int.fmod x 4 = _) => e); exact retS (h _ _ (Kept.of F.keep)) (by simp only [lawName, e]; rfl))

theorem law_name_at {w : World} {A : Around} {mean mg mb} {s : Shared} {x : Int} {t : Tok} {n : Str} {Q : Value → Shared → Prop} {E : Value → Shared → Prop}
    (hn : lawName x = n) (G : Gr w mean mg mb s.heap) (hh : A.handled = none) (hd : A.depth ≤ 700) (hu : A.units ≤ 900)
    (h : ∀ s' t', Kept s s' → Q (.str n t') s') :
    wpAny (model PySem.Challenge.rw_mr0159_01.row.prog w) A (call (.ref 118) [.int x t]) Q E s := law_name_call G hh hd hu (hn ▸ h)


/-- rows for the walk -/
theorem rows_M1_2 : True := by
  k_with "call ref" => (k_here; (with_reducible show wpAny _ _ (call (Value.ref 118) [Value.int _ _]) _ _ _); (rename Fr _ _ _ _ => kF); (rename News _ _ _ _ => kN); (refine' law_name_at (by assumption) (Gr.fr (by assumption) (by assumption) kF) rfl (Nat.le_of_ble_eq_true rfl) (Nat.le_of_ble_eq_true rfl) ?_); intro s9 t9 k9; (have F9 := Fr.keeps kF k9.heap); (have N9 := News.grown kN k9.heap); (try dsimp only); clear kF kN)
  trivial
theorem law_text_call {w : World} {A : Around} {mean mg mb} {s : Shared} {x : Int} {t : Tok} {Q : Value → Shared → Prop} {E : Value → Shared → Prop}
    (G : Gr w mean mg mb s.heap) (hh : A.handled = none) (hd : A.depth ≤ 690) (hu : A.units ≤ 800)
    (h : ∀ s' t', Kept s s' → Q (.str (lawText x) t') s') :
    wpAny (model PySem.Challenge.rw_mr0159_01.row.prog w) A (call (.ref 125) [.int x t]) Q E s := by
  refine lower hh hd hu ?_
  clear hh hd hu A
  obtain ⟨X, T⟩ := G
  revert X; k_fill; intro X
  refine wpAny_call ?_
  walk_at "mine enter"
  intro L h₁ hL F N
  have hx4 : x.fmod 4 = 0 ∨ x.fmod 4 = 1 ∨ x.fmod 4 = 2 ∨ x.fmod 4 = 3 := by
    have := Int.fmod_eq_emod_of_nonneg x (b := 4) (by decide); omega
  try dsimp only
  try k_fold
  rcases hx4 with hx4 | hx4 | hx4 | hx4
  · have hn : lawName x = Str.ofString "a" := by simp only [lawName, hx4]; rfl
    k_steps
    all_goals ((rename Fr _ _ _ _ => F); (rename (Int.fmod (Int.fdiv x 4) 4 = _) => e); (rename Kept _ _ => k); exact retS (h _ _ ⟨F.keep, k.os, k.gens⟩) (by simp only [lawText, lawName, e, hx4]; rfl))
  · have hn : lawName x = Str.ofString "a.b" := by simp only [lawName, hx4]; rfl
    k_steps
    all_goals ((rename Fr _ _ _ _ => F); (rename (Int.fmod (Int.fdiv x 4) 4 = _) => e); (rename Kept _ _ => k); exact retS (h _ _ ⟨F.keep, k.os, k.gens⟩) (by simp only [lawText, lawName, e, hx4]; rfl))
  · have hn : lawName x = Str.ofString "b" := by simp only [lawName, hx4]; rfl
    k_steps
    all_goals ((rename Fr _ _ _ _ => F); (rename (Int.fmod (Int.fdiv x 4) 4 = _) => e); (rename Kept _ _ => k); exact retS (h _ _ ⟨F.keep, k.os, k.gens⟩) (by simp only [lawText, lawName, e, hx4]; rfl))
  · have hn : lawName x = Str.ofString "ab" := by simp only [lawName, hx4]; rfl
    k_steps
    all_goals ((rename Fr _ _ _ _ => F); (rename (Int.fmod (Int.fdiv x 4) 4 = _) => e); (rename Kept _ _ => k); exact retS (h _ _ ⟨F.keep, k.os, k.gens⟩) (by simp only [lawText, lawName, e, hx4]; rfl))
end
section
/-- rows for the walk -/
theorem rows_M2_1 : True := by
  w_top off
  k_with_none
  k_with "mine enter" => ( (refine' fn_call (by assumption) (by assumption) ?k6 ?k7 ?k8 ?k9 ?kB ?c2 ?c3 ?c4 ?c5 ?_); (case k6 => k_is); (case k7 => k_is); (case k8 => decide); (case k9 => exact BindsTo.of_eq rfl); (case kB => exact locs rfl); (case c2 => exact rfl); (case c3 => exact rfl); (case c4 => exact rfl); (case c5 => decide))
  trivial
theorem kind_call {w : World} {A : Around} {mean mg mb} {s : Shared} {n : Value} {x : Str} {t : Tok} {Q : Value → Shared → Prop} {E : Value → Shared → Prop}
    (G : Gr w mean mg mb s.heap) (hh : A.handled = none) (hd : A.depth ≤ 700) (hu : A.units ≤ 900)
    (h : ∀ s' t', Kept s s' → Q (.str "" t') s') :
    wpAny (model PySem.Challenge.rw_mr0159_01.row.prog w) A (call (.ref 28) [n, .str x t]) Q E s := by
  refine lower hh hd hu ?_
  clear hh hd hu A
  obtain ⟨X, T⟩ := G
  revert X; k_fill; intro X
  refine wpAny_call ?_
  walk_at "mine enter"
  intro L h₁ hL F N
  try dsimp only
  try k_fold
  k_steps
  all_goals ((rename Fr _ _ _ _ => F); exact retS (h _ _ (Kept.of F.keep)) rfl)

theorem splitroot_call1 {w : World} {A : Around} {mean mg mb} {s : Shared} {t : Tok} {Q : Value → Shared → Prop} {E : Value → Shared → Prop}
    (G : Gr w mean mg mb s.heap) (hh : A.handled = none) (hd : A.depth ≤ 700) (hu : A.units ≤ 900)
    (h : ∀ s' a t1 t2 t3, Kept s s' → s.heap.get? a = none → s'.heap.get? a = some { cls := .type "tuple", data := .seq #[.str "" t1, .str "/" t2, .str "p/" t3] } → Q (.ref a) s') :
    wpAny (model PySem.Challenge.rw_mr0159_01.row.prog w) A (call (.ref 42) [.str (Str.ofString "/p/") t]) Q E s := by
  refine lower hh hd hu ?_
  clear hh hd hu A
  obtain ⟨X, T⟩ := G
  revert X; k_fill; intro X
  refine wpAny_call ?_
  walk_at "mine enter"
  intro L h₁ hL F N
  try dsimp only
  try k_fold
  k_steps
  all_goals ((rename Fr _ _ _ _ => F); (rename News _ _ _ _ => N); (show Q (.ref _) _); exact h _ _ _ _ _ (Kept.of F.keep) (N _ (.head _)).2.2 (N _ (.head _)).1)
theorem splitroot_call2 {w : World} {A : Around} {mean mg mb} {s : Shared} {t : Tok} {Q : Value → Shared → Prop} {E : Value → Shared → Prop}
    (G : Gr w mean mg mb s.heap) (hh : A.handled = none) (hd : A.depth ≤ 700) (hu : A.units ≤ 900)
    (h : ∀ s' a t1 t2 t3, Kept s s' → s.heap.get? a = none → s'.heap.get? a = some { cls := .type "tuple", data := .seq #[.str "" t1, .str "" t2, .str "q/../r" t3] } → Q (.ref a) s') :
    wpAny (model PySem.Challenge.rw_mr0159_01.row.prog w) A (call (.ref 42) [.str (Str.ofString "q/../r") t]) Q E s := by
  refine lower hh hd hu ?_
  clear hh hd hu A
  obtain ⟨X, T⟩ := G
  revert X; k_fill; intro X
  refine wpAny_call ?_
  walk_at "mine enter"
  intro L h₁ hL F N
  try dsimp only
  try k_fold
  k_steps
  all_goals ((rename Fr _ _ _ _ => F); (rename News _ _ _ _ => N); (show Q (.ref _) _); exact h _ _ _ _ _ (Kept.of F.keep) (N _ (.head _)).2.2 (N _ (.head _)).1)


/-- rows for the walk -/
theorem rows_M2_2 : True := by
  k_with "mine enterN" => ( (refine' fn_callN (by assumption) (by assumption) (by assumption) ?k6 ?k7 ?k8 ?k9 ?kB ?c2 ?c3 ?c4 ?c5 ?_); (case k6 => k_is); (case k7 => k_is); (case k8 => decide); (case k9 => exact BindsTo.of_eq rfl); (case kB => exact locs rfl); (case c2 => exact rfl); (case c3 => exact rfl); (case c4 => exact rfl); (case c5 => decide))
  k_with "call ref" => (k_here; (with_reducible show wpAny _ _ (call (Value.ref 28) [_, Value.str _ _]) _ _ _); (rename Fr _ _ _ _ => kF); (rename News _ _ _ _ => kN); (refine' kind_call (Gr.fr (by assumption) (by assumption) kF) rfl (Nat.le_of_ble_eq_true rfl) (Nat.le_of_ble_eq_true rfl) ?_); intro s9 t9 k9; (have F9 := Fr.keeps kF k9.heap); (have N9 := News.grown kN k9.heap); (try dsimp only); clear kF kN)
  trivial
theorem emptyDict {w : World} : (dictOf [] 0).IsDictOf (strKind PySem.Challenge.rw_mr0159_01.row.prog w) [] := by
  obtain ⟨o, ho, hd⟩ := Heap.dictOf_iff.mp (Heap.DictOf.new (knd := strKind PySem.Challenge.rw_mr0159_01.row.prog w) ({} : Heap))
  rw [Heap.get?_push_size _ rfl] at ho
  show Obj.IsDictOf _ ({ cls := .type "dict", data := .dict #[] } : Obj) []
  rw [Option.some.inj ho]
  exact hd
theorem c_path_call {w : World} {A : Around} {mean mg mb} {hb : Heap} {s : Shared} {n1 n2 n3 : Str} {u1 u2 u3 : Tok} {a d : Addr} {x : Str} {t : Tok} {Q : Value → Shared → Prop} {E : Value → Shared → Prop}
    (G : Gr w mean mg mb hb) (hkb : ∀ b o, hb.get? b = some o → s.heap.get? b = some o) (hh : A.handled = none) (hd : A.depth ≤ 690) (hu : A.units ≤ 800) (had : a < d) (lo : (d == sysModules) = false)
    (hn : ∀ p ∈ [(a, ({ cls := .type "tuple", data := .seq #[.str x t] } : Obj)), (d, dictOf [] 0)], s.heap.get? p.1 = some p.2 ∧ hb.get? p.1 = none)
    (h : ∀ s' t', Kept s s' → Q (.str x t') s') :
    wpAny (model PySem.Challenge.rw_mr0159_01.row.prog w) A (call (.ref 35) [.str n1 u1, .str n2 u2, .str n3 u3, .ref a, .ref d]) Q E s := by
  refine lower hh hd hu ?_
  clear hh hd hu A
  have X := G.X
  revert X; k_fill; intro X
  refine wpAny_call ?_
  walk_at "mine enterN"
  clear X
  intro g L h₁ hg X T hlt F N
  k_lt hlt
  have hED := emptyDict (w := w)
  have hFP : PyProof.V.FlatPairs PyData.str [] [] := .nil
  try dsimp only
  try k_fold
  k_steps
  all_goals ((rename Fr _ _ _ _ => F); (rename News _ _ _ _ => N); (rename Kept _ _ => k); (show Q (.str x t) _); subst hg; exact h _ _ ⟨kept_hidden (fun p hp => (hn p hp).1) F N (fun p hp => hp), k.os, k.gens⟩)


/-- rows for the walk -/
theorem rows_M2_3 : True := by
  k_with "call ref" => (k_here; (with_reducible show wpAny _ _ (call (Value.ref 42) [Value.str _ _]) _ _ _); (rename Fr _ _ _ _ => kF); (rename News _ _ _ _ => kN); (first | refine' splitroot_call1 (Gr.fr (by assumption) (by assumption) kF) rfl (Nat.le_of_ble_eq_true rfl) (Nat.le_of_ble_eq_true rfl) ?_ | refine' splitroot_call2 (Gr.fr (by assumption) (by assumption) kF) rfl (Nat.le_of_ble_eq_true rfl) (Nat.le_of_ble_eq_true rfl) ?_); intro s9 a9 t1 t2 t3 k9 e9 e8; (have F9 := Fr.keeps kF k9.heap); (have N9 := news_new kF (News.grown kN k9.heap) k9.heap e9 e8); (have l9 := allNe_of (news_ne kN e9)); (try simp only [AllNe, and_true] at l9); (try dsimp only); clear kF kN)
  trivial
theorem normpath0_call1 {w : World} {A : Around} {mean mg mb} {s : Shared} {t : Tok} {Q : Value → Shared → Prop} {E : Value → Shared → Prop}
    (G : Gr w mean mg mb s.heap) (hh : A.handled = none) (hd : A.depth ≤ 690) (hu : A.units ≤ 800)
    (h : ∀ s' t', Kept s s' → Q (.str "/p" t') s') :
    wpAny (model PySem.Challenge.rw_mr0159_01.row.prog w) A (call (.ref 49) [.str (Str.ofString "/p/") t]) Q E s := by
  refine lower hh hd hu ?_
  clear hh hd hu A
  obtain ⟨X, T⟩ := G
  revert X; k_fill; intro X
  refine wpAny_call ?_
  walk_at "mine enter"
  intro L h₁ hL F N
  try dsimp only
  try k_fold
  k_steps
  all_goals ((rename Fr _ _ _ _ => F); (rename Kept _ _ => k); (show Q (.str _ _) _); exact retS (h _ _ ⟨F.keep, k.os, k.gens⟩) rfl)

theorem normpath0_call2 {w : World} {A : Around} {mean mg mb} {s : Shared} {t : Tok} {Q : Value → Shared → Prop} {E : Value → Shared → Prop}
    (G : Gr w mean mg mb s.heap) (hh : A.handled = none) (hd : A.depth ≤ 690) (hu : A.units ≤ 800)
    (h : ∀ s' t', Kept s s' → Q (.str "r" t') s') :
    wpAny (model PySem.Challenge.rw_mr0159_01.row.prog w) A (call (.ref 49) [.str (Str.ofString "q/../r") t]) Q E s := by
  refine lower hh hd hu ?_
  clear hh hd hu A
  obtain ⟨X, T⟩ := G
  revert X; k_fill; intro X
  refine wpAny_call ?_
  walk_at "mine enter"
  intro L h₁ hL F N
  try dsimp only
  try k_fold
  k_steps
  all_goals ((rename Fr _ _ _ _ => F); (rename Kept _ _ => k); (show Q (.str _ _) _); exact retS (h _ _ ⟨F.keep, k.os, k.gens⟩) rfl)


abbrev tup1 (v : Value) : Obj := { cls := .type "tuple", data := .seq #[v] }
section
variable {prog : Program} {w : World} {A : Around} {s : Shared} {K : Frag} {R : Result → Shared → Prop} {p : Program} {loose : List Str} {mean : ExcName → Option Value} {mg mb : Str → Option Value}
theorem fn_callV {name qual : Str} {params : Arguments} {body : List Stmt} {scope : Scope} {dV kV doc pm cdv ct oc : Value} {an od : Option Addr} {osl : Array (Option Value)} {f : Addr} {v : Value} {na nk : Str}
    (X : K.In s.heap) (T : Top p loose mean mg mb s.heap)
    (ho : K.lookup f = some ⟨oc, od, .func (fnOf name qual params body scope dV kV doc pm an cdv ct), osl⟩) (hcd : codeIn K cdv qual = true) (hroom : A.depth < recursionLimit)
    (hbind : bindArgs (fnOf name qual params body scope dV kV doc pm an cdv ct) ⟨[v], []⟩ = (newTuple [v] >>= fun t => alloc { cls := .type "dict", data := .dict #[] } >>= fun d => pure [(na, t), (nk, .ref d)]))
    (hl1 : scope.names.lookup na = some .local) (hl2 : scope.names.lookup nk = some .local)
    (hco : scope.isCoroutine = false) (hgen : scope.isGenerator = false) (hk : scope.kind = .function)
    (hcell : ∀ x ∈ scope.names, x.2 ≠ .cell)
    (h : ∀ a d L h₁, a < d → d < L → (d == sysModules) = false → Fr s.heap L h₁ (fun y => [(na, Value.ref a), (nk, Value.ref d)].reverse.lookup y) → News s.heap L h₁ [(a, tup1 v), (d, dictOf [] 0)] →
      wpAny (model prog w) (A.deeper (envOf qual scope L f cdv)) (execs body (envOf qual scope L f cdv))
        (fun fl s' => R (.ok (.ret (match fl with | .ret v => v | _ => .none))) s')
        (fun e s' => wpAny (model prog w) (A.deeper (envOf qual scope L f cdv)) (leaving (envOf qual scope L f cdv) e) (fun _ s'' => R (.error e) s'') (fun e' s'' => R (.error e') s'') s')
        { s with heap := h₁, toks := s.toks + 2 }) : codeAny (model prog w) A (.call (.ref f) ⟨[v], []⟩) R s := by
  refine codeAny_call_function (fd := fnOf name qual params body scope dV kV doc pm an cdv ct) (body := body) hroom (X _ _ ho) rfl hco hgen rfl (codeRec_of X hcd) ?_
  rw [hbind]
  refine wpAny_bind (wpAny_newObj_type (wpAny_bind (wpAny_alloc (wpAny_pure ?_))) (by size_fits))
  refine wpAny_newFunctionEnv hcell (fun x hx => ?_) (fun h₁ hns hsb => ?_) hk
  · rcases List.mem_cons.mp hx with rfl | hx
    · exact hl1
    · rw [List.mem_singleton.mp hx]; exact hl2
  · dsimp only at hns hsb ⊢
    have hlim : ((s.heap.push { cls := .type "tuple", data := .seq #[v] }).push { cls := .type "dict", data := .dict #[] }).NoLimit := T.nolimit.keeps fun b o e => Heap.get?_push_of_some _ (Heap.get?_push_of_some _ e)
    have keep : ∀ b o, ((s.heap.push { cls := .type "tuple", data := .seq #[v] }).push { cls := .type "dict", data := .dict #[] }).get? b = some o → h₁.get? b = some o := fun b o e =>
      hsb.extBut b o (Nat.ne_of_lt (Heap.lt_size e)) (Heap.get?_push_of_some _ e)
    have hs1 : (s.heap.push { cls := .type "tuple", data := .seq #[v] }).objs.size = s.heap.objs.size + 1 := Heap.size_push ..
    have hs2 : ((s.heap.push { cls := .type "tuple", data := .seq #[v] }).push { cls := .type "dict", data := .dict #[] }).objs.size = s.heap.objs.size + 2 := by rw [Heap.size_push, hs1]
    have old : ∀ b, s.heap.objs.size ≤ b → s.heap.get? b = none := fun b hb => by
      cases e : s.heap.get? b with
      | none => rfl
      | some o => exact absurd (Heap.lt_size e) (Nat.not_lt.mpr hb)
    have hm := modules_low T.nolimit
    refine ⟨hlim.fresh _ hsb, codeAny_func ?_⟩
    refine h s.heap.objs.size (s.heap.push { cls := .type "tuple", data := .seq #[v] }).objs.size _ h₁ (by rw [hs1]; exact Nat.lt_succ_self _) (by rw [hs1, hs2]; exact Nat.lt_succ_self _) ?_ ⟨hns, fun b o e => keep b o (Heap.get?_push_of_some _ (Heap.get?_push_of_some _ e)), by rw [hs2]; omega⟩ ?_
    · rw [hs1]; exact beq_eq_false_iff_ne.mpr (Nat.ne_of_gt (Nat.lt_succ_of_lt hm))
    · intro p hp
      rcases List.mem_cons.mp hp with rfl | hp
      · exact ⟨keep _ _ (Heap.get?_push_of_some _ (Heap.get?_push_size _ rfl)), by show s.heap.objs.size ≠ _; rw [hs2]; omega, old _ (Nat.le_refl _)⟩
      · rw [List.mem_singleton.mp hp]
        exact ⟨keep _ _ (Heap.get?_push_size _ rfl), by show Array.size _ ≠ _; rw [hs1, hs2]; omega, old _ (by rw [hs1]; omega)⟩
end

theorem normpath_call1 {w : World} {A : Around} {mean mg mb} {s : Shared} {x y : Str} {t : Tok} {Q : Value → Shared → Prop} {E : Value → Shared → Prop}
    (G : Gr w mean mg mb s.heap) (hh : A.handled = none) (hd : A.depth ≤ 680) (hu : A.units ≤ 700)
    (hc : ∀ (s₁ : Shared) (A₁ : Around) (t' : Tok) (Q₁ : Value → Shared → Prop) (E₁ : Value → Shared → Prop), Gr w mean mg mb s₁.heap → A₁.handled = none → A₁.depth ≤ 690 → A₁.units ≤ 800 → (∀ s' t', Kept s₁ s' → Q₁ (.str y t') s') → wpAny (model PySem.Challenge.rw_mr0159_01.row.prog w) A₁ (call (.ref 49) [.str x t']) Q₁ E₁ s₁)
    (h : ∀ s' t', Kept s s' → Q (.str y t') s') :
    wpAny (model PySem.Challenge.rw_mr0159_01.row.prog w) A (call (.ref 56) [.str x t]) Q E s := by
  refine lower hh hd hu ?_
  clear hh hd hu A
  have X := G.X
  revert X; k_fill; intro X
  refine wpAny_call ?_
  refine' fn_callV X G.T ?k6 ?k7 ?k8 ?k9 ?l1 ?l2 ?c2 ?c3 ?c4 ?c5 ?_
  case k6 => k_is
  case k7 => k_is
  case k8 => decide
  case k9 => rfl
  case l1 => rfl
  case l2 => rfl
  case c2 => rfl
  case c3 => rfl
  case c4 => rfl
  case c5 => decide
  intro a d L h₁ had hdL lo F N
  have T := G.T
  k_steps
  refine c_path_call G F.keep rfl (Nat.le_of_ble_eq_true rfl) (Nat.le_of_ble_eq_true rfl) had lo (fun p hp => ⟨(N p hp).1, (N p hp).2.2⟩) ?_
  intro s1 t1 k1
  have F1 := F.keeps k1.heap
  have N1 := N.grown k1.heap
  clear F N
  k_steps
  refine hc _ _ _ _ _ (Gr.fr X T F1) rfl (Nat.le_of_ble_eq_true rfl) (Nat.le_of_ble_eq_true rfl) ?_
  intro s2 t2 k2
  have F2 := F1.keeps k2.heap
  show Q (.str y t2) _
  exact h _ _ ⟨F2.keep, k2.os.trans k1.os, fun g => k2.gens (k1.gens g)⟩
theorem normpath_p {w : World} {A : Around} {mean mg mb} {s : Shared} {t : Tok} {Q : Value → Shared → Prop} {E : Value → Shared → Prop}
    (G : Gr w mean mg mb s.heap) (hh : A.handled = none) (hd : A.depth ≤ 680) (hu : A.units ≤ 700) (h : ∀ s' t', Kept s s' → Q (.str "/p" t') s') :
    wpAny (model PySem.Challenge.rw_mr0159_01.row.prog w) A (call (.ref 56) [.str (Str.ofString "/p/") t]) Q E s :=
  normpath_call1 G hh hd hu (fun _ _ _ _ _ g a b c d => normpath0_call1 g a b c d) h
theorem normpath_r {w : World} {A : Around} {mean mg mb} {s : Shared} {t : Tok} {Q : Value → Shared → Prop} {E : Value → Shared → Prop}
    (G : Gr w mean mg mb s.heap) (hh : A.handled = none) (hd : A.depth ≤ 680) (hu : A.units ≤ 700) (h : ∀ s' t', Kept s s' → Q (.str "r" t') s') :
    wpAny (model PySem.Challenge.rw_mr0159_01.row.prog w) A (call (.ref 56) [.str (Str.ofString "q/../r") t]) Q E s :=
  normpath_call1 G hh hd hu (fun _ _ _ _ _ g a b c d => normpath0_call2 g a b c d) h
end
section
section Gen
variable {prog : Program} {w : World}

abbrev tup2 (a b : Value) : Obj := { cls := .type "tuple", data := .seq #[a, b] }
/-- what the generator over x hands out: the pairs, in their order; its own objects: C (its frame), wr (enumerate, the text's iterator) -/
def escProto (x : Str) (C : Addr) (wr : List Addr) : Protocol := fun m s₀ v s kap =>
  (∃ T c tp tc, x.cps[x.cps.size - 1 - m]? = some c ∧ v = .ref T ∧ s₀.heap.get? T = none ∧ s.heap.get? T = some (tup2 (.int ((x.cps.size - 1 - m : Nat) : Int) tp) (.str ⟨#[c]⟩ tc))) ∧ GenSince C wr s₀ s ∧ (∀ b ∈ C :: wr, ∃ o, s.heap.get? b = some o) ∧
    ∀ s'' : Shared, (∀ b ∈ C :: wr, ∀ o, s.heap.get? b = some o → s''.heap.get? b = some o) → kap (.send .none) s''
abbrev escEnd (C : Addr) (wr : List Addr) : GenEnd := fun n s₀ r s₁ => r = .ok (.ret .none) ∧ (n = 0 ∧ GenSince C wr s₀ s₁)

abbrev escIf (a1 a2 b1 b2 b3 b4 c1 c2 c3 c4 c5 : Pos) (ck : Nat) (B1 B2 : List Stmt) : Stmt :=
  .If (.Name (Str.ofString "escape") a1) B1 [.If (.Compare (.Name (Str.ofString "ch") b1) [.Eq] [.Constant (.str (Str.ofString "\\")) 0 b2] b3) B2 [.Expr (.Yield (some (.Tuple [.Name (Str.ofString "pos") c1, .Name (Str.ofString "ch") c2] ck c3)) c4) c5] b4] a2

theorem seg_escLoop {A : Around} {nm : Str} {sc : Scope} {C fa : Addr} {cd : Value} {x : Str} {e it : Addr} {fs : List Frame} {a1 a2 b1 b2 b3 b4 c1 c2 c3 c4 c5 p1 p2 p3 : Pos} {ck tk : Nat} {B1 B2 : List Stmt}
    {Pt : Nat → Array Value → Prop} {St : Nat → Heap → Prop} {Mid : Nat → Addr → Heap → Prop}
    (hhf : ∀ c, (A.over c fs).handled = none) (W : ∀ A' : Around, A'.handled = none → WalksT prog w A' e [e, it] [e, it] x.cps.size Pt St Mid)
    (hPt : ∀ i vals, Pt i vals → ∃ t c u, x.cps[i]? = some c ∧ vals = #[.int i t, .str ⟨#[c]⟩ u])
    (hlive : ∀ i h, St i h → (∃ o, h.get? e = some o) ∧ ∃ o, h.get? it = some o)
    (hx : ∀ (i c : Nat), x.cps[i]? = some c → c ≠ 92) (hint : interactive (envOf nm sc C fa cd) = false)
    (hk : sc.kind = .function) (hco : sc.isCoroutine = false)
    (kpos : (envOf nm sc C fa cd).kindOf (Str.ofString "pos") = some .local) (kch : (envOf nm sc C fa cd).kindOf (Str.ofString "ch") = some .local) (kesc : (envOf nm sc C fa cd).kindOf (Str.ofString "escape") = some .local)
    (hCe : C ∉ [e, it]) (hfs : splitAtGen fs = none) (hfg : fs.any Frame.guarded = false)
    (hend : ∀ c (s₀ s : Shared) m, s.heap.Ns C m → m (Str.ofString "escape") = some (.bool false) → GenSince C [e, it] s₀ s → Seg (model prog w) A (escEnd C [e, it]) (escProto x C [e, it]) 0 s₀ c (leafOf (.ok .next)) fs s) :
    ∀ (k i : Nat) (s₀ s : Shared) (m : Str → Option Value), x.cps.size - i = k → i ≤ x.cps.size → St i s.heap → s.heap.Ns C m → m (Str.ofString "escape") = some (.bool false) → GenSince C [e, it] s₀ s →
      Seg (model prog w) A (escEnd C [e, it]) (escProto x C [e, it]) (x.cps.size - i) s₀
        (.forLoop (.Tuple [.Name (Str.ofString "pos") p1, .Name (Str.ofString "ch") p2] tk p3) (.ref e) [escIf a1 a2 b1 b2 b3 b4 c1 c2 c3 c4 c5 ck B1 B2] [] (envOf nm sc C fa cd))
        ((model prog w).den (.forLoop (.Tuple [.Name (Str.ofString "pos") p1, .Name (Str.ofString "ch") p2] tk p3) (.ref e) [escIf a1 a2 b1 b2 b3 b4 c1 c2 c3 c4 c5 ck B1 B2] [] (envOf nm sc C fa cd))) fs s := by
  have hp : ((envOf nm sc C fa cd).scope.kind == .class || ((envOf nm sc C fa cd).scope.kind == .module && (envOf nm sc C fa cd).locals != (envOf nm sc C fa cd).globals)) = false := by
    show (sc.kind == .class || (sc.kind == .module && _)) = false
    rw [hk]; rfl
  intro k
  induction k with
  | zero =>
    intro i s₀ s m hki hi hst hn hme hsince
    have hin : i = x.cps.size := by omega
    subst hin
    rw [Nat.sub_self]
    show Seg _ A _ _ _ s₀ _ ((forTurn _ (.ref e) _ [] _).onRaise _) fs s
    unfold forTurn
    rw [Sem.onRaise_eq_wrap]
    refine seg_bind_wrap (wpAny_standAt ?_)
    refine seg_bind_wrap (wpAny_onRaise ((W _ (hhf _)).done s _ _ hst fun h' tk' hk' => ?_))
    refine seg_again rfl ?_
    show Seg _ A _ _ _ s₀ _ (leafOf (.ok .next)) fs _
    exact hend _ s₀ _ m (hn.at' fun o e => hk' _ o hCe e) hme (hsince.step fun b o _ hw e => hk' b o hw e)
  | succ k ih =>
    intro i s₀ s m hki hi hst hn hme hsince
    have hlt : i < x.cps.size := by omega
    show Seg _ A _ _ _ s₀ _ ((forTurn _ (.ref e) _ [] _).onRaise _) fs s
    unfold forTurn
    rw [Sem.onRaise_eq_wrap]
    refine seg_bind_wrap (wpAny_standAt ?_)
    refine seg_bind_wrap (wpAny_onRaise ((W _ (hhf _)).item i s _ _ hlt hst fun T vals h₁ tk₁ hPv hTs hT₁ hmid hk₁ => ?_))
    obtain ⟨t, c, u, hc, rfl⟩ := hPt i vals hPv
    refine seg_bind_wrap ((W _ (hhf _)).go _ _ _ i T _ _ _ hmid fun h₁' hst₁ hk₁' => ?_)
    have hT₁' : h₁'.IsTuple T #[.int i t, .str ⟨#[c]⟩ u] := let ⟨o, e, r⟩ := hT₁; ⟨o, hk₁' _ o ((W _ (hhf (.builtin "" {}))).apart i T _ hmid) e, r⟩
    refine seg_bind_wrap (wpAny_assign_Tuple (hhf _) hT₁' rfl rfl fun h₁'' hx₁ => ?_)
    replace hx₁ : Heap.ExtBut h₁'.objs.size h₁' h₁'' := hx₁
    have old₁ : ∀ b o, h₁'.get? b = some o → h₁''.get? b = some o := fun b o e => hx₁ b o (Nat.ne_of_lt (Heap.lt_size e)) e
    have hCw := hCe
    show wpAny _ _ (do holding [Value.str ⟨#[c]⟩ u] (assign (.Name (Str.ofString "pos") p1) (envOf nm sc C fa cd) (.int i t)); do holding [] (assign (.Name (Str.ofString "ch") p2) (envOf nm sc C fa cd) (.str ⟨#[c]⟩ u)); pure ()) _ _ _
    refine wpAny_bind (wpAny_holding (wpAny_assign_Name (wpAny_storeName_local kpos (hn.at' fun o e => old₁ _ o (hk₁' _ o hCw (hk₁ _ o hCw e))) (fun h₂a hn₂a hs₂a => ?_) hp)))
    replace hs₂a : Heap.SameBut C h₁'' h₂a := hs₂a
    refine wpAny_bind (wpAny_holding (wpAny_assign_Name (wpAny_storeName_local kch hn₂a (fun h₂ hn₂ hs₂ => wpAny_pure ?_) hp)))
    replace hs₂ : Heap.SameBut C h₂a h₂ := hs₂
    have up₂ : ∀ b o, b ≠ C → b ∉ [e, it] → s.heap.get? b = some o → h₂.get? b = some o := fun b o hbC hbw e => hs₂.extBut b o hbC (hs₂a.extBut b o hbC (old₁ b o (hk₁' b o hbw (hk₁ b o hbw e))))
    have hst₂ : St (i + 1) h₂ := (W (A.over (.builtin "" {}) fs) (hhf _)).frame _ _ _ hst₁ fun b hb o e => hs₂.extBut b o (fun h => hCe (h ▸ hb)) (hs₂a.extBut b o (fun h => hCe (h ▸ hb)) (old₁ b o e))
    have hsince₂ : GenSince C [e, it] s₀ { s with heap := h₂, toks := tk₁ + 1 + 1 } := hsince.step fun b o hbC hbw e => up₂ b o hbC hbw e
    have F₂ : Fr {} C h₂ (fun y => if y = Str.ofString "ch" then some (.str ⟨#[c]⟩ u) else if y = Str.ofString "pos" then some (.int i t) else m y) :=
      ⟨hn₂, fun b o e => by simp [Heap.get?] at e, Nat.zero_le _⟩
    rw [Sem.bind_eq_wrap', Sem.wrap_wrap]
    refine seg_execs_cons ?_
    rw [exec_If]
    refine seg_bind_wrap (wpAny_standAt ?_)
    refine seg_bind_wrap (isTrue_plain (ld F₂ (show (if Str.ofString "escape" = Str.ofString "ch" then _ else if Str.ofString "escape" = Str.ofString "pos" then _ else m (Str.ofString "escape")) = _ by rw [if_neg (by decide), if_neg (by decide)]; exact hme) (wpAny_truthy_bool ?_) hk kesc (by decide)))
    simp only [Bool.false_eq_true, if_false]
    refine seg_execs_cons ?_
    rw [exec_If]
    refine seg_bind_wrap (wpAny_standAt ?_)
    refine seg_bind_wrap (wpAny_isTrue_Compare1 (ld F₂ (if_pos rfl) (wpAny_Constant_str (eq_str (wpAny_truthy_bool ?_))) hk kch (by decide)))
    have hcne : ((⟨#[c]⟩ : Str) == Str.ofString "\\") = false := by
      have := hx i c hc
      apply beq_eq_false_iff_ne.mpr
      intro hq
      have : (⟨#[c]⟩ : Str).cps = (Str.ofString "\\").cps := by rw [hq]
      have h2 : (Str.ofString "\\").cps = #[92] := by decide +kernel
      rw [h2] at this
      simp at this
      contradiction
    rw [hcne]
    simp only [Bool.false_eq_true, if_false]
    refine seg_execs_cons ?_
    have hn1 : x.cps.size - i = (x.cps.size - (i + 1)) + 1 := by omega
    rw [hn1]
    refine seg_Expr_Yield hfs rfl hfg ?_ hco hint
    refine wpAny_Tuple (wpAny_items_cons (ld F₂ (by rw [if_neg (by decide), if_pos rfl]) (wpAny_items_cons (ld F₂ (if_pos rfl) (wpAny_items_nil ⟨(show 2 ≤ sizeLine by decide), ?_⟩) hk kch (by decide))) hk kpos (by decide)))
    intro kap hkap
    have hi1 : x.cps.size - 1 - (x.cps.size - (i + 1)) = i := by omega
    have hfresh : s₀.heap.get? h₂.objs.size = none := by
      cases hq : s₀.heap.get? h₂.objs.size with
      | none => rfl
      | some o =>
        exfalso
        obtain ⟨_, _, heq, hk₀⟩ := hsince₂
        obtain ⟨⟨oe, he⟩, ⟨oi, hi'⟩⟩ := hlive _ _ hst₂
        have h1 : h₂.objs.size ≠ C := Nat.ne_of_gt F₂.ns.lt
        have h2 : h₂.objs.size ∉ [e, it] := by
          intro hm
          rcases List.mem_cons.mp hm with h | h
          · exact absurd (Heap.lt_size he) (h ▸ Nat.lt_irrefl _)
          · exact absurd (Heap.lt_size hi') ((List.mem_singleton.mp h) ▸ Nat.lt_irrefl _)
        have h3 := hk₀ _ o h1 h2 hq
        injection heq with heq
        rw [← heq] at h3
        exact absurd (Heap.lt_size h3) (Nat.lt_irrefl _)
    refine ⟨⟨h₂.objs.size, c, t, u, by rw [hi1]; exact hc, rfl, hfresh, by rw [hi1]; exact Heap.get?_push_size _ rfl⟩, hsince₂.step fun b o _ _ e => Heap.get?_push_of_some _ e, ?_, fun s'' hal => ?_⟩
    · intro b hb
      obtain ⟨⟨oe, he⟩, ⟨oi, hi'⟩⟩ := hlive _ _ hst₂
      rcases List.mem_cons.mp hb with rfl | hb
      · obtain ⟨oC, _, _, hC, _⟩ := hn₂; exact ⟨oC, Heap.get?_push_of_some _ hC⟩
      rcases List.mem_cons.mp hb with rfl | hb
      · exact ⟨oe, Heap.get?_push_of_some _ he⟩
      · rw [List.mem_singleton.mp hb]; exact ⟨oi, Heap.get?_push_of_some _ hi'⟩
    refine hkap .none s'' ?_
    show Seg _ A _ _ _ s'' _ (.pure (.again _)) fs s''
    refine seg_again rfl (ih (i + 1) s'' s'' _ (by omega) hlt ((W (A.over (.builtin "" {}) fs) (hhf _)).frame _ _ _ hst₂ fun b hb o e => hal b (List.mem_cons_of_mem _ hb) o (Heap.get?_push_of_some _ e))
      (hn₂.at' fun o e => hal _ (List.mem_cons_self ..) o (Heap.get?_push_of_some _ e)) ?_ (GenSince.refl _ _ _))
    show (if Str.ofString "escape" = Str.ofString "ch" then _ else if Str.ofString "escape" = Str.ofString "pos" then _ else m (Str.ofString "escape")) = _
    rw [if_neg (by decide), if_neg (by decide)]; exact hme

abbrev escBody (d1 d2 d3 d4 d5 d6 p1 p2 p3 u1 u2 u3 r4 a1 a2 b1 b2 b3 b4 c1 c2 c3 c4 c5 v1 v2 : Pos) (ck tk : Nat) (B1 B2 B3 : List Stmt) : List Stmt :=
  [.Assign [.Name (Str.ofString "pos") d1] (.Constant (.int 0) 0 d2) d3, .Assign [.Name (Str.ofString "escape") d4] (.Constant (.bool false) 0 d5) d6,
   .For (.Tuple [.Name (Str.ofString "pos") p1, .Name (Str.ofString "ch") p2] tk p3) (.Call (.Name (Str.ofString "enumerate") u1) [.Name (Str.ofString "addr") u2] [] u3) [escIf a1 a2 b1 b2 b3 b4 c1 c2 c3 c4 c5 ck B1 B2] [] r4,
   .If (.Name (Str.ofString "escape") v1) B3 [] v2]

theorem stSame {M : Model} {A : Around} {E : Value → Shared → Prop} {s : Shared} {name : Str} {scope : Scope} {L a : Addr} {cd : Value} {h₀ : Heap} {m : Str → Option Value} {x : Str} {v : Value} {Q : Unit → Shared → Prop} (F : Fr h₀ L s.heap m)
    (h : ∀ h', Fr h₀ L h' (fun y => if y = x then some v else m y) → Heap.SameBut L s.heap h' → Q () { s with heap := h', toks := s.toks + 1 })
    (hk : scope.kind = .function) (hl : (envOf name scope L a cd).kindOf x = some .local) :
    wpAny M A (storeName (envOf name scope L a cd) x v) Q E s :=
  wpAny_storeName_local hl F.ns (fun h' hn hs => h h' (F.set hn hs) hs)
    (by show (scope.kind == .class || (scope.kind == .module && L != mainGlobals)) = false; rw [hk]; rfl)

theorem seg_escStart {A : Around} {nm : Str} {sc : Scope} {C fa : Addr} {cd : Value} {x : Str} {t₀ : Tok} {d1 d2 d3 d4 d5 d6 p1 p2 p3 u1 u2 u3 r4 a1 a2 b1 b2 b3 b4 c1 c2 c3 c4 c5 v1 v2 : Pos} {ck tk : Nat} {B1 B2 B3 : List Stmt}
    {h₀ : Heap} {mg mb : Str → Option Value} {p : Program} {loose : List Str} {mean : ExcName → Option Value} {K : Frag} {s : Shared} {m : Str → Option Value}
    (hh : A.handled = none) (F : Fr h₀ C s.heap m) (X : K.In h₀) (T : Top p loose mean mg mb h₀) (hen : nsIn K mainGlobals (Str.ofString "enumerate") = some none)
    (hm : m (Str.ofString "addr") = some (.str x t₀)) (hasc : x.cps.all (· < 128) = true)
    (hx : ∀ (i c : Nat), x.cps[i]? = some c → c ≠ 92) (hint : interactive (envOf nm sc C fa cd) = false)
    (hk : sc.kind = .function) (hco : sc.isCoroutine = false)
    (kpos : (envOf nm sc C fa cd).kindOf (Str.ofString "pos") = some .local) (kch : (envOf nm sc C fa cd).kindOf (Str.ofString "ch") = some .local) (kesc : (envOf nm sc C fa cd).kindOf (Str.ofString "escape") = some .local)
    (kad : (envOf nm sc C fa cd).kindOf (Str.ofString "addr") = some .local) (ken : (envOf nm sc C fa cd).kindOf (Str.ofString "enumerate") = some .globalImplicit)
    (hfold : ∀ y, foldedSetIterable (.Call (.Name (Str.ofString "enumerate") u1) [.Name (Str.ofString "addr") u2] [] u3) (envOf nm sc C fa cd) y = pure y) :
    Seg (model prog w) A (escEnd C [s.heap.objs.size + 1, s.heap.objs.size]) (escProto x C [s.heap.objs.size + 1, s.heap.objs.size]) x.cps.size s
      (.func (escBody d1 d2 d3 d4 d5 d6 p1 p2 p3 u1 u2 u3 r4 a1 a2 b1 b2 b3 b4 c1 c2 c3 c4 c5 v1 v2 ck tk B1 B2 B3) (envOf nm sc C fa cd))
      ((model prog w).den (.func (escBody d1 d2 d3 d4 d5 d6 p1 p2 p3 u1 u2 u3 r4 a1 a2 b1 b2 b3 b4 c1 c2 c3 c4 c5 v1 v2 ck tk B1 B2 B3) (envOf nm sc C fa cd))) [] s := by
  have hp : ((envOf nm sc C fa cd).scope.kind == .class || ((envOf nm sc C fa cd).scope.kind == .module && (envOf nm sc C fa cd).locals != (envOf nm sc C fa cd).globals)) = false := by
    show (sc.kind == .class || (sc.kind == .module && _)) = false
    rw [hk]; rfl
  have hlt := F.ns.lt
  refine seg_func ?_
  refine seg_execs_cons (seg_wrap (wpAny_Assign_Name (wpAny_Constant_int (stSame F (fun h₁ F₁ hs₁ => ?_) hk kpos))))
  refine seg_execs_cons (seg_wrap (wpAny_Assign_Name (Constant_bool (stSame F₁ (fun h₂ F₂ hs₂ => ?_) hk kesc))))
  refine seg_execs_cons ?_
  rw [exec_For]
  refine seg_bind_wrap (wpAny_standAt ?_)
  refine seg_bind_wrap (Call_Name rfl (ld_builtin_at F₂ T.g (mg_none_of X T.g hen) T.b ((T.builtins _ (by decide)).trans boot_enumerate) (callWith_type1 (wpAny_items_cons (ld (v := .str x t₀) F₂ ?_ (wpAny_items_nil (call_enumerate_str fun h₃ he hit hsz hkp => ?_)) hk kad (by decide)))) hk ken (by decide)))
  · show (if Str.ofString "addr" = Str.ofString "escape" then _ else if Str.ofString "addr" = Str.ofString "pos" then _ else m (Str.ofString "addr")) = _
    rw [if_neg (by decide), if_neg (by decide)]; exact hm
  replace hs₁ : Heap.SameBut C s.heap h₁ := hs₁
  replace hs₂ : Heap.SameBut C h₁ h₂ := hs₂
  have hz : h₂.objs.size = s.heap.objs.size := hs₂.1.trans hs₁.1
  dsimp only at he hit hsz hkp
  rw [hz] at he hit
  rw [show (strIterType x) = "str_ascii_iterator" by unfold strIterType; rw [if_pos hasc]] at hit
  have W : ∀ A' : Around, A'.handled = none → WalksT prog w A' (s.heap.objs.size + 1) [s.heap.objs.size + 1, s.heap.objs.size] [s.heap.objs.size + 1, s.heap.objs.size] x.cps.size _ _ _ :=
    fun A' hA => WalksT.enumerateD (Draws.strAscii (prog := prog) (w := w) (A := A'.in1) hA s.heap.objs.size x t₀) (s.heap.objs.size + 1) (Nat.succ_ne_self _) (by simp) (List.mem_singleton.mpr rfl)
  refine seg_bind_wrap (wpAny_of_eq (hfold _) ?_)
  refine seg_bind_wrap (wpAny_standAt ?_)
  dsimp only
  rw [hz]
  refine seg_bind_wrap (wpAny_holding (wpAny_pyIter_enum he ?_))
  have hn₃ : h₃.Ns C (fun y => if y = Str.ofString "escape" then some (.bool false) else if y = Str.ofString "pos" then some (.int 0 s.toks) else m y) := F₂.ns.keeps hkp
  have up : ∀ b o, b ≠ C → b ∉ [s.heap.objs.size + 1, s.heap.objs.size] → s.heap.get? b = some o → h₃.get? b = some o := fun b o hbC _ e => hkp b o (hs₂.extBut b o hbC (hs₁.extBut b o hbC e))
  have hCe : C ∉ [s.heap.objs.size + 1, s.heap.objs.size] := by
    intro hm
    rcases List.mem_cons.mp hm with h | h
    · exact absurd hlt (h ▸ Nat.not_lt.mpr (Nat.le_succ _))
    · exact absurd hlt ((List.mem_singleton.mp h) ▸ Nat.lt_irrefl _)
  show Seg _ A _ _ _ s _ (.call (.forLoop _ _ _ [] _) none false [] _) [] _
  refine seg_call fun pp => ?_
  refine seg_escLoop (by intro c; exact hh) W ?_ ?_ hx hint hk hco kpos kch kesc hCe rfl rfl ?_ _ 0 s _ _ rfl (Nat.zero_le _) ⟨⟨_, he⟩, hit⟩ hn₃ (if_pos rfl) ((GenSince.refl C _ s).step up)
  · rintro i vals ⟨t, y, ⟨c, u, hc, rfl⟩, rfl⟩
    exact ⟨t, c, u, hc, rfl⟩
  · rintro i h ⟨⟨old, ho⟩, hi⟩
    exact ⟨⟨_, ho⟩, let ⟨o, ho, _⟩ := hi; ⟨o, ho⟩⟩
  · intro c s₀ s' m' hn hme hsince
    refine seg_leaf (.ok .next) ?_
    show Seg _ A _ _ 0 s₀ _ ((execs [.If (.Name (Str.ofString "escape") v1) B3 [] v2] (envOf nm sc C fa cd)).wrap _ _ _ _) [] s'
    refine seg_execs_cons ?_
    rw [exec_If]
    refine seg_bind_wrap (wpAny_standAt ?_)
    have F' : Fr {} C s'.heap m' := ⟨hn, fun b o e => by simp [Heap.get?] at e, Nat.zero_le _⟩
    refine seg_bind_wrap (isTrue_plain (ld F' hme (wpAny_truthy_bool ?_) hk kesc (by decide)))
    simp only [Bool.false_eq_true, if_false]
    exact seg_end (.ok (.ret .none)) ⟨rfl, rfl, hsince⟩
end Gen
end
section
section Gen
variable {prog : Program} {w : World}

theorem letGo_gen {M : Model} {A : Around} {E : Value → Shared → Prop} {s : Shared} {elts : List Expr} {k : Nat} {pos : Pos} {ga g T : Addr} {Q : Unit → Shared → Prop} (hg : s.heap.IsGen ga g) (h : Q () s) :
    wpAny M A (letOwnedTupleGo (.Tuple elts k pos) (.ref ga) (.ref T)) Q E s := by
  obtain ⟨o, nm, qn, ho, hc, hd, _⟩ := hg
  unfold letOwnedTupleGo
  refine wpAny_bind (wpAny_load ho ?_)
  rw [hc, hd]
  exact wpAny_pure h

theorem setGen_gens {s : Shared} {g : Nat} {x : GenState} : (s.setGen g x).gens = s.gens.setIfInBounds g x := rfl

/-- what a turn leaves: the frame, the ledger, the invariant -/
def EscPost (h₀ : Heap) (L : Addr) (adr : List Addr) (J' : (Str → Option Value) → List (Addr × Obj) → Prop) (own : List (Addr × Obj)) (s₁ : Shared) (f : Flow) (s₂ : Shared) : Prop :=
  f = .next ∧ ∃ h' tk' m2 news2, s₂ = { s₁ with heap := h', toks := tk' } ∧ Fr h₀ L h' m2 ∧ News h₀ L h' (news2 ++ own) ∧ news2.map (·.1) = adr ∧ J' m2 news2
/-- a loop over the generator, by an invariant over the frame's names and the ledger -/
theorem for_esc {A : Around} {nm : Str} {sc : Scope} {L fa : Addr} {cd : Value} {h₀ : Heap} {p : Program} {loose : List Str} {mean : ExcName → Option Value} {mg mb : Str → Option Value}
    {x : Str} {ga C : Addr} {g : Nat} {gs₀ : GenState} {s : Shared} {m₀ : Str → Option Value} {news₀ : List (Addr × Obj)} {p1 p2 p3 : Pos} {tk : Nat} {body : List Stmt} {R : Result → Shared → Prop}
    (hh : A.handled = none) (hroom : A.depth < recursionLimit) (T : Top p loose mean mg mb h₀) (hk : sc.kind = .function)
    (kpos : (envOf nm sc L fa cd).kindOf (Str.ofString "pos") = some .local) (kch : (envOf nm sc L fa cd).kindOf (Str.ofString "ch") = some .local)
    (F : Fr h₀ L s.heap m₀) (N : News h₀ L s.heap news₀) (hg : s.heap.IsGen ga g) (hgs : s.gens[g]? = some gs₀)
    (hgo : gs₀.Goes (model prog w) A.in1 (escEnd C [s.heap.objs.size + 1, s.heap.objs.size]) (escProto x C [s.heap.objs.size + 1, s.heap.objs.size]) x.cps.size (.send .none) (s.setGen g .running))
    (hC : ∃ o, s.heap.get? C = some o) (hCL : C ≠ L) (hC0 : h₀.get? C = none) (hCn : ∀ p ∈ news₀, p.1 ≠ C) (hgL : ga ≠ L) (hg0 : h₀.get? ga = none) (hgn : ∀ p ∈ news₀, p.1 ≠ ga) (hgC : ga ≠ C)
    (J : Nat → (Str → Option Value) → List (Addr × Obj) → Prop) (h0 : J 0 m₀ news₀)
    (turn : ∀ (j c : Nat) tp tc m' news' own (s₁ : Shared) E', x.cps[j]? = some c → J j m' news' → news'.map (·.1) = news₀.map (·.1) → OwnOff own (news₀.map (·.1)) →
      Fr h₀ L s₁.heap (fun y => if y = Str.ofString "ch" then some (.str ⟨#[c]⟩ tc) else if y = Str.ofString "pos" then some (.int j tp) else m' y) → News h₀ L s₁.heap (news' ++ own) →
      wpAny (model prog w) A (execs body (envOf nm sc L fa cd)) (EscPost h₀ L (news₀.map (·.1)) (J (j + 1)) own s₁) E' s₁)
    (done : ∀ m' news' (s' : Shared), J x.cps.size m' news' → Fr h₀ L s'.heap m' → News h₀ L s'.heap news' → news'.map (·.1) = news₀.map (·.1) → s'.os = s.os → s'.gens = s.gens.setIfInBounds g .finished → R (.ok .next) s') :
    codeAny (model prog w) A (.forLoop (.Tuple [.Name (Str.ofString "pos") p1, .Name (Str.ofString "ch") p2] tk p3) (.ref ga) body [] (envOf nm sc L fa cd)) R s := by
  have hp : ((envOf nm sc L fa cd).scope.kind == .class || ((envOf nm sc L fa cd).scope.kind == .module && (envOf nm sc L fa cd).locals != (envOf nm sc L fa cd).globals)) = false := by
    show (sc.kind == .class || (sc.kind == .module && _)) = false
    rw [hk]; rfl
  have hLlt := F.ns.lt
  have hgalt : ga < s.heap.objs.size := let ⟨o, _, _, ho, _⟩ := hg; Heap.lt_size ho
  have hClt : C < s.heap.objs.size := let ⟨o, ho⟩ := hC; Heap.lt_size ho
  generalize hwr : [s.heap.objs.size + 1, s.heap.objs.size] = wr at hgo
  have hwrge : ∀ b ∈ wr, s.heap.objs.size ≤ b := by
    subst hwr
    intro b hb
    rcases List.mem_cons.mp hb with h | h
    · rw [h]; exact Nat.le_succ _
    · rw [List.mem_singleton.mp h]; exact Nat.le_refl _
  have none_ge : ∀ b, s.heap.objs.size ≤ b → h₀.get? b = none := fun b hb => by
    cases e : h₀.get? b with
    | none => rfl
    | some o => exact absurd (Heap.lt_size (F.keep _ _ e)) (Nat.not_lt.mpr hb)
  -- what stands between two turns
  let LS : Nat → Shared → Prop := fun j s' => ∃ h' tk' gs m' news', s' = { s with heap := h', toks := tk', gens := s.gens.setIfInBounds g gs } ∧ Fr h₀ L h' m' ∧ News h₀ L h' news' ∧ news'.map (·.1) = news₀.map (·.1) ∧ J j m' news' ∧ h'.IsGen ga g ∧
    (∀ b ∈ C :: wr, 0 < j → ∃ o, h'.get? b = some o) ∧
    (∀ s'' : Shared, (s'' = s'.setGen g .running ∨ (0 < j ∧ ∀ b ∈ C :: wr, ∀ o, h'.get? b = some o → s''.heap.get? b = some o)) → gs.Goes (model prog w) A.in1 (escEnd C wr) (escProto x C wr) (x.cps.size - j) (.send .none) s'')
  refine codeAny_forLoop_any (fun n s' => ∃ j, j ≤ x.cps.size ∧ n = x.cps.size - j ∧ LS j s') ?_ x.cps.size ⟨0, Nat.zero_le _, (Nat.sub_zero _).symm, ?_⟩
  · rintro n s' ⟨j, hj, rfl, h', tk', gs, m', news', rfl, F', N', hadr, hJ, hg', hal, hgo'⟩
    have hglt : g < s.gens.size := by
      rcases Nat.lt_or_ge g s.gens.size with h | h
      · exact h
      · rw [Array.getElem?_eq_none h] at hgs; cases hgs
    have hgs' : (s.gens.setIfInBounds g gs)[g]? = some gs := by simp [hglt]
    refine wpAny_pyNext_gen (P := fun n s₀ s₁ => n = 0 ∧ GenSince C wr s₀ s₁) (Y := escProto x C wr) (n := x.cps.size - j) hh (T.nolimit.keeps F'.keep) hroom hg' hgs' (hgo' _ (.inl rfl)) (fun v s₁ gs' hY => ?_) (fun s₁ hP h₁ hk₁ => ?_)
    · obtain ⟨⟨T', c, tp, tc, hc, rfl, hTn, hT⟩, ⟨h₁, tk₁, rfl, hk₁⟩, hlv, hkap⟩ := hY
      replace hTn : h'.get? T' = none := hTn
      replace hk₁ : ∀ b o, b ≠ C → b ∉ wr → h'.get? b = some o → h₁.get? b = some o := hk₁
      dsimp only at hT hlv hkap
      have hjlt : j < x.cps.size := by
        rcases Nat.lt_or_ge j x.cps.size with h | h
        · exact h
        · exfalso
          have e0 : x.cps.size - j = 0 := by omega
          have := hkap { s with heap := h₁ } (fun b hb o e => e)
          rw [e0] at this
          exact this
      have hjj : x.cps.size - 1 - (x.cps.size - j - 1) = j := by omega
      rw [hjj] at hc hT
      have hLw : L ∉ wr := fun hm => absurd hLlt (Nat.not_lt.mpr (hwrge _ hm))
      have hgaw : ga ∉ wr := fun hm => absurd hgalt (Nat.not_lt.mpr (hwrge _ hm))
      have hCw : C ∉ wr := fun hm => absurd hClt (Nat.not_lt.mpr (hwrge _ hm))
      have adrlt : ∀ p ∈ news', p.1 < s.heap.objs.size ∧ p.1 ≠ C ∧ p.1 ≠ ga := by
        intro p hp
        have h1 : p.1 ∈ news₀.map (·.1) := hadr ▸ List.mem_map_of_mem hp
        obtain ⟨q, hq, hqe⟩ := List.mem_map.mp h1
        rw [← hqe]
        exact ⟨Heap.lt_size (N q hq).1, hCn q hq, hgn q hq⟩
      have F₁ : Fr h₀ L h₁ m' := by
        obtain ⟨oL, es, ep, hL, r⟩ := F'.ns
        refine ⟨⟨oL, es, ep, hk₁ L oL (Ne.symm hCL) hLw hL, r⟩, fun b o e => hk₁ b o ?_ ?_ (F'.keep b o e), F'.above⟩
        · rintro rfl; rw [e] at hC0; cases hC0
        · intro hm; have := none_ge b (hwrge b hm); rw [e] at this; cases this
      have N₁ : News h₀ L h₁ news' := fun p hp => ⟨hk₁ _ _ (adrlt p hp).2.1 (fun hm => absurd (adrlt p hp).1 (Nat.not_lt.mpr (hwrge _ hm))) (N' p hp).1, (N' p hp).2⟩
      have hg₁ : h₁.IsGen ga g := let ⟨o, a, b, ho, r⟩ := hg'; ⟨o, a, b, hk₁ _ _ hgC hgaw ho, r⟩
      refine letGo_gen hg₁ ?_
      refine wpAny_assign_Tuple hh ⟨_, hT, rfl, _, rfl⟩ rfl rfl fun h₂ hx₂ => ?_
      replace hx₂ : Heap.ExtBut h₁.objs.size h₁ h₂ := hx₂
      have up₂ : ∀ b o, h₁.get? b = some o → h₂.get? b = some o := fun b o e => hx₂ b o (Nat.ne_of_lt (Heap.lt_size e)) e
      have F₂ := F₁.keeps up₂
      have N₂ := N₁.grown up₂
      show wpAny _ _ (do holding [Value.str ⟨#[c]⟩ tc] (assign (.Name (Str.ofString "pos") p1) (envOf nm sc L fa cd) (.int j tp)); do holding [] (assign (.Name (Str.ofString "ch") p2) (envOf nm sc L fa cd) (.str ⟨#[c]⟩ tc)); pure ()) _ _ _
      refine wpAny_bind (wpAny_holding (wpAny_assign_Name (stSame F₂ (fun h₃ F₃ hs₃ => ?_) hk kpos)))
      replace hs₃ : Heap.SameBut L h₂ h₃ := hs₃
      refine wpAny_bind (wpAny_holding (wpAny_assign_Name (stSame F₃ (fun h₄ F₄ hs₄ => wpAny_pure ?_) hk kch)))
      replace hs₄ : Heap.SameBut L h₃ h₄ := hs₄
      have N₄ := (N₂.set hs₃).set hs₄
      have up₄ : ∀ b o, b ≠ L → h₁.get? b = some o → h₄.get? b = some o := fun b o hb e => hs₄.extBut b o hb (hs₃.extBut b o hb (up₂ b o e))
      have hg₄ : h₄.IsGen ga g := let ⟨o, a, b, ho, r⟩ := hg₁; ⟨o, a, b, up₄ _ _ hgL ho, r⟩
      -- the generator's own objects
      have hlv₄ : ∀ b ∈ C :: wr, ∃ o, h₄.get? b = some o := fun b hb => let ⟨o, ho⟩ := hlv b hb; ⟨o, up₄ b o (by
        rcases List.mem_cons.mp hb with rfl | hb
        · exact hCL
        · rintro rfl; exact hLw hb) ho⟩
      obtain ⟨own, hown, hownk⟩ : ∃ own : List (Addr × Obj), (∀ p ∈ own, h₄.get? p.1 = some p.2 ∧ p.1 ∈ ga :: C :: wr) ∧ ∀ b ∈ ga :: C :: wr, ∀ o, h₄.get? b = some o → (b, o) ∈ own := by
        refine ⟨(ga :: C :: wr).filterMap fun b => (h₄.get? b).map fun o => (b, o), fun p hp => ?_, fun b hb o e => ?_⟩
        · obtain ⟨b, hb, he⟩ := List.mem_filterMap.mp hp
          cases hq : h₄.get? b with
          | none => rw [hq] at he; cases he
          | some o => rw [hq] at he; cases he; exact ⟨hq, hb⟩
        · exact List.mem_filterMap.mpr ⟨b, hb, by rw [e]; rfl⟩
      have ownfacts : ∀ b ∈ ga :: C :: wr, b ≠ L ∧ h₀.get? b = none ∧ ∀ p ∈ news₀, b ≠ p.1 := by
        intro b hb
        rcases List.mem_cons.mp hb with rfl | hb
        · exact ⟨hgL, hg0, fun p hp => Ne.symm (hgn p hp)⟩
        rcases List.mem_cons.mp hb with rfl | hb
        · exact ⟨hCL, hC0, fun p hp => Ne.symm (hCn p hp)⟩
        · exact ⟨fun e => hLw (e ▸ hb), none_ge b (hwrge b hb), fun p hp e => absurd (Heap.lt_size (N p hp).1) (Nat.not_lt.mpr (e ▸ hwrge b hb))⟩
      have hoff : OwnOff own (news₀.map (·.1)) := fun q hq b hb => by
        obtain ⟨p, hp, rfl⟩ := List.mem_map.mp hb
        exact (ownfacts _ (hown q hq).2).2.2 p hp
      have NO : News h₀ L h₄ (news' ++ own) := fun q hq => by
        rcases List.mem_append.mp hq with hq | hq
        · exact N₄ q hq
        · exact ⟨(hown q hq).1, (ownfacts _ (hown q hq).2).1, (ownfacts _ (hown q hq).2).2.1⟩
      refine wpAny_mono (turn j c tp tc m' news' own _ _ hc hJ hadr hoff F₄ NO) (fun f s₂ hf => ?_) fun _ _ e => e
      obtain ⟨rfl, h5, tk5, m5, news5, rfl, F5, N5, hadr5, hJ5⟩ := hf
      have own5 : ∀ b ∈ ga :: C :: wr, ∀ o, h₄.get? b = some o → h5.get? b = some o := fun b hb o e => (N5 (b, o) (List.mem_append.mpr (.inr (hownk b hb o e)))).1
      refine ⟨x.cps.size - (j + 1), by omega, j + 1, hjlt, rfl, h5, tk5, gs', m5, news5, ?_, F5, fun q hq => N5 q (List.mem_append.mpr (.inl hq)), hadr5, hJ5, ?_, ?_, ?_⟩
      · show Shared.mk _ _ _ _ _ = Shared.mk _ _ _ _ _
        congr 1
        show ((s.gens.setIfInBounds g gs).setIfInBounds g .running).setIfInBounds g gs' = _
        simp
      · obtain ⟨o, a, b, ho, r⟩ := hg₄
        exact ⟨o, a, b, own5 _ (List.mem_cons_self ..) _ ho, r⟩
      · intro b hb _
        obtain ⟨o, ho⟩ := hlv₄ b hb
        exact ⟨o, own5 b (List.mem_cons_of_mem _ hb) o ho⟩
      · intro s'' hs''
        have hkeep : ∀ b ∈ C :: wr, ∀ o, h5.get? b = some o → s''.heap.get? b = some o := by
          rcases hs'' with rfl | ⟨_, hk5⟩
          · exact fun b _ o e => e
          · exact hk5
        have := hkap s'' (fun b hb o e => hkeep b hb o (own5 b (List.mem_cons_of_mem _ hb) o (up₄ b o (ownfacts b (List.mem_cons_of_mem _ hb)).1 e)))
        have e1 : x.cps.size - j = (x.cps.size - (j + 1)) + 1 := by omega
        rw [e1] at this
        exact this
    · obtain ⟨hn0, h₂, tk₂, rfl, hk₂⟩ := hP
      have hjn : j = x.cps.size := by omega
      subst hjn
      replace hk₂ : ∀ b o, b ≠ C → b ∉ wr → h'.get? b = some o → h₂.get? b = some o := hk₂
      replace hk₁ : ∀ b o, h₂.get? b = some o → h₁.get? b = some o := hk₁
      have hLw : L ∉ wr := fun hm => absurd hLlt (Nat.not_lt.mpr (hwrge _ hm))
      have adrlt : ∀ p ∈ news', p.1 < s.heap.objs.size ∧ p.1 ≠ C := by
        intro p hp
        have h1 : p.1 ∈ news₀.map (·.1) := hadr ▸ List.mem_map_of_mem hp
        obtain ⟨q, hq, hqe⟩ := List.mem_map.mp h1
        rw [← hqe]
        exact ⟨Heap.lt_size (N q hq).1, hCn q hq⟩
      show wpAny _ _ (execs [] _) _ _ _
      refine wpAny_pure (done m' news' _ hJ ?_ ?_ hadr rfl ?_)
      · obtain ⟨oL, es, ep, hL, r⟩ := F'.ns
        refine ⟨⟨oL, es, ep, hk₁ _ _ (hk₂ L oL (Ne.symm hCL) hLw hL), r⟩, fun b o e => hk₁ _ _ (hk₂ b o ?_ ?_ (F'.keep b o e)), F'.above⟩
        · rintro rfl; rw [e] at hC0; cases hC0
        · intro hm; have := none_ge b (hwrge b hm); rw [e] at this; cases this
      · exact fun p hp => ⟨hk₁ _ _ (hk₂ _ _ (adrlt p hp).2 (fun hm => absurd (adrlt p hp).1 (Nat.not_lt.mpr (hwrge _ hm))) (N' p hp).1), (N' p hp).2⟩
      · show ((s.gens.setIfInBounds g gs).setIfInBounds g .running).setIfInBounds g .finished = _
        simp
  · refine ⟨s.heap, s.toks, gs₀, m₀, news₀, ?_, F, N, rfl, h0, hg, fun _ _ h => absurd h (Nat.lt_irrefl _), fun s'' hs'' => ?_⟩
    · have : s.gens.setIfInBounds g gs₀ = s.gens := by
        apply Array.ext_getElem?
        intro i
        rw [Array.getElem?_setIfInBounds]
        split
        · rename_i e; subst e; split
          · exact hgs.symm
          · rename_i h; exact (Array.getElem?_eq_none (Nat.not_lt.mp h)).symm
        · rfl
      rw [this]
    · rcases hs'' with rfl | ⟨h, _⟩
      · exact hgo
      · exact absurd h (Nat.lt_irrefl _)
end Gen
end
section
/-- a text that the generator walks plainly: ASCII, no backslash -/
def PlainText (x : Str) : Prop := x.cps.all (· < 128) = true ∧ ∀ (i c : Nat), x.cps[i]? = some c → c ≠ 92

abbrev genObj (g : Nat) (n q : Str) (t u : Tok) : Obj := { cls := .type "generator", data := .fields #[.int g 0, .str n t, .str q u] }
section
variable {prog : Program} {w : World} {A : Around} {s : Shared} {K : Frag} {h₀ : Heap} {R : Result → Shared → Prop} {p : Program} {loose : List Str} {mean : ExcName → Option Value} {mg mb : Str → Option Value}
theorem fn_gen {name qual : Str} {params : Arguments} {body : List Stmt} {scope : Scope} {dV kV doc pm cdv ct oc : Value} {an od : Option Addr} {osl : Array (Option Value)} {f : Addr} {args : Args} {binds : List (Str × Value)}
    (X : K.In s.heap) (T : Top p loose mean mg mb s.heap) 
    (ho : K.lookup f = some ⟨oc, od, .func (fnOf name qual params body scope dV kV doc pm an cdv ct), osl⟩) (hcd : codeIn K cdv qual = true) (hroom : A.depth < recursionLimit)
    (hbind : bindArgs (fnOf name qual params body scope dV kV doc pm an cdv ct) args = pure binds) (hloc : ∀ y ∈ binds, scope.names.lookup y.1 = some .local)
    (hco : scope.isCoroutine = false) (hgen : scope.isGenerator = true) (hk : scope.kind = .function)
    (hcell : ∀ x ∈ scope.names, x.2 ≠ .cell)
    (h : ∀ C h₁ (S : Shared) tk gs, C = s.heap.objs.size → Fr s.heap C h₁ (fun y => binds.reverse.lookup y) → h₁.objs.size = C + 1 → S.heap = h₁.push (genObj s.gens.size name qual tk (tk + 1)) → gs = .fresh (.func body (envOf qual scope C f cdv)) → S.gens = s.gens.push gs → S.os = s.os →
      R (.ok (.ret (.ref h₁.objs.size))) S) : codeAny (model prog w) A (.call (.ref f) args) R s := by
  refine codeAny_call_generator (fd := fnOf name qual params body scope dV kV doc pm an cdv ct) (body := body) hroom (X _ _ ho) rfl hco hgen rfl (codeRec_of X hcd) ?_
  rw [hbind]
  refine wpAny_pure (wpAny_newFunctionEnv hcell hloc (fun h₁ hns hsb => ⟨T.nolimit.fresh _ hsb, ?_⟩) hk)
  exact h s.heap.objs.size h₁ _ _ _ rfl ⟨hns, fun b o e => hsb.extBut b o (Nat.ne_of_lt (Heap.lt_size e)) (Heap.get?_push_of_some _ e), Nat.le_refl _⟩ (by rw [hsb.1, Heap.size_push]) rfl rfl rfl rfl
end

theorem gen_call {w : World} {A : Around} {mean mg mb} {s : Shared} {x : Str} {t : Tok} {Q : Value → Shared → Prop} {E : Value → Shared → Prop}
    (G : Gr w mean mg mb s.heap) (hdp : A.depth ≤ 700) (px : PlainText x)
    (h : ∀ (s' : Shared) ga C gs₀, (∀ b o, s.heap.get? b = some o → s'.heap.get? b = some o) → s'.os = s.os → s'.gens = s.gens.push gs₀ → s'.heap.IsGen ga s.gens.size → s.heap.get? C = none → s.heap.get? ga = none → ga ≠ C → (∃ o, s'.heap.get? C = some o) →
      (∀ A' : Around, A'.handled = none → gs₀.Goes (model PySem.Challenge.rw_mr0159_01.row.prog w) A' (escEnd C [s'.heap.objs.size + 1, s'.heap.objs.size]) (escProto x C [s'.heap.objs.size + 1, s'.heap.objs.size]) x.cps.size (.send .none) (s'.setGen s.gens.size .running)) → Q (.ref ga) s') :
    wpAny (model PySem.Challenge.rw_mr0159_01.row.prog w) A (call (.ref 90) [.str x t]) Q E s := by
  obtain ⟨X, T⟩ := G
  revert X; k_fill; intro X
  refine wpAny_call ?_
  refine' fn_gen X T ?k6 ?k7 ?k8 ?k9 ?kB ?c2 ?c3 ?c4 ?c5 ?_
  case k6 => k_is
  case k7 => k_is
  case k8 => exact Nat.lt_of_le_of_lt hdp (by decide)
  case k9 => rfl
  case kB => exact locs rfl
  case c2 => exact rfl
  case c3 => exact rfl
  case c4 => exact rfl
  case c5 => decide
  intro C h₁ S tk gs hC F hz hSh hgs hSg hSo
  have old : ∀ b, s.heap.objs.size ≤ b → s.heap.get? b = none := fun b hb => by
    cases e : s.heap.get? b with
    | none => rfl
    | some o => exact absurd (Heap.lt_size e) (Nat.not_lt.mpr hb)
  have up : ∀ b o, h₁.get? b = some o → S.heap.get? b = some o := fun b o e => by rw [hSh]; exact Heap.get?_push_of_some _ e
  refine h S h₁.objs.size C gs (fun b o e => up b o (F.keep b o e)) hSo hSg ⟨_, _, _, by rw [hSh]; exact Heap.get?_push_size _ rfl, rfl, rfl, rfl⟩ (old C (Nat.le_of_eq hC.symm)) (old _ (by rw [hz, hC]; exact Nat.le_succ _)) (by rw [hz]; exact Nat.succ_ne_self _) ?_ ?_
  · obtain ⟨o, _, _, ho, _⟩ := F.ns
    exact ⟨o, up _ _ ho⟩
  · intro A' hA
    subst hgs
    refine ⟨rfl, ?_⟩
    refine' seg_escStart (s := S.setGen s.gens.size .running) (h₀ := s.heap) (K := hd.heap_39 w.params) (t₀ := t) hA ?F X T ?hen ?hm px.1 px.2 ?i1 ?i2 ?i3 ?i4 ?i5 ?i6 ?i7 ?i8 ?i9
    case F => exact F.keeps up
    case hen => k_is
    case hm => rfl
    case i1 => rfl
    case i2 => rfl
    case i3 => rfl
    case i4 => rfl
    case i5 => rfl
    case i6 => rfl
    case i7 => rfl
    case i8 => rfl
    case i9 => intro y; rfl
end
section
/-- rows for the walk -/
theorem rows_M6_1 : True := by
  w_top off
  k_with_none
  k_with "mine enter" => ( (refine' fn_call (by assumption) (by assumption) ?k6 ?k7 ?k8 ?k9 ?kB ?c2 ?c3 ?c4 ?c5 ?_); (case k6 => k_is); (case k7 => k_is); (case k8 => decide); (case k9 => exact BindsTo.of_eq rfl); (case kB => exact locs rfl); (case c2 => exact rfl); (case c3 => exact rfl); (case c4 => exact rfl); (case c5 => decide))
  trivial
theorem for_esc' {w : World} {A : Around} {nm : Str} {sc : Scope} {L fa : Addr} {cd : Value} {h₀ : Heap} {p : Program} {loose : List Str} {mean : ExcName → Option Value} {mg mb : Str → Option Value} {prog : Program}
    {x : Str} {ga C : Addr} {gs₀ : GenState} {s s' : Shared} {m₀ : Str → Option Value} {news₀ : List (Addr × Obj)} {p1 p2 p3 : Pos} {tk : Nat} {body : List Stmt} {R : Result → Shared → Prop}
    (F : Fr h₀ L s.heap m₀) (N : News h₀ L s.heap news₀)
    (hkp : ∀ b o, s.heap.get? b = some o → s'.heap.get? b = some o) (hos : s'.os = s.os) (hgens : s'.gens = s.gens.push gs₀) (hg : s'.heap.IsGen ga s.gens.size) (hC0 : s.heap.get? C = none) (hga : s.heap.get? ga = none) (hgC : ga ≠ C) (hC : ∃ o, s'.heap.get? C = some o)
    (hgo : ∀ A' : Around, A'.handled = none → gs₀.Goes (model prog w) A' (escEnd C [s'.heap.objs.size + 1, s'.heap.objs.size]) (escProto x C [s'.heap.objs.size + 1, s'.heap.objs.size]) x.cps.size (.send .none) (s'.setGen s.gens.size .running))
    (T : Top p loose mean mg mb h₀) (hh : A.handled = none) (hroom : A.depth < recursionLimit) (hk : sc.kind = .function)
    (kpos : (envOf nm sc L fa cd).kindOf (Str.ofString "pos") = some .local) (kch : (envOf nm sc L fa cd).kindOf (Str.ofString "ch") = some .local)
    (J : Nat → (Str → Option Value) → List (Addr × Obj) → Prop) (h0 : J 0 m₀ news₀)
    (turn : ∀ (j c : Nat) tp tc m' news' own (s₁ : Shared) E', x.cps[j]? = some c → J j m' news' → news'.map (·.1) = news₀.map (·.1) → OwnOff own (news₀.map (·.1)) →
      Fr h₀ L s₁.heap (fun y => if y = Str.ofString "ch" then some (.str ⟨#[c]⟩ tc) else if y = Str.ofString "pos" then some (.int j tp) else m' y) → News h₀ L s₁.heap (news' ++ own) →
      wpAny (model prog w) A (execs body (envOf nm sc L fa cd)) (EscPost h₀ L (news₀.map (·.1)) (J (j + 1)) own s₁) E' s₁)
    (done : ∀ m' news' (s₂ : Shared), J x.cps.size m' news' → Fr h₀ L s₂.heap m' → News h₀ L s₂.heap news' → s₂.os = s.os → (AllBare s.gens → AllBare s₂.gens) → R (.ok .next) s₂) :
    codeAny (model prog w) A (.forLoop (.Tuple [.Name (Str.ofString "pos") p1, .Name (Str.ofString "ch") p2] tk p3) (.ref ga) body [] (envOf nm sc L fa cd)) R s' := by
  have nL : ∀ b, s.heap.get? b = none → b ≠ L := fun b hb e => by
    obtain ⟨oL, _, _, hL, _⟩ := F.ns
    rw [e, hL] at hb; cases hb
  have n0 : ∀ b, s.heap.get? b = none → h₀.get? b = none := fun b hb => by
    cases e : h₀.get? b with
    | none => rfl
    | some o => rw [F.keep _ _ e] at hb; cases hb
  refine for_esc (g := s.gens.size) hh hroom T hk kpos kch (F.keeps hkp) (N.grown hkp) hg (by rw [hgens]; simp) (hgo _ hh) hC (nL C hC0) (n0 C hC0) (news_ne N hC0) (nL ga hga) (n0 ga hga) (news_ne N hga) hgC J h0 turn ?_
  intro m' news' s₂ hJ F₂ N₂ _ hos₂ hgens₂
  refine done m' news' s₂ hJ F₂ N₂ (hos₂.trans hos) fun hb => ?_
  rw [hgens₂, hgens]
  intro y hy
  obtain ⟨i, hi, rfl⟩ := Array.mem_iff_getElem.mp hy
  rw [Array.getElem_setIfInBounds (by simpa using hi)]
  split
  · rfl
  · rename_i hne
    rw [Array.getElem_push]
    split
    · exact hb _ (Array.getElem_mem _)
    · rename_i h1
      simp at hi
      omega

structure StripSt where
  start : Int
  op : Option Int
  res : List Str
def stripStep (x : Str) (st : StripSt) (j c : Nat) : StripSt :=
  if c = 34 then (match st.op with
    | none => { st with op := some (j : Int) }
    | some o => ⟨(j : Int) + 1, none, if st.start = o then st.res else st.res ++ [Txt.slice x (some st.start) (some o)]⟩)
  else st
def stripTo (x : Str) : Nat → StripSt
  | 0 => ⟨0, none, []⟩
  | j + 1 => stripStep x (stripTo x j) j (x.cps[j]?.getD 0)

def opVal : Option Int → Tok → Value
  | none, _ => .none
  | some o, t => .int o t
def cmap (ov sv rv av : Value) (m : Str → Option Value) : Str → Option Value := fun y =>
  if y = Str.ofString "open_pos" then some ov else if y = Str.ofString "start" then some sv else if y = Str.ofString "result" then some rv else if y = Str.ofString "addr" then some av else m y
theorem cmap_self {ov sv rv av : Value} {m : Str → Option Value} (h1 : m (Str.ofString "open_pos") = some ov) (h2 : m (Str.ofString "start") = some sv) (h3 : m (Str.ofString "result") = some rv) (h4 : m (Str.ofString "addr") = some av) :
    ∃ m₁, m = cmap ov sv rv av m₁ := ⟨m, by
  funext y
  unfold cmap
  split
  · rename_i e; rw [e, h1]
  split
  · rename_i e; rw [e, h2]
  split
  · rename_i e; rw [e, h3]
  split
  · rename_i e; rw [e, h4]
  · rfl⟩

def StripJ (x : Str) (t : Tok) (r : Addr) (j : Nat) (m' : Str → Option Value) (news' : List (Addr × Obj)) : Prop :=
  ∃ ts to vs n, m' (Str.ofString "open_pos") = some (opVal (stripTo x j).op to) ∧ m' (Str.ofString "start") = some (.int (stripTo x j).start ts) ∧ m' (Str.ofString "result") = some (.ref r) ∧ m' (Str.ofString "addr") = some (.str x t) ∧
    news' = [(r, W.listOf vs n)] ∧ StrsAre vs.toList (stripTo x j).res ∧ vs.size ≤ j

theorem strs_snoc {vs : List Value} {xs : List Str} {y : Str} {t : Tok} (h : StrsAre vs xs) : StrsAre (vs ++ [.str y t]) (xs ++ [y]) := by
  induction h with
  | nil => exact .cons y t .nil
  | cons z u _ ih => exact .cons z u ih
theorem chr_is {c d : Nat} {y : Str} (hy : y.cps = #[d]) : ((⟨#[c]⟩ : Str) == y) = decide (c = d) := by
  by_cases h : c = d
  · subst h
    have : (⟨#[c]⟩ : Str) = y := by cases y; simp only at hy; rw [hy]
    rw [this]; simp
  · rw [decide_eq_false h]
    apply beq_eq_false_iff_ne.mpr
    intro e
    rw [← e] at hy
    simp at hy
    exact h hy
theorem quote_cps : (Str.ofString "\"").cps = #[34] := by decide +kernel

def stripParts (x : Str) : List Str := (stripTo x x.cps.size).res ++ (if (stripTo x x.cps.size).start < (x.length : Int) then [Txt.slice x (some (stripTo x x.cps.size).start) none] else [])
def stripOut (x : Str) : Str := if (Builtin.Str.occurrences x (Str.ofString "\"") 0 x.length 1).isEmpty then x else Txt.join (Str.ofString "") (stripParts x)
theorem strs_values {vs : List Value} {xs : List Str} (h : StrsAre vs xs) : ∃ l, vs = strValues l ∧ l.map (·.1) = xs := by
  induction h with
  | nil => exact ⟨[], rfl, rfl⟩
  | cons y t _ ih =>
    obtain ⟨l, rfl, rfl⟩ := ih
    exact ⟨(y, t) :: l, rfl, rfl⟩
theorem join_strs {prog : Program} {w : World} {A : Around} {E : Value → Shared → Prop} {s : Shared} {h₀ : Heap} {L r : Addr} {sep : Str} {t : Tok} {vs : Array Value} {n : Nat} {xs : List Str} {Q : Value → Shared → Prop}
    (N : News h₀ L s.heap [(r, W.listOf vs n)]) (hs : StrsAre vs.toList xs) (hok : JoinOk sep xs = true) (hq : ∀ t' k, Q (.str (Txt.join sep xs) t') { s with toks := k }) :
    wpAny (model prog w) A (call (.builtin "str.join") [.str sep t, .ref r]) Q E s := by
  obtain ⟨l, hl, hx⟩ := strs_values hs
  refine SC.join (l := l) ?_ hx hok hq
  have e : vs = (strValues l).toArray := by rw [← hl]
  exact ⟨_, (N _ (.head _)).1, rfl, n, by rw [← e]⟩

theorem strip_call {w : World} {A : Around} {mean mg mb} {s : Shared} {x : Str} {t : Tok} {Q : Value → Shared → Prop} {E : Value → Shared → Prop}
    (px : PlainText x) (hz : x.length < 1000) (hj : JoinOk (Str.ofString "") (stripParts x) = true) (G : Gr w mean mg mb s.heap) (hh : A.handled = none) (hd : A.depth ≤ 690) (hu : A.units ≤ 800)
    (h : ∀ s' t', Kept s s' → Q (.str (stripOut x) t') s') :
    wpAny (model PySem.Challenge.rw_mr0159_01.row.prog w) A (call (.ref 97) [.str x t]) Q E s := by
  refine lower hh hd hu ?_
  clear hh hd hu A
  obtain ⟨X, T⟩ := G
  revert X; k_fill; intro X
  refine wpAny_call ?_
  walk_at "mine enter"
  intro L h₁ hL F N
  try dsimp only
  try k_fold
  k_steps
  · rename Fr _ _ _ _ => F
    rename List.isEmpty _ = true => e
    show Q (.str x t) _
    exact retS (h _ _ (Kept.of F.keep)) (by unfold stripOut; rw [if_pos e])
  · refine wpAny_For ?_
    k_steps
    rename Fr _ _ _ _ => F
    rename News _ _ _ _ => N
    refine gen_call (Gr.fr X T F) (Nat.le_of_ble_eq_true rfl) px ?_
    intro s' ga C gs₀ hkp hos hgens hgen hC hga hne hCx hgo
    refine wpAny_pyIter_gen hgen ?_
    refine for_esc' F N hkp hos hgens hgen hC hga hne hCx hgo T rfl (Nat.le_of_ble_eq_true rfl) rfl rfl rfl (StripJ x t _) ⟨_, 0, _, _, rfl, rfl, rfl, rfl, rfl, StrsAre.nil, Nat.le_refl _⟩ ?_ ?_
    · clear F N hkp hos hgens hgen hC hga hne hCx hgo
      rintro j c tp tc m' news' own s₁ E' hc ⟨ts, to, vs, n, h1, h2, h3, h4, rfl, h5, h6⟩ hadr hoff F N
      obtain ⟨m₁, rfl⟩ := cmap_self h1 h2 h3 h4
      clear h1 h2 h3 h4 hadr
      simp only [List.cons_append, List.nil_append, List.map_cons, List.map_nil] at N hoff
      have hjx : j < x.cps.size := by
        rcases Nat.lt_or_ge j x.cps.size with h | h
        · exact h
        · rw [Array.getElem?_eq_none h] at hc; cases hc
      have hvz : vs.size ≤ sizeLine := by
        have : x.length = x.cps.size := rfl
        rw [sizeLine_eq]; omega
      have hs : stripTo x (j + 1) = stripStep x (stripTo x j) j c := by simp [stripTo, hc]
      unfold stripStep at hs
      cases hop : (stripTo x j).op with
      | none =>
        simp only [hop, opVal] at F hs
        k_steps
        · rename Fr _ _ _ _ => F
          rename News _ _ _ _ => N
          rename (_ == _) = true => e
          rw [chr_is quote_cps, decide_eq_true_eq] at e
          rw [if_pos e] at hs
          refine ⟨rfl, _, _, _, [(_, _)], rfl, F, N, rfl, ?_⟩
          unfold StripJ
          rw [hs]
          exact ⟨_, tp, vs, n, rfl, rfl, rfl, rfl, rfl, h5, Nat.le_succ_of_le h6⟩
        · rename Fr _ _ _ _ => F
          rename News _ _ _ _ => N
          rename (_ == _) = false => e
          rw [chr_is quote_cps, decide_eq_false_iff_not] at e
          rw [if_neg e] at hs
          refine ⟨rfl, _, _, _, [(_, _)], rfl, F, N, rfl, ?_⟩
          unfold StripJ
          rw [hs, hop]
          exact ⟨_, to, vs, n, rfl, rfl, rfl, rfl, rfl, h5, Nat.le_succ_of_le h6⟩
      | some o =>
        simp only [hop, opVal] at F hs
        k_steps
        · rename Fr _ _ _ _ => F
          rename News _ _ _ _ => N
          rename (_ == _) = true => e
          rw [chr_is quote_cps, decide_eq_true_eq] at e
          rename (stripTo x j).start ≠ o => e2
          rw [if_pos e, if_neg e2] at hs
          refine ⟨rfl, _, _, _, [(_, _)], rfl, F, N, rfl, ?_⟩
          unfold StripJ
          rw [hs]
          refine ⟨_, 0, _, _, rfl, rfl, rfl, rfl, rfl, ?_, ?_⟩
          · rw [Array.toList_push]; exact strs_snoc h5
          · rw [Array.size_push]; omega
        · rename Fr _ _ _ _ => F
          rename News _ _ _ _ => N
          rename (_ == _) = true => e
          rw [chr_is quote_cps, decide_eq_true_eq] at e
          rename (stripTo x j).start = o => e2
          rw [if_pos e, if_pos e2] at hs
          refine ⟨rfl, _, _, _, [(_, _)], rfl, F, N, rfl, ?_⟩
          unfold StripJ
          rw [hs]
          exact ⟨_, 0, vs, n, rfl, rfl, rfl, rfl, rfl, h5, Nat.le_succ_of_le h6⟩
        · rename Fr _ _ _ _ => F
          rename News _ _ _ _ => N
          rename (_ == _) = false => e
          rw [chr_is quote_cps, decide_eq_false_iff_not] at e
          rw [if_neg e] at hs
          refine ⟨rfl, _, _, _, [(_, _)], rfl, F, N, rfl, ?_⟩
          unfold StripJ
          rw [hs, hop]
          exact ⟨_, to, vs, n, rfl, rfl, rfl, rfl, rfl, h5, Nat.le_succ_of_le h6⟩
    · clear F N
      rintro m' news' s₂ ⟨ts, to, vs, n, h1, h2, h3, h4, rfl, h5, h6⟩ F N hos₂ hb₂
      obtain ⟨m₁, rfl⟩ := cmap_self h1 h2 h3 h4
      clear h1 h2 h3 h4
      have hvz : vs.size ≤ sizeLine := by
        have : x.length = x.cps.size := rfl
        rw [sizeLine_eq]; omega
      rename List.isEmpty _ = false => hocc
      dsimp only
      k_steps
      · rename Fr _ _ _ _ => F
        rename News _ _ _ _ => N
        rename (_ : Int) < _ => e
        refine join_strs N (by rw [Array.toList_push]; exact strs_snoc h5) (by unfold stripParts at hj; rw [if_pos e] at hj; exact hj) fun t' k => ?_
        show Q (.str _ _) _
        exact retS (h _ _ ⟨F.keep, hos₂, hb₂⟩) (by unfold stripOut stripParts; rw [if_neg (by rw [hocc]; decide), if_pos e])
      · rename ¬ (_ : Int) < _ => e
        refine join_strs N h5 (by unfold stripParts at hj; rw [if_neg e, List.append_nil] at hj; exact hj) fun t' k => ?_
        show Q (.str _ _) _
        exact retS (h _ _ ⟨F.keep, hos₂, hb₂⟩) (by unfold stripOut stripParts; rw [if_neg (by rw [hocc]; decide), if_neg e, List.append_nil])
end
section
/-- rows for the walk -/
theorem rows_M7_1 : True := by
  w_top off
  k_with_none
  k_with "mine enter" => ( (refine' fn_call (by assumption) (by assumption) ?k6 ?k7 ?k8 ?k9 ?kB ?c2 ?c3 ?c4 ?c5 ?_); (case k6 => k_is); (case k7 => k_is); (case k8 => decide); (case k9 => exact BindsTo.of_eq rfl); (case kB => exact locs rfl); (case c2 => exact rfl); (case c3 => exact rfl); (case c4 => exact rfl); (case c5 => decide))
  trivial
def opensTo (y : Str) : Nat → Int
  | 0 => 0
  | j + 1 => opensTo y j + (if (y.cps[j]?.getD 0) = 40 then 1 else 0)
def omap (ov av : Value) (m : Str → Option Value) : Str → Option Value := fun y =>
  if y = Str.ofString "opens" then some ov else if y = Str.ofString "addr" then some av else m y
theorem omap_self {ov av : Value} {m : Str → Option Value} (h1 : m (Str.ofString "opens") = some ov) (h2 : m (Str.ofString "addr") = some av) : ∃ m₁, m = omap ov av m₁ := ⟨m, by
  funext y
  unfold omap
  split
  · rename_i e; rw [e, h1]
  split
  · rename_i e; rw [e, h2]
  · rfl⟩
def OpensJ (y : Str) (ty : Tok) (j : Nat) (m' : Str → Option Value) (news' : List (Addr × Obj)) : Prop :=
  ∃ to, m' (Str.ofString "opens") = some (.int (opensTo y j) to) ∧ m' (Str.ofString "addr") = some (.str y ty) ∧ news' = []
theorem paren_cps : (Str.ofString "(").cps = #[40] := by decide +kernel
theorem thesis_cps : (Str.ofString ")").cps = #[41] := by decide +kernel

theorem check_call {w : World} {A : Around} {mean mg mb} {s : Shared} {x y : Str} {t : Tok} {Q : Value → Shared → Prop} {E : Value → Shared → Prop}
    (px : PlainText x) (hz : x.length < 1000) (hj : JoinOk (Str.ofString "") (stripParts x) = true) (hy : stripOut x = y) (py : PlainText y) (hy2 : ∀ (i c : Nat), y.cps[i]? = some c → c ≠ 41)
    (G : Gr w mean mg mb s.heap) (hh : A.handled = none) (hd : A.depth ≤ 680) (hu : A.units ≤ 700)
    (h : ∀ s', Kept s s' → Q (.bool (opensTo y y.cps.size == 0)) s') :
    wpAny (model PySem.Challenge.rw_mr0159_01.row.prog w) A (call (.ref 104) [.str x t]) Q E s := by
  refine lower hh hd hu ?_
  clear hh hd hu A
  obtain ⟨X, T⟩ := G
  revert X; k_fill; intro X
  refine wpAny_call ?_
  walk_at "mine enter"
  intro L h₁ hL F N
  try dsimp only
  try k_fold
  k_steps
  refine strip_call px hz hj (Gr.fr X T F) rfl (Nat.le_of_ble_eq_true rfl) (Nat.le_of_ble_eq_true rfl) ?_
  intro s1 t1 k1
  rw [hy]
  have F1 := F.keeps k1.heap
  have N1 := N.grown k1.heap
  clear F N
  k_steps
  refine wpAny_For ?_
  k_steps
  rename Fr _ _ _ _ => F
  rename News _ _ _ _ => N
  refine gen_call (Gr.fr X T F) (Nat.le_of_ble_eq_true rfl) py ?_
  intro s' ga C gs₀ hkp hos hgens hgen hC hga hne hCx hgo
  refine wpAny_pyIter_gen hgen ?_
  refine for_esc' F N hkp hos hgens hgen hC hga hne hCx hgo T rfl (Nat.le_of_ble_eq_true rfl) rfl rfl rfl (OpensJ y t1) ⟨_, rfl, rfl, rfl⟩ ?_ ?_
  · clear F N hkp hos hgens hgen hC hga hne hCx hgo
    rintro j c tp tc m' news' own s₁ E' hc ⟨to, h1, h2, rfl⟩ hadr hoff F N
    obtain ⟨m₁, rfl⟩ := omap_self h1 h2
    clear h1 h2 hadr hoff
    simp only [List.nil_append] at N
    have hne41 := hy2 j c hc
    have hs : opensTo y (j + 1) = opensTo y j + (if c = 40 then 1 else 0) := by simp [opensTo, hc]
    k_steps
    · rename Fr _ _ _ _ => F
      rename News _ _ _ _ => N
      rename (_ == _) = true => e
      rw [chr_is paren_cps, decide_eq_true_eq] at e
      rw [if_pos e] at hs
      refine ⟨rfl, _, _, _, [], rfl, F, N, rfl, ?_⟩
      unfold OpensJ
      rw [hs]
      exact ⟨_, rfl, rfl, rfl⟩
    · rename (_ == Str.ofString ")") = true => e
      rw [chr_is thesis_cps, decide_eq_true_eq] at e
      exact absurd e hne41
    · rename (_ == Str.ofString ")") = true => e
      rw [chr_is thesis_cps, decide_eq_true_eq] at e
      exact absurd e hne41
    · rename (_ == Str.ofString "(") = false => e
      rw [chr_is paren_cps, decide_eq_false_iff_not] at e
      rw [if_neg e, Int.add_zero] at hs
      refine ⟨rfl, _, _, _, [], rfl, F, N, rfl, ?_⟩
      unfold OpensJ
      rw [hs]
      exact ⟨_, rfl, rfl, rfl⟩
  · clear F N
    rintro m' news' s₂ ⟨to, h1, h2, rfl⟩ F N hos₂ hb₂
    obtain ⟨m₁, rfl⟩ := omap_self h1 h2
    clear h1 h2
    dsimp only
    k_steps
    show Q (.bool _) _
    exact h _ ⟨F.keep, hos₂.trans k1.os, fun g => hb₂ (k1.gens g)⟩
end
section
section
variable {prog : Program} {w : World} {A : Around} {E : Value → Shared → Prop} {R : Result → Shared → Prop} {s : Shared}

abbrev testsOf (ifs : List Expr) (env : Env) : Sem Bool := forIn ifs true fun c r => if r = true then do let ok ← isTrue c env (eval c env); pure (ForInStep.yield ok) else pure (ForInStep.yield r)

theorem compLoop_any {elt target iter : Expr} {ifs : List Expr} {scope : Scope} {pos : Pos} {it acc : Value} {env : Env} (I : Nat → Shared → Prop)
    (turn : ∀ n s, I n s → ∀ E', wpAny (model prog w) A (pyNext it) (fun r s₁ => match r with
      | none => R (.ok .next) s₁
      | some v => wpAny (model prog w) A (letOwnedTupleGo target it v) (fun _ s₁' => wpAny (model prog w) A (assign target env v) (fun _ s₂ =>
          wpAny (model prog w) A (testsOf ifs env) (fun ok s₃ =>
            if ok = true then wpAny (model prog w) A (eval elt env) (fun x s₄ =>
              wpAny (model prog w) A (call (.builtin "list.append") [acc, x]) (fun _ s₅ => ∃ m, m < n ∧ I m s₅) E' s₄) E' s₃
            else ∃ m, m < n ∧ I m s₃) E' s₂) E' s₁') E' s₁) E' s)
    (n : Nat) (h : I n s) :
    codeAny (model prog w) A (.compLoop (.ListComp elt [⟨target, iter, ifs, 0⟩] scope pos) 0 it acc env) R s := by
  refine codeAny_loop rfl I (fun n s hI => ?_) n h
  show wpAny _ A ((compTurn (.ListComp elt [⟨target, iter, ifs, 0⟩] scope pos) 0 it acc env).onRaise (fun x => do noteFrame x env; theTreesLotGoes x)) _ _ s
  refine wpAny_noted ?_
  rw [compTurn_list]
  refine wpAny_bind (wpAny_standAt (wpAny_bind (wpAny_mono (turn n s hI _) (fun r s₁ h₁ => ?_) fun _ _ h' => h')))
  cases r with
  | none => exact wpAny_pure h₁
  | some v =>
    refine wpAny_bind (wpAny_mono h₁ (fun _ s₁' h₁' => ?_) fun _ _ h' => h')
    refine wpAny_bind (wpAny_mono h₁' (fun _ s₂ h₂ => wpAny_bind (wpAny_mono h₂ (fun ok s₃ h₃ => ?_) fun _ _ h' => h')) fun _ _ h' => h')
    cases ok with
    | false => exact wpAny_pure ⟨rfl, h₃⟩
    | true =>
      exact wpAny_bind (wpAny_bind (wpAny_mono h₃ (fun x s₄ h₄ => wpAny_bind (wpAny_mono h₄ (fun _ s₅ h₅ => wpAny_pure (wpAny_pure ⟨rfl, h₅⟩)) fun _ _ h' => h')) fun _ _ h' => h'))
end

/-- what an element's turn leaves: the block's frame, all but wr, the invariant -/
def CompStep (C : Addr) (wr : List Addr) (J' : List Value → Shared → Prop) (ys : List Value) (s₃ : Shared) (y : Option Value) (s₄ : Shared) : Prop :=
  (∃ m', s₄.heap.Ns C m') ∧ (∀ b o, b < C → b ∉ wr → s₃.heap.get? b = some o → s₄.heap.get? b = some o) ∧ J' (ys ++ y.toList) s₄

section
variable {prog : Program} {w : World} {A : Around} {E : Value → Shared → Prop} {env : Env}
theorem comp_block {elt target iter : Expr} {ifs : List Expr} {scope : Scope} {cl : List (Str × Addr)} {pos : Pos} {s₂ : Shared} {I : Addr} {fp wr : List Addr} {n : Nat} {P : Nat → Value → Prop}
    {St : Nat → Heap → Prop} {RR : Value → Addr → Result → Shared → Prop}
    (WK : Walks prog w A I fp [I] n P St) (hsz : n ≤ sizeLine) (hcell : ∀ y ∈ scope.names, y.2 ≠ .cell) (hkind : scope.kind = .function) (hst : St 0 s₂.heap) (hfp : ∀ b ∈ fp, b < s₂.heap.objs.size) (hI : I < s₂.heap.objs.size)
    (hwf : ∀ b ∈ wr, b ∉ fp) (hwr : ∀ b ∈ wr, b < s₂.heap.objs.size)
    (J : Nat → List Value → Shared → Prop) (h0 : J 0 [] s₂)
    (hJ : ∀ i ys (s s' : Shared), J i ys s → (∀ b o, b < s₂.heap.objs.size → b ≠ I → s.heap.get? b = some o → s'.heap.get? b = some o) → s'.os = s.os → s'.gens = s.gens → J i ys s')
    (turn : ∀ i v ys C (s₃ : Shared) m₃ E', i < n → P i v → J i ys s₃ → s₂.heap.objs.size ≤ C → s₃.heap.Ns C m₃ → (∀ b o, b ∉ I :: wr → s₂.heap.get? b = some o → s₃.heap.get? b = some o) → St (i + 1) s₃.heap →
      wpAny (model prog w) A (letOwnedTupleGo target (.ref I) v) (fun _ s₃' => wpAny (model prog w) A (assign target (compEnvC scope cl C env) v) (fun _ s₄ => wpAny (model prog w) A (testsOf ifs (compEnvC scope cl C env)) (fun ok s₅ =>
        if ok = true then wpAny (model prog w) A (eval elt (compEnvC scope cl C env)) (fun y s₆ => CompStep C wr (J (i + 1)) ys s₃ (some y) s₆) E' s₅
        else CompStep C wr (J (i + 1)) ys s₃ none s₅) E' s₄) E' s₃') E' s₃)
    (done : ∀ D C (s' : Shared) m' ys k, J n ys s' → s₂.heap.objs.size ≤ D → s₂.heap.objs.size ≤ C → D ≠ C → s'.heap.Ns C m' → s'.heap.get? D = some (W.listOf ys.toArray k) →
      (∀ b o, b ∉ I :: wr → s₂.heap.get? b = some o → s'.heap.get? b = some o) → RR (.ref D) C (.ok .next) s') :
    wpAny (model prog w) A (newList []) (fun acc s₃ => wpAny (model prog w) A (newFunctionEnv scope env.globals cl [] env.qual none .none (some env)) (fun cenv s₄ =>
      codeAny (model prog w) A (.compStart (.ListComp elt [⟨target, iter, ifs, 0⟩] scope pos) 0 (.ref I) acc { cenv with scope := relabel scope env }) (RR acc cenv.locals) s₄) E s₃) E s₂ := by
  refine wpAny_newObj_type (wpAny_newFunctionEnv hcell (by intro y hy; simp at hy) (fun h₁ hns₁ hsb₁ => ?_) hkind)
  dsimp only at hns₁ hsb₁ ⊢
  generalize hH2 : s₂.heap.push { cls := .type "list", dict := none, data := .seq ([] : List Value).toArray } = H2 at hns₁ hsb₁ ⊢
  have hC : H2.objs.size = s₂.heap.objs.size + 1 := by rw [← hH2, Heap.size_push]
  have hDC : s₂.heap.objs.size ≠ H2.objs.size := by rw [hC]; exact Nat.ne_of_lt (Nat.lt_succ_self _)
  have hCle : s₂.heap.objs.size ≤ H2.objs.size := by rw [hC]; exact Nat.le_succ _
  have below : ∀ b, b < s₂.heap.objs.size → b ≠ H2.objs.size ∧ b ≠ s₂.heap.objs.size := fun b hb => ⟨by rw [hC]; exact Nat.ne_of_lt (Nat.lt_succ_of_lt hb), Nat.ne_of_lt hb⟩
  have belowC : ∀ b, b < s₂.heap.objs.size → b < H2.objs.size := fun b hb => by rw [hC]; exact Nat.lt_succ_of_lt hb
  have hDlt : s₂.heap.objs.size < H2.objs.size := by rw [hC]; exact Nat.lt_succ_self _
  have old : ∀ b o, s₂.heap.get? b = some o → h₁.get? b = some o := fun b o e => hsb₁.extBut b o (below b (Heap.lt_size e)).1 (Heap.get?_push_of_some _ (hH2 ▸ Heap.get?_push_of_some _ e))
  have hacc : h₁.get? s₂.heap.objs.size = some (W.listOf #[] 0) := hsb₁.extBut _ _ hDC (Heap.get?_push_of_some _ (hH2 ▸ Heap.get?_push_size _ rfl))
  have hst₁ : St 0 h₁ := WK.frame _ _ _ hst fun b _ o e => old b o e
  generalize hCC : H2.objs.size = C at *
  generalize hDD : s₂.heap.objs.size = D at *
  have hCI : C ≠ I := fun e => absurd hI (e ▸ Nat.not_lt.mpr hCle)
  have hDI : D ≠ I := fun e => absurd hI (e ▸ Nat.lt_irrefl _)
  have hDw : D ∉ wr := fun hm => Nat.lt_irrefl _ (hwr _ hm)
  have loop : ∀ s₃ : Shared, s₃ = { s₂ with heap := h₁, toks := s₂.toks + ([] : List (Str × Value)).length } →
      codeAny (model prog w) A (.compLoop (.ListComp elt [⟨target, iter, ifs, 0⟩] scope pos) 0 (.ref I) (.ref D) (compEnvC scope cl C env))
        (RR (.ref D) C) s₃ := by
    rintro s₃ rfl
    refine compLoop_any (fun k s' => ∃ i ys kk m', i ≤ n ∧ k = n - i ∧ ys.length ≤ i ∧ J i ys s' ∧ s'.heap.Ns C m' ∧ s'.heap.get? D = some (W.listOf ys.toArray kk) ∧ St i s'.heap ∧
      (∀ b o, b ∉ I :: wr → s₂.heap.get? b = some o → s'.heap.get? b = some o)) ?_ n
      ⟨0, [], 0, _, Nat.zero_le _, (Nat.sub_zero _).symm, Nat.le_refl _, hJ 0 [] s₂ _ h0 (fun b o _ _ e => old b o e) rfl rfl, hns₁, hacc, hst₁, fun b o _ e => old b o e⟩
    rintro k s' ⟨i, ys, kk, m', hi, rfl, hys, hJi, hn, hD, hsti, hk⟩ E'
    rcases Nat.lt_or_ge i n with hlt | hge
    · refine WK.item i s' _ _ hlt hsti fun v h₂ tk₂ hP hst₂ hk₂ => ?_
      have hk₂' : ∀ b o, b ≠ I → s'.heap.get? b = some o → h₂.get? b = some o := fun b o hb e => hk₂ b o (fun hm => hb (List.mem_singleton.mp hm)) e
      refine wpAny_mono (turn i v ys C { s' with heap := h₂, toks := tk₂ } m' E' hlt hP (hJ i ys s' _ hJi (fun b o _ hb e => hk₂' b o hb e) rfl rfl) hCle (hn.at' fun o e => hk₂' _ o hCI e)
        (fun b o hb e => hk₂' b o (fun h => hb (h ▸ List.mem_cons_self ..)) (hk b o hb e)) hst₂) (fun _ s₃' h₃ => wpAny_mono h₃ (fun _ s₄ h₄ => wpAny_mono h₄ (fun ok s₅ h₅ => ?_) fun _ _ e => e) fun _ _ e => e) fun _ _ e => e
      cases ok with
      | false =>
        simp only [Bool.false_eq_true, if_false] at h₅ ⊢
        obtain ⟨⟨m₅, hn₅⟩, hk₅, hJ₅⟩ := h₅
        refine ⟨n - (i + 1), by omega, i + 1, ys, kk, m₅, hlt, rfl, Nat.le_succ_of_le hys, by simpa using hJ₅, hn₅, hk₅ _ _ hDlt hDw (hk₂' _ _ hDI hD), ?_, ?_⟩
        · exact WK.frame _ _ _ hst₂ fun b hb o e => hk₅ b o (belowC b (hfp b hb)) (fun hm => hwf b hm hb) e
        · exact fun b o hb e => hk₅ b o (belowC b (by rw [← hDD]; exact Heap.lt_size e)) (fun hm => hb (List.mem_cons_of_mem _ hm)) (hk₂' b o (fun h => hb (h ▸ List.mem_cons_self ..)) (hk b o hb e))
      | true =>
        simp only [if_true] at h₅ ⊢
        refine wpAny_mono h₅ (fun y s₆ h₆ => ?_) fun _ _ e => e
        obtain ⟨⟨m₆, hn₆⟩, hk₆, hJ₆⟩ := h₆
        have hD₆ : s₆.heap.PlainList D ys.toArray := ⟨kk, hk₆ _ _ hDlt hDw (hk₂' _ _ hDI hD)⟩
        refine wpAny_list_append_plain hD₆ (fun h₇ hp₇ hs₇ => ?_) (by rw [List.size_toArray]; omega)
        obtain ⟨kk', hp₇⟩ := hp₇
        refine ⟨n - (i + 1), by omega, i + 1, ys ++ [y], kk', m₆, hlt, rfl, by simp; omega, ?_, hn₆.sameBut hs₇ (Ne.symm hDC), ?_, ?_, ?_⟩
        · exact hJ _ _ s₆ _ (by simpa using hJ₆) (fun b o hb _ e => hs₇.extBut b o (Nat.ne_of_lt hb) e) rfl rfl
        · rw [← List.push_toArray]; exact hp₇
        · exact WK.frame _ _ _ hst₂ fun b hb o e => hs₇.extBut b o (below b (hfp b hb)).2 (hk₆ b o (belowC b (hfp b hb)) (fun hm => hwf b hm hb) e)
        · exact fun b o hb e => hs₇.extBut b o (below b (by rw [← hDD]; exact Heap.lt_size e)).2 (hk₆ b o (belowC b (by rw [← hDD]; exact Heap.lt_size e)) (fun hm => hb (List.mem_cons_of_mem _ hm)) (hk₂' b o (fun h => hb (h ▸ List.mem_cons_self ..)) (hk b o hb e)))
    · have hin : i = n := Nat.le_antisymm hi hge
      subst hin
      refine WK.done s' _ _ hsti fun h₂ tk₂ hk₂ => ?_
      have hk₂' : ∀ b o, b ≠ I → s'.heap.get? b = some o → h₂.get? b = some o := fun b o hb e => hk₂ b o (fun hm => hb (List.mem_singleton.mp hm)) e
      exact done D C _ m' ys kk (hJ _ _ s' _ hJi (fun b o _ hb e => hk₂' b o hb e) rfl rfl) (Nat.le_refl _) hCle hDC (hn.at' fun o e => hk₂' _ o hCI e) (hk₂' _ _ hDI hD)
        (fun b o hb e => hk₂' b o (fun h => hb (h ▸ List.mem_cons_self ..)) (hk b o hb e))
  have := codeAny_compStart_list (loop _ rfl) (WK.self 0 _ _ _ hst₁ (loop _ rfl))
  exact this

/-- a list comprehension over a list that stands -/
theorem comp_list {elt target iter : Expr} {ifs : List Expr} {scope : Scope} {cl : List (Str × Addr)} {pos : Pos} {s₁ : Shared} {l : Addr} {items : List Value} {wr : List Addr} {Q : Value → Shared → Prop}
    (hh : A.handled = none) (hl : s₁.heap.IsList l items.toArray) (hsz : items.length ≤ sizeLine) (hcell : ∀ y ∈ scope.names, y.2 ≠ .cell) (hkind : scope.kind = .function) (hwr : ∀ b ∈ wr, b < s₁.heap.objs.size ∧ b ≠ l)
    (J : Nat → List Value → Shared → Prop) (h0 : J 0 [] s₁)
    (hJ : ∀ i ys (s s' : Shared), J i ys s → (∀ b o, b < s₁.heap.objs.size → s.heap.get? b = some o → s'.heap.get? b = some o) → s'.os = s.os → s'.gens = s.gens → J i ys s')
    (turn : ∀ (i : Nat) v ys I C (s₃ : Shared) m₃ E', items[i]? = some v → J i ys s₃ → s₁.heap.objs.size < C → s₃.heap.Ns C m₃ → (∀ b o, b ∉ wr → s₁.heap.get? b = some o → s₃.heap.get? b = some o) → s₃.heap.IsListIter I l (i + 1) →
      wpAny (model prog w) A (letOwnedTupleGo target (.ref I) v) (fun _ s₃' => wpAny (model prog w) A (assign target (compEnvC scope cl C env) v) (fun _ s₄ => wpAny (model prog w) A (testsOf ifs (compEnvC scope cl C env)) (fun ok s₅ =>
        if ok = true then wpAny (model prog w) A (eval elt (compEnvC scope cl C env)) (fun y s₆ => CompStep C wr (J (i + 1)) ys s₃ (some y) s₆) E' s₅
        else CompStep C wr (J (i + 1)) ys s₃ none s₅) E' s₄) E' s₃') E' s₃)
    (done : ∀ D (s' : Shared) ys k, J items.length ys s' → s₁.heap.get? D = none → s'.heap.get? D = some (W.listOf ys.toArray k) → (∀ b o, b ∉ wr → s₁.heap.get? b = some o → s'.heap.get? b = some o) → Q (.ref D) s') :
    wpAny (model prog w) A (pyIter (.ref l)) (fun it s₂ => wpAny (model prog w) A (newList []) (fun acc s₃ => wpAny (model prog w) A (newFunctionEnv scope env.globals cl [] env.qual none .none (some env)) (fun cenv s₄ =>
      codeAny (model prog w) A (.compStart (.ListComp elt [⟨target, iter, ifs, 0⟩] scope pos) 0 it acc { cenv with scope := relabel scope env }) (compPost (model prog w) A E none Q acc cenv.locals) s₄) E s₃) E s₂) E s₁ := by
  obtain ⟨ol, hol, _⟩ := id hl
  have hlt : l < s₁.heap.objs.size := Heap.lt_size hol
  have hne : l ≠ s₁.heap.objs.size := Nat.ne_of_lt hlt
  refine wpAny_pyIter_list hl ?_
  have WK := Walks.list (prog := prog) (w := w) (A := A) hh s₁.heap.objs.size l hne items.toArray
  have hz : (s₁.heap.push { cls := .type "list_iterator", data := .fields #[.ref l, .int 0 0] }).objs.size = s₁.heap.objs.size + 1 := Heap.size_push ..
  have up : ∀ b o, s₁.heap.get? b = some o → (s₁.heap.push { cls := .type "list_iterator", data := .fields #[.ref l, .int 0 0] }).get? b = some o := fun b o e => Heap.get?_push_of_some _ e
  have fresh : ∀ a, s₁.heap.objs.size ≤ a → s₁.heap.get? a = none := fun a ha => by
    cases e : s₁.heap.get? a with
    | none => rfl
    | some o' => exact absurd (Heap.lt_size e) (Nat.not_lt.mpr ha)
  refine comp_block (wr := wr) WK (by simpa using hsz) hcell hkind ⟨⟨_, Heap.get?_push_size _ rfl, rfl, rfl⟩, hl.at fun o e => up _ _ e⟩ ?_ (by dsimp only; rw [hz]; exact Nat.lt_succ_self _) ?_ ?_ J ?_ ?_ ?_ ?_
  · intro b hb
    dsimp only; rw [hz]
    rcases List.mem_cons.mp hb with rfl | hb
    · exact Nat.lt_succ_self _
    · rw [List.mem_singleton.mp hb]; exact Nat.lt_succ_of_lt hlt
  · intro b hb hm
    rcases List.mem_cons.mp hm with rfl | hm
    · exact Nat.lt_irrefl _ (hwr _ hb).1
    · exact (hwr _ hb).2 (List.mem_singleton.mp hm)
  · intro b hb
    dsimp only; rw [hz]; exact Nat.lt_succ_of_lt (hwr b hb).1
  · exact hJ 0 [] s₁ _ h0 (fun b o _ e => up b o e) rfl rfl
  · intro i ys s s' hj hk ho hg
    refine hJ i ys s s' hj (fun b o hb e => hk b o ?_ (Nat.ne_of_lt hb) e) ho hg
    dsimp only; rw [hz]; exact Nat.lt_succ_of_lt hb
  · intro i v ys C s₃ m₃ E' hi hP hj hC hn hk hst
    dsimp only at hC
    rw [hz] at hC
    refine turn i v ys _ C s₃ m₃ E' (by simpa using hP) hj hC hn (fun b o hb e => hk b o (fun hm => ?_) (up b o e)) hst.1
    rcases List.mem_cons.mp hm with rfl | hm
    · exact absurd (Heap.lt_size e) (Nat.lt_irrefl _)
    · exact hb hm
  · intro D C s' m' ys k hj hD hC hDC hn hd hk
    dsimp only at hD hC
    rw [hz] at hD hC
    refine ⟨m', hn, fun h' hs' => ?_⟩
    have hlen : items.toArray.size = items.length := by simp
    rw [hlen] at hj
    refine done D _ ys k (hJ _ _ s' _ hj (fun b o hb e => hs'.extBut b o (Nat.ne_of_lt (Nat.lt_trans hb hC)) e) rfl rfl) (fresh D (Nat.le_of_lt hD)) (hs'.extBut _ _ hDC hd) fun b o hb e => ?_
    have hb' : b < s₁.heap.objs.size := Heap.lt_size e
    refine hs'.extBut b o (Nat.ne_of_lt (Nat.lt_trans hb' hC)) (hk b o (fun hm => ?_) (up b o e))
    rcases List.mem_cons.mp hm with rfl | hm
    · exact Nat.lt_irrefl _ hb'
    · exact hb hm
end
end
section
/-- what a turn of a for over a list leaves -/
def ForPost (h₀ : Heap) (L : Addr) (adr : List Addr) (J' : (Str → Option Value) → List (Addr × Obj) → Prop) (own : List (Addr × Obj)) (s₁ : Shared) (RR : Value → Shared → Prop) (f : Flow) (s₂ : Shared) : Prop :=
  match f with
  | .ret v => RR v s₂
  | .brk => False
  | _ => s₂.os = s₁.os ∧ (AllBare s₁.gens → AllBare s₂.gens) ∧ ∃ m2 news2, Fr h₀ L s₂.heap m2 ∧ News h₀ L s₂.heap (news2 ++ own) ∧ news2.map (·.1) = adr ∧ J' m2 news2

section
variable {prog : Program} {w : World} {A : Around} {E : Value → Shared → Prop} {R : Result → Shared → Prop} {s : Shared}
theorem for_list {nm x : Str} {sc : Scope} {L fa : Addr} {cd : Value} {h₀ : Heap} {l : Addr} {items : List Value} {m₀ : Str → Option Value} {news₀ : List (Addr × Obj)} {px : Pos} {body : List Stmt}
    (hh : A.handled = none) (hk : sc.kind = .function) (kx : (envOf nm sc L fa cd).kindOf x = some .local)
    (hl : h₀.IsList l items.toArray) (F : Fr h₀ L s.heap m₀) (N : News h₀ L s.heap news₀)
    (J : Nat → (Str → Option Value) → List (Addr × Obj) → Prop) (h0 : J 0 m₀ news₀)
    (turn : ∀ (j : Nat) v m' news' own (s₁ : Shared) E', items[j]? = some v → J j m' news' → news'.map (·.1) = news₀.map (·.1) → OwnOff own (news₀.map (·.1)) → s₁.os = s.os → (AllBare s.gens → AllBare s₁.gens) →
      Fr h₀ L s₁.heap (fun y => if y = x then some v else m' y) → News h₀ L s₁.heap (news' ++ own) →
      wpAny (model prog w) A (execs body (envOf nm sc L fa cd)) (ForPost h₀ L (news₀.map (·.1)) (J (j + 1)) own s₁ (fun v s' => R (.ok (.ret v)) s')) E' s₁)
    (done : ∀ m' news' (s₂ : Shared), J items.length m' news' → Fr h₀ L s₂.heap m' → News h₀ L s₂.heap news' → news'.map (·.1) = news₀.map (·.1) → s₂.os = s.os → (AllBare s.gens → AllBare s₂.gens) → R (.ok .next) s₂) :
    wpAny (model prog w) A (pyIter (.ref l)) (fun it s₂ => codeAny (model prog w) A (.forLoop (.Name x px) it body [] (envOf nm sc L fa cd)) R s₂) E s := by
  have hls : s.heap.IsList l items.toArray := hl.at fun o e => F.keep l o e
  obtain ⟨ol, hol, _⟩ := id hl
  have hlt₀ : l < h₀.objs.size := Heap.lt_size hol
  have hlL : l < L := Nat.lt_of_lt_of_le hlt₀ F.above
  have hLlt := F.ns.lt
  have hne : l ≠ s.heap.objs.size := Nat.ne_of_lt (Nat.lt_trans hlL hLlt)
  refine wpAny_pyIter_list hls ?_
  have WK := Walks.list (prog := prog) (w := w) (A := A) hh s.heap.objs.size l hne items.toArray
  have hlen : items.toArray.size = items.length := by simp
  rw [hlen] at WK
  generalize hIt : s.heap.objs.size = It at *
  have hI0 : h₀.get? It = none := by
    cases e : h₀.get? It with
    | none => rfl
    | some o => exact absurd (Heap.lt_size (F.keep _ _ e)) (by rw [hIt]; exact Nat.lt_irrefl _)
  have hIL : It ≠ L := fun e => absurd hLlt (e ▸ Nat.lt_irrefl _)
  have hIn : ∀ p ∈ news₀, p.1 ≠ It := fun p hp e => absurd (Heap.lt_size (N p hp).1) (by rw [hIt, e]; exact Nat.lt_irrefl _)
  refine codeAny_forLoop_any (fun k s' => ∃ j m' news', j ≤ items.length ∧ k = items.length - j ∧ Fr h₀ L s'.heap m' ∧ News h₀ L s'.heap news' ∧ news'.map (·.1) = news₀.map (·.1) ∧ J j m' news' ∧ s'.heap.IsListIter It l j ∧ s'.os = s.os ∧ (AllBare s.gens → AllBare s'.gens)) ?_ items.length
    ⟨0, m₀, news₀, Nat.zero_le _, (Nat.sub_zero _).symm, F.push _, N.grown fun b o e => Heap.get?_push_of_some _ e, rfl, h0, ⟨_, hIt ▸ Heap.get?_push_size _ rfl, rfl, rfl⟩, rfl, id⟩
  rintro k s' ⟨j, m', news', hj, rfl, F', N', hadr, hJ, hit, hos, hg⟩
  have hl' : s'.heap.IsList l items.toArray := hl.at fun o e => F'.keep l o e
  rcases Nat.lt_or_ge j items.length with hlt | hge
  · refine WK.item j s' _ _ hlt ⟨hit, hl'⟩ fun v h₂ tk₂ hP hst₂ hk₂ => ?_
    have hk₂' : ∀ b o, b ≠ It → s'.heap.get? b = some o → h₂.get? b = some o := fun b o hb e => hk₂ b o (fun hm => hb (List.mem_singleton.mp hm)) e
    have adr : ∀ p ∈ news', p.1 ≠ It := fun p hp => by
      have h1 : p.1 ∈ news₀.map (·.1) := hadr ▸ List.mem_map_of_mem hp
      obtain ⟨q, hq, hqe⟩ := List.mem_map.mp h1
      rw [← hqe]; exact hIn q hq
    have F₂ : Fr h₀ L h₂ m' := by
      obtain ⟨oL, es, ep, hL, r⟩ := F'.ns
      exact ⟨⟨oL, es, ep, hk₂' L oL (Ne.symm hIL) hL, r⟩, fun b o e => hk₂' b o (by rintro rfl; rw [e] at hI0; cases hI0) (F'.keep b o e), F'.above⟩
    have N₂ : News h₀ L h₂ news' := fun p hp => ⟨hk₂' _ _ (adr p hp) (N' p hp).1, (N' p hp).2⟩
    refine wpAny_of_eq (rfl : letOwnedTupleGo (.Name x px) (.ref It) v = pure ()) ?_
    refine wpAny_assign_Name (stSame F₂ (fun h₃ F₃ hs₃ => ?_) hk kx)
    replace hs₃ : Heap.SameBut L h₂ h₃ := hs₃
    have N₃ := N₂.set hs₃
    obtain ⟨oI, hoI, hI2⟩ := hst₂.1
    have hoI₃ : h₃.get? It = some oI := hs₃.extBut _ _ hIL hoI
    have NO : News h₀ L h₃ (news' ++ [(It, oI)]) := fun q hq => by
      rcases List.mem_append.mp hq with hq | hq
      · exact N₃ q hq
      · rw [List.mem_singleton.mp hq]; exact ⟨hoI₃, hIL, hI0⟩
    have hoff : OwnOff [(It, oI)] (news₀.map (·.1)) := fun q hq b hb => by
      rw [List.mem_singleton.mp hq]
      obtain ⟨p, hp, rfl⟩ := List.mem_map.mp hb
      exact Ne.symm (hIn p hp)
    refine wpAny_mono (turn j v m' news' [(It, oI)] _ _ (by simpa using hP) hJ hadr hoff hos hg F₃ NO) (fun f s₂ hf => ?_) fun _ _ e => e
    have go : (s₂.os = s'.os ∧ (AllBare s'.gens → AllBare s₂.gens) ∧ ∃ m2 news2, Fr h₀ L s₂.heap m2 ∧ News h₀ L s₂.heap (news2 ++ [(It, oI)]) ∧ news2.map (·.1) = news₀.map (·.1) ∧ J (j + 1) m2 news2) →
        ∃ m, m < items.length - j ∧ ∃ j m' news', j ≤ items.length ∧ m = items.length - j ∧ Fr h₀ L s₂.heap m' ∧ News h₀ L s₂.heap news' ∧ news'.map (·.1) = news₀.map (·.1) ∧ J j m' news' ∧ s₂.heap.IsListIter It l j ∧ s₂.os = s.os ∧ (AllBare s.gens → AllBare s₂.gens) := by
      rintro ⟨ho, hgg, m2, news2, F5, N5, ha5, hJ5⟩
      exact ⟨items.length - (j + 1), by omega, j + 1, m2, news2, hlt, rfl, F5, fun q hq => N5 q (List.mem_append.mpr (.inl hq)), ha5, hJ5,
        ⟨oI, (N5 _ (List.mem_append.mpr (.inr (List.mem_singleton.mpr rfl)))).1, hI2⟩, ho.trans hos, fun x => hgg (hg x)⟩
    cases f with
    | next => exact go hf
    | cont => exact go hf
    | brk => exact hf.elim
    | ret v => exact hf
  · have hin : j = items.length := Nat.le_antisymm hj hge
    subst hin
    refine WK.done s' _ _ ⟨hit, hl'⟩ fun h₂ tk₂ hk₂ => ?_
    have hk₂' : ∀ b o, b ≠ It → s'.heap.get? b = some o → h₂.get? b = some o := fun b o hb e => hk₂ b o (fun hm => hb (List.mem_singleton.mp hm)) e
    have adr : ∀ p ∈ news', p.1 ≠ It := fun p hp => by
      have h1 : p.1 ∈ news₀.map (·.1) := hadr ▸ List.mem_map_of_mem hp
      obtain ⟨q, hq, hqe⟩ := List.mem_map.mp h1
      rw [← hqe]; exact hIn q hq
    show wpAny _ _ (execs [] _) _ _ _
    refine wpAny_pure (done m' news' _ hJ ?_ (fun p hp => ⟨hk₂' _ _ (adr p hp) (N' p hp).1, (N' p hp).2⟩) hadr hos hg)
    obtain ⟨oL, es, ep, hL, r⟩ := F'.ns
    exact ⟨⟨oL, es, ep, hk₂' L oL (Ne.symm hIL) hL, r⟩, fun b o e => hk₂' b o (by rintro rfl; rw [e] at hI0; cases hI0) (F'.keep b o e), F'.above⟩
end
end
section
/-- rows for the walk -/
theorem rows_M10_1 : True := by
  w_top off
  k_with_none
  k_with "mine enter" => ( (refine' fn_call (by assumption) (by assumption) ?k6 ?k7 ?k8 ?k9 ?kB ?c2 ?c3 ?c4 ?c5 ?_); (case k6 => k_is); (case k7 => k_is); (case k8 => decide); (case k9 => exact BindsTo.of_eq rfl); (case kB => exact locs rfl); (case c2 => exact rfl); (case c3 => exact rfl); (case c4 => exact rfl); (case c5 => decide))
  trivial
def Hold (P : Prop) : Prop := P
theorem hold {P : Prop} (h : Hold P) : P := h
theorem Hold.mk {P : Prop} (h : P) : Hold P := h
/-- rows for the walk -/
theorem rows_M10_2 : True := by
  k_with "exec For Name Name cons nil" => refine hold ?_
  trivial
/-- which texts are left out: those with the open bracket -/
def bad (x : Int) : Bool := (x.fdiv 4).fmod 4 == 2
def nilText : Str := Str.ofString "('', '')"
def keptText (x : Int) : Str := if bad x then nilText else lawText x

def okT (T y : Str) : Bool := T.cps.all (fun c => c < 128) && T.cps.all (fun c => c != 92) && decide (T.length < 1000) && JoinOk (Str.ofString "") (stripParts T) && stripOut T == y && y.cps.all (fun c => c < 128) && y.cps.all (fun c => c != 92) && y.cps.all (fun c => c != 41)

theorem all_ne {a : Array Nat} {d : Nat} (h : a.all (fun c => c != d) = true) : ∀ (i c : Nat), a[i]? = some c → c ≠ d := by
  intro i c hc
  have := Array.all_eq_true_iff_forall_mem.mp h c (Array.mem_of_getElem? hc)
  simpa using this

theorem residues (x : Int) : (x.fmod 4 = 0 ∨ x.fmod 4 = 1 ∨ x.fmod 4 = 2 ∨ x.fmod 4 = 3) := by
  have := Int.fmod_eq_emod_of_nonneg x (b := 4) (by decide); omega

theorem text_ok (x : Int) : okT (lawText x) (if bad x then lawText x else lawName x) = true ∧ (opensTo (if bad x then lawText x else lawName x) (if bad x then lawText x else lawName x).cps.size == 0) = !bad x := by
  rcases residues x with h | h | h | h <;> rcases residues (x.fdiv 4) with g | g | g | g <;> simp only [bad, lawText, lawName, h, g] <;> decide +kernel

theorem check_text {w : World} {A : Around} {mean mg mb} {s : Shared} {x : Int} {t : Tok} {Q : Value → Shared → Prop} {E : Value → Shared → Prop}
    (G : Gr w mean mg mb s.heap) (hh : A.handled = none) (hd : A.depth ≤ 680) (hu : A.units ≤ 700) (h : ∀ s', Kept s s' → Q (.bool (!bad x)) s') :
    wpAny (model PySem.Challenge.rw_mr0159_01.row.prog w) A (call (.ref 104) [.str (lawText x) t]) Q E s := by
  obtain ⟨ho, hb⟩ := text_ok x
  simp only [okT, Bool.and_eq_true, decide_eq_true_eq, beq_iff_eq] at ho
  obtain ⟨⟨⟨⟨⟨⟨⟨h1, h2⟩, h3⟩, h4⟩, h5⟩, h6⟩, h7⟩, h8⟩ := ho
  exact check_call ⟨h1, all_ne h2⟩ h3 h4 h5 ⟨h6, all_ne h7⟩ (all_ne h8) G hh hd hu fun s' k => hb ▸ h s' k

theorem strip_text {w : World} {A : Around} {mean mg mb} {s : Shared} {x : Int} {t : Tok} {Q : Value → Shared → Prop} {E : Value → Shared → Prop}
    (hbad : bad x = false) (G : Gr w mean mg mb s.heap) (hh : A.handled = none) (hd : A.depth ≤ 690) (hu : A.units ≤ 800) (h : ∀ s' t', Kept s s' → Q (.str (lawName x) t') s') :
    wpAny (model PySem.Challenge.rw_mr0159_01.row.prog w) A (call (.ref 97) [.str (lawText x) t]) Q E s := by
  obtain ⟨ho, hb⟩ := text_ok x
  simp only [okT, Bool.and_eq_true, decide_eq_true_eq, beq_iff_eq] at ho
  obtain ⟨⟨⟨⟨⟨⟨⟨h1, h2⟩, h3⟩, h4⟩, h5⟩, h6⟩, h7⟩, h8⟩ := ho
  rw [hbad] at h5
  exact strip_call ⟨h1, all_ne h2⟩ h3 h4 G hh hd hu fun s' t' k => by rw [h5]; exact h s' t' k

theorem strs_get {vs : List Value} {ys : List Str} (h : StrsAre vs ys) : ∀ (j : Nat) (v : Value), vs[j]? = some v → ∃ y t, ys[j]? = some y ∧ v = .str y t := by
  induction h with
  | nil => intro j v hv; simp at hv
  | cons y t _ ih =>
    intro j v hv
    cases j with
    | zero => simp at hv; exact ⟨y, t, by simp, hv.symm⟩
    | succ j => simpa using ih j v (by simpa using hv)
theorem strs_length {vs : List Value} {ys : List Str} (h : StrsAre vs ys) : vs.length = ys.length := by
  induction h with
  | nil => rfl
  | cons y t _ ih => simp [ih]

def amap (rv : Value) (m : Str → Option Value) : Str → Option Value := fun y => if y = Str.ofString "accepted_values" then some rv else m y
theorem amap_self {rv : Value} {m : Str → Option Value} (h1 : m (Str.ofString "accepted_values") = some rv) : ∃ m₁, m = amap rv m₁ := ⟨m, by
  funext y
  unfold amap
  split
  · rename_i e; rw [e, h1]
  · rfl⟩
def PreJ (xs : List Int) (r : Addr) (j : Nat) (m' : Str → Option Value) (news' : List (Addr × Obj)) : Prop :=
  ∃ vs n, m' (Str.ofString "accepted_values") = some (.ref r) ∧ news' = [(r, W.listOf vs n)] ∧ StrsAre vs.toList ((xs.take j).map keptText)

theorem pre_call {w : World} {A : Around} {mean mg mb} {s : Shared} {l : Addr} {vs : List Value} {xs : List Int} {Q : Value → Shared → Prop} {E : Value → Shared → Prop}
    (G : Gr w mean mg mb s.heap) (hl : s.heap.IsList l vs.toArray) (hs : StrsAre vs (xs.map lawText)) (hz : xs.length ≤ 1000) (hh : A.handled = none) (hd : A.depth ≤ 670) (hu : A.units ≤ 600)
    (h : ∀ s' r ws n, Kept s s' → s.heap.get? r = none → s'.heap.get? r = some (W.listOf ws n) → StrsAre ws.toList (xs.map keptText) → Q (.ref r) s') :
    wpAny (model PySem.Challenge.rw_mr0159_01.row.prog w) A (call (.ref 111) [.ref l]) Q E s := by
  refine lower hh hd hu ?_
  clear hh hd hu A
  obtain ⟨X, T⟩ := G
  revert X; k_fill; intro X
  refine wpAny_call ?_
  walk_at "mine enter"
  intro L h₁ hL F N
  try dsimp only
  try k_fold
  k_steps
  refine Hold.mk ?_
  rename Fr _ _ _ _ => F
  rename News _ _ _ _ => N
  refine wpAny_For ?_
  refine ld F rfl ?_
  refine for_list rfl rfl rfl hl F N (PreJ xs _) ⟨#[], 0, rfl, rfl, by simpa using StrsAre.nil⟩ ?_ ?_
  · clear F N
    rintro j v m' news' own s₁ E' hv ⟨ws, n, h1, rfl, h2⟩ hadr hoff hos hg F N
    obtain ⟨m₁, rfl⟩ := amap_self h1
    obtain ⟨y, t, hy, rfl⟩ := strs_get hs j v hv
    rw [List.getElem?_map] at hy
    obtain ⟨x, hx, rfl⟩ := Option.map_eq_some_iff.mp hy
    have hxs : (xs.take (j + 1)).map keptText = (xs.take j).map keptText ++ [keptText x] := by
      rw [List.take_add_one, hx]; simp
    have hwz : ws.size ≤ sizeLine := by
      have := strs_length h2
      rw [Array.length_toList, List.length_map, List.length_take] at this
      rw [sizeLine_eq]; omega
    simp only [List.cons_append, List.nil_append, List.map_cons, List.map_nil] at N hoff
    clear h1 hadr
    k_steps
    refine check_text (Gr.fr X T F) rfl (Nat.le_of_ble_eq_true rfl) (Nat.le_of_ble_eq_true rfl) ?_
    intro s2 k2
    have F2 := F.keeps k2.heap
    have N2 := N.grown k2.heap
    clear F N
    have hkt : keptText x = if bad x then nilText else lawText x := rfl
    cases hb : bad x
    · rw [hb] at hkt
      k_steps
      rename Fr _ _ _ _ => F
      rename News _ _ _ _ => N
      refine ⟨k2.os, k2.gens, _, [(_, _)], F, N, rfl, _, _, rfl, rfl, ?_⟩
      rw [hxs, hkt, Array.toList_push]
      exact strs_snoc h2
    · rw [hb] at hkt
      k_steps
      rename Fr _ _ _ _ => F
      rename News _ _ _ _ => N
      refine ⟨k2.os, k2.gens, _, [(_, _)], F, N, rfl, _, _, rfl, rfl, ?_⟩
      rw [hxs, hkt, Array.toList_push]
      exact strs_snoc h2
  · clear F N
    rintro m' news' s₂ ⟨ws, n, h1, rfl, h2⟩ F N _ hos hg
    obtain ⟨m₁, rfl⟩ := amap_self h1
    dsimp only
    k_steps
    show Q (.ref _) _
    have hlen : xs.take vs.length = xs := by
      have := strs_length hs
      rw [List.length_map] at this
      rw [this, List.take_length]
    rw [hlen] at h2
    exact h _ _ _ _ ⟨F.keep, hos, hg⟩ (N _ (.head _)).2.2 (N _ (.head _)).1 h2
end
section
section
variable {prog : Program} {w : World} {A : Around} {E : Value → Shared → Prop} {s : Shared}

/-- a set of texts: its elements are the texts of S, at most n; it isn't laid by plain hashes (so its order is the world's) -/
def StrSet (prog : Program) (w : World) (h : Heap) (a : Addr) (S : Str → Bool) (n : Nat) : Prop :=
  ∃ o es ep t, h.get? a = some o ∧ o.ExactSet ∧ o.data = .set es ep t ∧ ElemsOf (PySem.strKind prog w) es.toList ∧ (∀ k, S k = true ↔ ∃ e ∈ es.toList, (PySem.strKind prog w).is k e.2 = true)
    ∧ es.size ≤ n ∧ t.fits es.size = true ∧ (es.size = 0 ∨ t.plain = false)
theorem StrSet.setOf {h : Heap} {a : Addr} {S : Str → Bool} {n : Nat} (x : StrSet prog w h a S n) (hn : n < scanBound) : ∃ k, h.SetOf (PySem.strKind prog w) a S k := by
  obtain ⟨o, es, ep, t, ho, hex, hd, hel, hm, hsz, hf, _⟩ := x
  exact ⟨es.size, o, es, ep, t, ho, hex, hd, hel, hm, Nat.lt_of_le_of_lt hsz hn, hf, rfl⟩
theorem StrSet.at {h h' : Heap} {a : Addr} {S : Str → Bool} {n : Nat} (x : StrSet prog w h a S n) (k : ∀ o, h.get? a = some o → h'.get? a = some o) : StrSet prog w h' a S n := by
  obtain ⟨o, es, ep, t, ho, r⟩ := x
  exact ⟨o, es, ep, t, k _ ho, r⟩

theorem relayAll_plain {t : SetTable} {es : Array (Int × Value)} {n : Nat} (h : t.plain = false) : (relayAll t es n).2.1.plain = false := by
  unfold relayAll
  cases hq : t.relaid (es.map (·.1)) n with
  | none => rfl
  | some p =>
    obtain ⟨t', order⟩ := p
    dsimp only
    have ht' : t'.plain = false := by
      unfold SetTable.relaid SetTable.laid at hq
      cases hl : SetTable.layClean (SetTable.sizeAbove n - 1) (es.map (·.1)) with
      | none => rw [hl] at hq; cases hq
      | some ow =>
        rw [hl] at hq
        have := Option.some.inj hq
        exact (congrArg (fun p : SetTable × Array Nat => p.1.plain) this).symm.trans h
    split
    · exact ht'
    · rfl

theorem setAdd_str {a : Addr} {S : Str → Bool} {n : Nat} {k : Str} {t₀ : Tok} {Q : Bool → Shared → Prop} (hS : StrSet prog w s.heap a S n) (hroom : n + 1 < scanBound)
    (h : ∀ b h', Heap.SameBut a s.heap h' → StrSet prog w h' a (fun k' => S k' || decide (k' = k)) (n + 1) → Q b { s with heap := h' }) :
    wpAny (model prog w) A (setAddHashed a (.str k t₀) ((PySem.strKind prog w).hash k)) Q E s := by
  have hkey : (PySem.strKind prog w).is k (.str k t₀) = true := strKind_is _ _ _ _
  have hsc : (Value.str k t₀).scannable = true := rfl
  obtain ⟨o, es, ep, t, ho, hex, hd, hel, hmem, hn, hf, hpl⟩ := hS
  have hb : es.size < scanBound := by omega
  unfold setAddHashed setAddHashedIn
  refine wpAny_holding (wpAny_bind (wpAny_setState_of ho hd hf ?_))
  dsimp only
  rw [byScan_of hsc hb hel]
  simp only [↓reduceIte]
  unfold setAddByScan
  refine wpAny_bind ?_
  refine wpAny_bind (wpAny_rule ?_)
  refine wpAny_bind (wpAny_setScan_of hkey ho hd hf hel ?_)
  cases hr : List.findIdx? (fun e => (PySem.strKind prog w).is k e.2) es.toList with
  | some j =>
    dsimp only
    obtain ⟨hj, hpj, _⟩ := List.findIdx?_eq_some_iff_getElem.mp hr
    have hSk : S k = true := (hmem k).mpr ⟨es.toList[j], List.getElem_mem hj, hpj⟩
    refine wpAny_pure (wpAny_pure ?_)
    have e : s = { s with heap := s.heap } := by cases s; rfl
    rw [e]
    refine h _ s.heap (Heap.SameBut.refl a s.heap) ⟨o, es, ep, t, ho, hex, hd, hel, fun k' => ?_, Nat.le_succ_of_le hn, hf, hpl⟩
    rw [Bool.or_eq_true, decide_eq_true_eq, ← hmem k']
    exact ⟨fun hk => hk.elim id (fun e => e ▸ hSk), .inl⟩
  | none =>
    dsimp only
    have hgw : ∀ (b : Bool) {s₁ : Shared} {Q' : Unit → Shared → Prop}, Q' () s₁ → wpAny (model prog w) A (match b with | true => rule "set.scan.the-table-gave-way" | false => pure ()) Q' E s₁ :=
      fun b s₁ Q' hq => by cases b <;> first | exact wpAny_pure hq | exact wpAny_rule hq
    have hperm := layNew_perm t es ((PySem.strKind prog w).hash k) (.str k t₀)
    have hfits := layNew_fits t es ((PySem.strKind prog w).hash k) (.str k t₀)
    generalize hL : layNew t es ((PySem.strKind prog w).hash k) (.str k t₀) = L at hperm hfits ⊢
    obtain ⟨es1, t1, wasDummy, gave⟩ := L
    dsimp only at hperm hfits ⊢
    rw [Array.toList_push] at hperm
    have hel1 : ElemsOf (PySem.strKind prog w) es1.toList := (hel.push hkey hsc).perm hperm
    have hmem1 : ∀ k', (S k' || decide (k' = k)) = true ↔ ∃ e ∈ es1.toList, (PySem.strKind prog w).is k' e.2 = true := mem_push_iff hkey hmem hperm
    have hsz1 : es1.size = es.size + 1 := by rw [← Array.length_toList, hperm.length_eq, List.length_append, Array.length_toList]; rfl
    have hz1 : es1.size ≤ sizeLine := fits_of_scanBound (by omega)
    refine wpAny_bind (hgw _ ?_)
    -- the table's mark is off behind this
    have tail : ∀ t2 : SetTable, t2.fits es1.size = true → t2.plain = false → wpAny (model prog w) A (do
        storeSet a es1 t2
        if (!wasDummy && t2.tooFull) = true then do
            (match (relayAll t2 es1 (SetTable.grown es1.size)).2.2 with | true => rule "set.scan.the-table-gave-way" | false => pure ())
            storeSet a (relayAll t2 es1 (SetTable.grown es1.size)).1 (relayAll t2 es1 (SetTable.grown es1.size)).2.1
            pure (some true)
          else pure (some true)) (fun r s' => wpAny (model prog w) A (match r with | some added => pure added | none => setAddHashedIn a (.str k t₀) ((PySem.strKind prog w).hash k) 99999) Q E s') E s := by
      intro t2 hf2 hp2
      refine wpAny_bind (wpAny_storeSet_of ho hd ?_ hz1)
      have hg1 : (s.heap.update a (Obj.putSet es1 t2)).get? a = some { o with data := .set es1 (ep + 1) t2 } := by
        have := Heap.get?_update_self (Obj.putSet es1 t2) ho (by rw [putSet_of es1 t2 hd]; rfl)
        rw [putSet_of es1 t2 hd] at this; exact this
      have hsb1 := Heap.SameBut.update s.heap a (Obj.putSet es1 t2)
      split
      · have hp := relayAll_perm t2 es1 (SetTable.grown es1.size)
        have hfr := relayAll_fits t2 es1 (SetTable.grown es1.size)
        have hpr := relayAll_plain (es := es1) (n := SetTable.grown es1.size) hp2
        generalize hRl : relayAll t2 es1 (SetTable.grown es1.size) = Rl at hp hfr hpr ⊢
        obtain ⟨es2, t3, gave2⟩ := Rl
        dsimp only at hp hfr hpr ⊢
        have hsz : es2.size = es1.size := by rw [← Array.length_toList, hp.length_eq, Array.length_toList]
        refine wpAny_bind (hgw _ ?_)
        refine wpAny_bind (wpAny_storeSet_of hg1 rfl ?_ (by rw [hsz]; exact hz1))
        refine wpAny_pure (wpAny_pure (h _ _ (hsb1.trans (Heap.SameBut.update _ a _)) ?_))
        have hg2 := Heap.get?_update_self (Obj.putSet es2 t3) hg1 (by rw [putSet_of es2 t3 rfl]; rfl)
        rw [putSet_of es2 t3 rfl] at hg2
        exact ⟨_, es2, ep + 1 + 1, t3, hg2, hex, rfl, hel1.perm hp, fun k' => (hmem1 k').trans ⟨fun ⟨e, he, q⟩ => ⟨e, hp.mem_iff.mpr he, q⟩, fun ⟨e, he, q⟩ => ⟨e, hp.mem_iff.mp he, q⟩⟩, by omega, hfr, .inr hpr⟩
      · exact wpAny_pure (wpAny_pure (h _ _ hsb1 ⟨_, es1, ep + 1, t2, hg1, hex, rfl, hel1, hmem1, by omega, hf2, .inr hp2⟩))
    cases hp1 : t1.plain with
    | true =>
      simp only [if_true]
      refine wpAny_bind ?_
      rw [hashByValue_scannable 8 hsc]
      refine wpAny_pure ?_
      simp only [plainKind, Bool.false_eq_true, if_false]
      exact tail _ (SetTable.fits_plain_off hfits) rfl
    | false =>
      simp only [Bool.false_eq_true, if_false]
      refine wpAny_bind (wpAny_pure ?_)
      simp only [if_true]
      exact tail t1 hfits hp1
end
end
section
section
variable {prog : Program} {w : World} {A : Around} {E : Value → Shared → Prop} {s : Shared} {R : Result → Shared → Prop}

theorem take_any (xs : List Str) (i : Nat) (x : Str) (h : xs[i]? = some x) (k : Str) : (xs.take (i + 1)).any (· == k) = ((xs.take i).any (· == k) || decide (k = x)) := by
  rw [List.take_add_one, h]
  simp only [Option.toList_some, List.any_append, List.any_cons, List.any_nil, Bool.or_false]
  congr 1
  by_cases e : k = x
  · subst e; simp
  · rw [decide_eq_false e]; exact beq_eq_false_iff_ne.mpr fun h => e h.symm

theorem set_loop_strs {I l S : Addr} {items : Array Value} {xs : List Str} (hh : A.handled = none) (hi : StrsAre items.toList xs) (hb : items.size + 1 < scanBound) (hIS : I ≠ S) (hlS : l ≠ S) (hlI : l ≠ I) :
    ∀ (k i : Nat) (s : Shared), items.size - i = k → i ≤ items.size → s.heap.IsListIter I l i → s.heap.IsList l items → StrSet prog w s.heap S (fun k' => (xs.take i).any (· == k')) i →
      (∀ h' tk, (∀ b o, b ≠ S → b ≠ I → s.heap.get? b = some o → h'.get? b = some o) → StrSet prog w h' S (fun k' => xs.any (· == k')) items.size → R (.ok (.ret .none)) { s with heap := h', toks := tk }) →
      codeAny (model prog w) A (.builtin "set.update.loop" ⟨[.ref S, .ref I], []⟩) R s := by
  have hlen : items.size = xs.length := by rw [← Array.length_toList]; exact strs_length hi
  have hh' : A.in1.handled = none := hh
  have WK := Walks.list (prog := prog) (w := w) (A := A.in1) hh' I l hlI items
  intro k
  induction k with
  | zero =>
    intro i s hk hle hit hl hS hR
    have hin : i = items.size := by omega
    subst hin
    refine codeAny_builtin PyProof.Rows.F.entry_set_update_loop ?_
    rw [Around.under_plainId PyProof.Rows.F.plain_set_update_loop _]
    show wpAny _ A.in1 (pyNext (.ref I) >>= _) _ _ s
    refine wpAny_bind (WK.done s _ _ ⟨hit, hl⟩ fun h' tk hk' => ?_)
    show wpAny _ A.in1 (ret Value.none) _ _ _
    refine wpAny_pure (hR h' tk (fun b o _ hb e => hk' b o (fun hm => hb (List.mem_singleton.mp hm)) e) ?_)
    have := hS.at (h' := h') fun o e => hk' _ o (fun hm => hIS (List.mem_singleton.mp hm).symm) e
    rw [hlen, List.take_length] at this
    rw [hlen]; exact this
  | succ k ih =>
    intro i s hk hle hit hl hS hR
    have hlt : i < items.size := by omega
    refine codeAny_builtin PyProof.Rows.F.entry_set_update_loop ?_
    rw [Around.under_plainId PyProof.Rows.F.plain_set_update_loop _]
    show wpAny _ A.in1 (pyNext (.ref I) >>= _) _ _ s
    refine wpAny_bind (WK.item i s _ _ hlt ⟨hit, hl⟩ fun v h₁ tk₁ hP hst hk₁ => ?_)
    obtain ⟨x, t, hx, rfl⟩ := strs_get hi i v (by rw [Array.getElem?_toList]; exact hP)
    have hS₁ : StrSet prog w h₁ S (fun k' => (xs.take i).any (· == k')) i := hS.at fun o e => hk₁ _ o (fun hm => hIS (List.mem_singleton.mp hm).symm) e
    show wpAny _ A.in1 (holding [Value.str x t] (setAdd S (.str x t)) >>= _) _ _ _
    refine wpAny_bind (wpAny_holding ?_)
    unfold setAdd
    refine wpAny_holding ?_
    refine wpAny_bind ((PySem.strKind prog w).pyHash (k := x) (strKind_is _ _ _ _) ?_)
    refine setAdd_str (s := { s with heap := h₁, toks := tk₁ + 1 }) hS₁ (by omega) fun b h₂ hsb hS₂ => ?_
    have e : (fun k' => (xs.take i).any (· == k') || decide (k' = x)) = fun k' => (xs.take (i + 1)).any (· == k') := funext fun k' => (take_any xs i x hx k').symm
    rw [e] at hS₂
    refine wpAny_pure ⟨plainId_quiet PyProof.Rows.F.plain_set_update_loop _, ih (i + 1) _ (by omega) hlt (hst.1.at fun o e => hsb.extBut _ o hIS e) (hst.2.at fun o e => hsb.extBut _ o hlS e) hS₂ fun h' tk hk' hS' => ?_⟩
    exact hR h' tk (fun b o hb1 hb2 e => hk' b o hb1 hb2 (hsb.extBut b o hb1 (hk₁ b o (fun hm => hb2 (List.mem_singleton.mp hm)) e))) hS'

theorem call_set_strs {l : Addr} {items : Array Value} {xs : List Str} {Q : Value → Shared → Prop}
    (hh : A.handled = none) (hl : s.heap.IsList l items) (hi : StrsAre items.toList xs) (hb : items.size + 1 < scanBound)
    (h : ∀ (h' : Heap) (tk : Nat), StrSet prog w h' s.heap.objs.size (fun k' => xs.any (· == k')) items.size →
      (∀ b o, s.heap.get? b = some o → h'.get? b = some o) → Q (.ref s.heap.objs.size) { s with heap := h', toks := tk }) :
    wpAny (model prog w) A (call (.type "set") [.ref l]) Q E s := by
  obtain ⟨c, tl, hmro⟩ := PySem.F.called_set.mro
  have hmade := PySem.F.called_set.made
  have hsub := PySem.F.called_set.sub
  refine wpAny_call (codeAny_of_tree ?_)
  show wpAny _ _ (callAny (.type "set") _) _ _ _
  refine wpAny_pure ⟨Code.quiet_builtin _ (by decide +kernel), codeAny_builtin PySem.F.entry_type_call ?_⟩
  rw [Around.under_plain (weight_type_call_type "set" [.ref l] []) rfl]
  have h1 := PySem.F.called_set.notType
  have h2 := PySem.F.called_set.canCreate
  have hct := PySem.F.typeCall_set_1 (.ref l)
  repeat (any_goals (first | assumption | wp_step))
  refine codeAny_mono (code_set_new_1 (.ref l) (E := E) (Q₁ := fun obj s₁ => ∃ led : Bool, obj = .ref s.heap.objs.size ∧ s₁ = { s with heap := s.heap.push { cls := .type "set", dict := none, data := .set #[] 0 (.fresh 0 0 led) } }) fun led => ⟨led, rfl, rfl⟩) fun r s₁ hr => ?_
  cases r with
  | error e => exact hr
  | ok fl =>
    cases fl with
    | ret obj =>
      obtain ⟨led, rfl, rfl⟩ := hr
      have hS : (s.heap.push { cls := .type "set", dict := none, data := .set #[] 0 (.fresh 0 0 led) }).get? s.heap.objs.size = some { cls := .type "set", dict := none, data := .set #[] 0 (.fresh 0 0 led) } := Heap.get?_push_size _ rfl
      have hT : Shared.TypeIs { s with heap := s.heap.push { cls := .type "set", dict := none, data := .set #[] 0 (.fresh 0 0 led) } } (.ref s.heap.objs.size) "set" := ⟨_, hS, rfl⟩
      have hli := PySem.F.called_set.init.lookup
      have hbi := PySem.F.called_set.init.bind (.ref s.heap.objs.size)
      repeat (any_goals (first | assumption | wp_step))
      refine codeAny_mono (codeAny_call_builtin (R := wants (fun r s₂ => r = .none ∧ ∃ h' tk, s₂ = { s with heap := h', toks := tk } ∧
          StrSet prog w h' s.heap.objs.size (fun k' => xs.any (· == k')) items.size ∧ (∀ b o, s.heap.get? b = some o → h'.get? b = some o)) E) PySem.F.called_set.init.plain PySem.F.entry_set_init (check_set_init_1 hT ?_)) fun r₂ s₂ hr₂ => ?_
      · obtain ⟨ol, hol, hcl, nl, hdl⟩ := hl
        obtain ⟨ocls, odict, odata, oslots⟩ := ol
        simp only at hcl hdl
        subst hcl; subst hdl
        have hol' : (s.heap.push { cls := .type "set", dict := none, data := .set #[] 0 (.fresh 0 0 led) }).get? l = some { cls := .type "list", dict := odict, data := .seq items nl, slots := oslots } := Heap.get?_push_of_some _ hol
        have hsls := PySem.F.sub_list_set
        have hslf := PySem.F.sub_list_frozenset
        have hne : (Value.type "list" == Value.type "dict") = false := by decide
        have hl1 : (s.heap.push { cls := .type "set", dict := none, data := .set #[] 0 (.fresh 0 0 led) }).IsList l items := ⟨_, hol', rfl, nl, rfl⟩
        unfold Builtin.«set.__init__» noKeywords Builtin.Frozenset.updateFrom
        generalize hPI : pyIter = PI
        wp_walk
        subst hPI
        refine wpAny_pyIter_list hl1 ?_
        refine wpAny_bind (wpAny_runValue ?_)
        have hlS : l < s.heap.objs.size := Heap.lt_size hol
        have hz : (s.heap.push { cls := .type "set", dict := none, data := .set #[] 0 (.fresh 0 0 led) }).objs.size = s.heap.objs.size + 1 := Heap.size_push ..
        have hh3 : A.in1.in1.handled = none := by simp [hh]
        refine set_loop_strs (l := l) (items := items) (xs := xs) hh3 hi hb ?_ (Nat.ne_of_lt hlS) ?_ (items.size - 0) 0 _ rfl (Nat.zero_le _) ⟨_, Heap.get?_push_size _ rfl, rfl, rfl⟩ (hl1.push _) ?hS0 ?hR
        · dsimp only; rw [hz]; exact Nat.succ_ne_self _
        · dsimp only; rw [hz]; exact Nat.ne_of_lt (Nat.lt_succ_of_lt hlS)
        case hS0 =>
          refine ⟨_, #[], 0, .fresh 0 0 led, Heap.get?_push_of_some _ hS, ⟨rfl, rfl, rfl⟩, rfl, ?_, ?_, Nat.le_refl _, by cases led <;> rfl, .inl rfl⟩
          · intro e he; simp at he
          · intro k; simp
        case hR =>
          intro h' tk' hk' hS'
          refine wpAny_pure ?_
          show wpAny _ _ (ret Value.none) _ _ _
          refine wpAny_pure ⟨rfl, h', tk', rfl, hS', fun b o e => ?_⟩
          have hb : b < s.heap.objs.size := Heap.lt_size e
          refine hk' b o (Nat.ne_of_lt hb) ?_ (Heap.get?_push_of_some _ (Heap.get?_push_of_some _ e))
          dsimp only; rw [hz]; exact Nat.ne_of_lt (Nat.lt_succ_of_lt hb)
      · cases r₂ with
        | error e => exact hr₂
        | ok fl₂ =>
          cases fl₂ with
          | ret r =>
            obtain ⟨rfl, h', tk, rfl, hS', hk'⟩ := hr₂
            repeat (any_goals (first | assumption | wp_step))
            exact h _ _ hS' hk'
          | _ => exact hr₂.elim
    | _ => exact hr.elim
end
end
section
section
variable {prog : Program} {w : World} {A : Around} {E : Value → Shared → Prop} {R : Result → Shared → Prop} {s : Shared}
/-- a for over an iterator whose object at each turn is known; fixB stands in the ground, fixO beside it -/
theorem for_walk {nm x : Str} {sc : Scope} {L fa : Addr} {cd : Value} {h₀ : Heap} {It : Addr} {iobj : Nat → Obj} {fixB fixO : List (Addr × Obj)} {items : List Value} {m₀ : Str → Option Value} {news₀ : List (Addr × Obj)} {px : Pos} {body : List Stmt}
    (hk : sc.kind = .function) (kx : (envOf nm sc L fa cd).kindOf x = some .local)
    (item : ∀ (j : Nat) v (s' : Shared) Q E', items[j]? = some v → s'.heap.get? It = some (iobj j) → (∀ p ∈ fixB ++ fixO, s'.heap.get? p.1 = some p.2) →
      (∀ h', h'.get? It = some (iobj (j + 1)) → Heap.SameBut It s'.heap h' → Q (some v) { s' with heap := h' }) → wpAny (model prog w) A (pyNext (.ref It)) Q E' s')
    (fin : ∀ (s' : Shared) Q E', s'.heap.get? It = some (iobj items.length) → (∀ p ∈ fixB ++ fixO, s'.heap.get? p.1 = some p.2) → (∀ h', Heap.ExtBut It s'.heap h' → Q none { s' with heap := h' }) → wpAny (model prog w) A (pyNext (.ref It)) Q E' s')
    (hfB : ∀ p ∈ fixB, h₀.get? p.1 = some p.2) (hIt : s.heap.get? It = some (iobj 0)) (hfO : ∀ p ∈ fixO, s.heap.get? p.1 = some p.2)
    (hIL : It ≠ L) (hI0 : h₀.get? It = none) (hIn : ∀ p ∈ news₀, p.1 ≠ It) (hOL : ∀ q ∈ fixO, q.1 ≠ L ∧ h₀.get? q.1 = none ∧ q.1 ≠ It ∧ ∀ p ∈ news₀, p.1 ≠ q.1)
    (F : Fr h₀ L s.heap m₀) (N : News h₀ L s.heap news₀)
    (J : Nat → (Str → Option Value) → List (Addr × Obj) → Prop) (h0 : J 0 m₀ news₀)
    (turn : ∀ (j : Nat) v m' news' own (s₁ : Shared) E', items[j]? = some v → J j m' news' → news'.map (·.1) = news₀.map (·.1) → OwnOff own (news₀.map (·.1)) → s₁.os = s.os → (AllBare s.gens → AllBare s₁.gens) →
      Fr h₀ L s₁.heap (fun y => if y = x then some v else m' y) → News h₀ L s₁.heap (news' ++ own) →
      wpAny (model prog w) A (execs body (envOf nm sc L fa cd)) (ForPost h₀ L (news₀.map (·.1)) (J (j + 1)) own s₁ (fun v s' => R (.ok (.ret v)) s')) E' s₁)
    (done : ∀ m' news' (s₂ : Shared), J items.length m' news' → Fr h₀ L s₂.heap m' → News h₀ L s₂.heap news' → news'.map (·.1) = news₀.map (·.1) → s₂.os = s.os → (AllBare s.gens → AllBare s₂.gens) → R (.ok .next) s₂) :
    codeAny (model prog w) A (.forLoop (.Name x px) (.ref It) body [] (envOf nm sc L fa cd)) R s := by
  refine codeAny_forLoop_any (fun k s' => ∃ j m' news', j ≤ items.length ∧ k = items.length - j ∧ Fr h₀ L s'.heap m' ∧ News h₀ L s'.heap news' ∧ news'.map (·.1) = news₀.map (·.1) ∧ J j m' news' ∧ s'.heap.get? It = some (iobj j) ∧ (∀ p ∈ fixO, s'.heap.get? p.1 = some p.2) ∧ s'.os = s.os ∧ (AllBare s.gens → AllBare s'.gens)) ?_ items.length
    ⟨0, m₀, news₀, Nat.zero_le _, (Nat.sub_zero _).symm, F, N, rfl, h0, hIt, hfO, rfl, id⟩
  rintro k s' ⟨j, m', news', hj, rfl, F', N', hadr, hJ, hit, hfo, hos, hg⟩
  have fix : ∀ p ∈ fixB ++ fixO, s'.heap.get? p.1 = some p.2 := fun p hp => by
    rcases List.mem_append.mp hp with hp | hp
    · exact F'.keep _ _ (hfB p hp)
    · exact hfo p hp
  have adr : ∀ p ∈ news', ∃ q ∈ news₀, q.1 = p.1 := fun p hp => by
    have h1 : p.1 ∈ news₀.map (·.1) := hadr ▸ List.mem_map_of_mem hp
    obtain ⟨q, hq, hqe⟩ := List.mem_map.mp h1
    exact ⟨q, hq, hqe⟩
  rcases Nat.lt_or_ge j items.length with hlt | hge
  · have hv : items[j]? = some items[j] := by simp [hlt]
    refine item j items[j] s' _ _ hv hit fix fun h₂ hit₂ hs₂ => ?_
    have F₂ : Fr h₀ L h₂ m' := by
      obtain ⟨oL, es, ep, hL, r⟩ := F'.ns
      exact ⟨⟨oL, es, ep, hs₂.extBut L oL (Ne.symm hIL) hL, r⟩, fun b o e => hs₂.extBut b o (by rintro rfl; rw [e] at hI0; cases hI0) (F'.keep b o e), F'.above⟩
    have N₂ : News h₀ L h₂ news' := fun p hp => ⟨hs₂.extBut _ _ (by obtain ⟨q, hq, e⟩ := adr p hp; rw [← e]; exact hIn q hq) (N' p hp).1, (N' p hp).2⟩
    refine wpAny_of_eq (rfl : letOwnedTupleGo (.Name x px) (.ref It) _ = pure ()) ?_
    refine wpAny_assign_Name (stSame F₂ (fun h₃ F₃ hs₃ => ?_) hk kx)
    replace hs₃ : Heap.SameBut L h₂ h₃ := hs₃
    have N₃ := N₂.set hs₃
    have NO : News h₀ L h₃ (news' ++ (It, iobj (j + 1)) :: fixO) := fun q hq => by
      rcases List.mem_append.mp hq with hq | hq
      · exact N₃ q hq
      rcases List.mem_cons.mp hq with rfl | hq
      · exact ⟨hs₃.extBut _ _ hIL hit₂, hIL, hI0⟩
      · obtain ⟨a1, a2, a3, _⟩ := hOL q hq
        exact ⟨hs₃.extBut _ _ a1 (hs₂.extBut _ _ a3 (hfo q hq)), a1, a2⟩
    have hoff : OwnOff ((It, iobj (j + 1)) :: fixO) (news₀.map (·.1)) := fun q hq b hb => by
      obtain ⟨p, hp, rfl⟩ := List.mem_map.mp hb
      rcases List.mem_cons.mp hq with rfl | hq
      · exact Ne.symm (hIn p hp)
      · exact Ne.symm ((hOL q hq).2.2.2 p hp)
    refine wpAny_mono (turn j items[j] m' news' _ _ _ hv hJ hadr hoff hos hg F₃ NO) (fun f s₂ hf => ?_) fun _ _ e => e
    have go : (s₂.os = s'.os ∧ (AllBare s'.gens → AllBare s₂.gens) ∧ ∃ m2 news2, Fr h₀ L s₂.heap m2 ∧ News h₀ L s₂.heap (news2 ++ (It, iobj (j + 1)) :: fixO) ∧ news2.map (·.1) = news₀.map (·.1) ∧ J (j + 1) m2 news2) →
        ∃ m, m < items.length - j ∧ ∃ j m' news', j ≤ items.length ∧ m = items.length - j ∧ Fr h₀ L s₂.heap m' ∧ News h₀ L s₂.heap news' ∧ news'.map (·.1) = news₀.map (·.1) ∧ J j m' news' ∧ s₂.heap.get? It = some (iobj j) ∧ (∀ p ∈ fixO, s₂.heap.get? p.1 = some p.2) ∧ s₂.os = s.os ∧ (AllBare s.gens → AllBare s₂.gens) := by
      rintro ⟨ho, hgg, m2, news2, F5, N5, ha5, hJ5⟩
      exact ⟨items.length - (j + 1), by omega, j + 1, m2, news2, hlt, rfl, F5, fun q hq => N5 q (List.mem_append.mpr (.inl hq)), ha5, hJ5,
        (N5 _ (List.mem_append.mpr (.inr (List.mem_cons_self ..)))).1, fun q hq => (N5 q (List.mem_append.mpr (.inr (List.mem_cons_of_mem _ hq)))).1, ho.trans hos, fun x => hgg (hg x)⟩
    cases f with
    | next => exact go hf
    | cont => exact go hf
    | brk => exact hf.elim
    | ret v => exact hf
  · have hin : j = items.length := Nat.le_antisymm hj hge
    subst hin
    refine fin s' _ _ hit fix fun h₂ hs₂ => ?_
    show wpAny _ _ (execs [] _) _ _ _
    refine wpAny_pure (done m' news' _ hJ ?_ (fun p hp => ⟨hs₂ _ _ (by obtain ⟨q, hq, e⟩ := adr p hp; rw [← e]; exact hIn q hq) (N' p hp).1, (N' p hp).2⟩) hadr hos hg)
    obtain ⟨oL, es, ep, hL, r⟩ := F'.ns
    exact ⟨⟨oL, es, ep, hs₂ L oL (Ne.symm hIL) hL, r⟩, fun b o e => hs₂ b o (by rintro rfl; rw [e] at hI0; cases hI0) (F'.keep b o e), F'.above⟩
end

/-! the iteration over a set -/
theorem entry_set_iter : entryFor table "set.__iter__" = some Builtin.«frozenset.__iter__» :=
  entryFor_alias (id' := "frozenset.__iter__") (by kernel_rfl) rfl (by decide +kernel) (by kernel_rfl)
theorem slot_setiter_next : Slot "set_iterator" "__next__" "set_iterator.__next__" :=
  .of (owner := "set_iterator") (n := "__next__") (by rw [typeLookup_type, builtinLookup_eq_fast]; kernel_rfl) (by decide +kernel) (by decide +kernel) (by decide +kernel)
    (by first | exact .inl (by decide +kernel) | exact .inr (by decide +kernel)) (by rw [isSubtype_type]; kernel_rfl)
theorem entry_setiter_next : entryFor table "set_iterator.__next__" = some Builtin.«set_iterator.__next__» := entryFor_of_fast (by kernel_rfl)
theorem args_setiter_next (a : Value) : argsOk "set_iterator.__next__" ⟨[a], []⟩ := by unfold argsOk; kernel_rfl
end
section
abbrev sIter (first : Value) (i : Nat) (a : Addr) (n ep : Nat) : Obj := { cls := .type "set_iterator", data := .fields #[first, .int i 0, .ref a, .int n 0, .int ep 0] }

theorem get_erase_perm {α : Type} : ∀ (l : List α) (i : Nat) (h : i < l.length), (l[i] :: l.eraseIdx i).Perm l
  | x :: r, 0, _ => by simp
  | x :: r, i + 1, h => by
    have ih := get_erase_perm r i (by simpa using h)
    simp only [List.getElem_cons_succ, List.eraseIdx_cons_succ]
    exact (List.Perm.swap x _ _).trans (List.Perm.cons x ih)
theorem pickGo_perm {α : Type} (next : Nat → Nat) : ∀ (fuel k : Nat) (left : List α) (out : Array α), left.length ≤ fuel → (pickOrder.go next fuel k left out).toList.Perm (out.toList ++ left)
  | 0, k, left, out, h => by
    have : left = [] := List.length_eq_zero_iff.mp (Nat.le_zero.mp h)
    subst this
    simp [pickOrder.go]
  | fuel + 1, k, left, out, h => by
    unfold pickOrder.go
    cases hq : left[next k % left.length]? with
    | none =>
      have : left = [] := by
        rcases left with _ | ⟨x, r⟩
        · rfl
        · rw [List.getElem?_eq_none_iff] at hq
          exact absurd (Nat.mod_lt _ (Nat.succ_pos _)) (Nat.not_lt.mpr hq)
      subst this
      simp
    | some x =>
      dsimp only
      have hlt : next k % left.length < left.length := by
        rcases Nat.lt_or_ge (next k % left.length) left.length with h | h
        · exact h
        · rw [List.getElem?_eq_none h] at hq; cases hq
      have ih := pickGo_perm next fuel (k + 1) (left.eraseIdx (next k % left.length)) (out.push x) (by rw [List.length_eraseIdx_of_lt hlt]; omega)
      refine ih.trans ?_
      rw [Array.toList_push, List.append_assoc]
      refine List.Perm.append_left _ ?_
      have hx : x = left[next k % left.length] := by rw [List.getElem?_eq_getElem hlt] at hq; exact (Option.some.inj hq).symm
      rw [hx]
      exact get_erase_perm _ _ hlt
theorem pickOrder_perm {α : Type} (next : Nat → Nat) (xs : Array α) : (pickOrder next xs).toList.Perm xs.toList := by
  unfold pickOrder
  have := pickGo_perm next xs.size 0 xs.toList #[] (by simp)
  simpa using this

section
variable {prog : Program} {w : World} {A : Around} {E : Value → Shared → Prop} {s : Shared}
theorem wpAny_chooseAny {M : Model} {src : Source} {n : Nat} {Q : Nat → Shared → Prop} (hn : n ≠ 0) (h : ∀ i dr, i < n → Q i { s with drawn := dr }) : wpAny M A (choose src n) Q E s := by
  intro Γ p hΓ
  refine (Sem.wp_choose M Γ _ _ p s src n _).mpr ⟨hn, ?_⟩
  exact h _ _ (Nat.mod_lt _ (Nat.pos_of_ne_zero hn))

theorem wpAny_drawOrder {M : Model} {α : Type} : ∀ (n : Nat) (xs : List α) (s : Shared) {Q : List α → Shared → Prop}, xs.length = n → (∀ ys dr, ys.Perm xs → Q ys { s with drawn := dr }) → wpAny M A (drawOrder n xs) Q E s
  | 0, xs, s, Q, hn, h => by
    have : xs = [] := List.length_eq_zero_iff.mp hn
    subst this
    unfold drawOrder
    exact wpAny_pure (h [] s.drawn (List.Perm.refl _))
  | n + 1, [], s, Q, hn, h => by cases hn
  | n + 1, x :: xs, s, Q, hn, h => by
    unfold drawOrder
    refine wpAny_bind (wpAny_chooseAny (by simp) fun i dr hi => ?_)
    rw [List.getElem?_eq_getElem hi]
    dsimp only
    refine wpAny_bind (wpAny_drawOrder n ((x :: xs).eraseIdx i) _ (by rw [List.length_eraseIdx_of_lt hi, hn]; rfl) fun ys dr' hp => wpAny_pure ?_)
    exact h _ dr' ((List.Perm.cons _ hp).trans (get_erase_perm _ _ hi))

theorem byText_ {b : Bool} {Q : Bool → Shared → Prop} (hb : w.params.followText "set-order" = b) (h : Q b s) : wpAny (model prog w) A setsByText Q E s := by
  unfold setsByText
  refine wpAny_bind (wpAny_askSetting (wpAny_pure ?_))
  show Q (w.params.followText "set-order") s
  rw [hb]; exact h
theorem walk_text {a : Addr} {o : Obj} {es : Array (Int × Value)} {ep : Nat} {t : SetTable} {Q : Array (Int × Value) → Shared → Prop} (hb : w.params.followText "set-order" = true) (hset : s.heap.get? a = some o) (ho : o.data = .set es ep t) (hf : t.fits es.size = true)
    (h : Q (pickOrder (w.params.setOrder a ep) es) s) : wpAny (model prog w) A (setWalk a) Q E s := by
  unfold setWalk
  refine wpAny_bind (wpAny_setState_of hset ho hf ?_)
  dsimp only
  refine wpAny_bind (byText_ hb ?_)
  simp only [if_true]
  exact wpAny_bind (wpAny_askSetting (wpAny_pure h))
/-- the order in which a set's entries come: by the world's text, or drawn -/
theorem next_text {It a : Addr} {o : Obj} {es : Array (Int × Value)} {ep : Nat} {t : SetTable} (hb : w.params.followText "set-order" = true) (ho : o.data = .set es ep t) (hf : t.fits es.size = true)
    {j : Nat} {v : Value} {Q : Option Value → Shared → Prop} (hv : (((pickOrder (w.params.setOrder a ep) es).toList.map (·.2)))[j]? = some v)
    (hit : s.heap.get? It = some (sIter (.int 0 0) j a es.size ep)) (hset : s.heap.get? a = some o)
    (h : ∀ h', h'.get? It = some (sIter (.int 0 0) (j + 1) a es.size ep) → Heap.SameBut It s.heap h' → Q (some v) { s with heap := h' }) :
    wpAny (model prog w) A (pyNext (.ref It)) Q E s := by
  have hT : s.TypeIs (.ref It) "set_iterator" := ⟨_, hit, rfl⟩
  unfold pyNext
  refine wpAny_bind (wpAny_attempt (wpAny_callSpecial?_slot (name := Str.ofString "__next__") hT slot_setiter_next
    (wpAny_call_entry slot_setiter_next hT entry_setiter_next ?_ (args_setiter_next _))))
  show wpAny _ _ (fieldsOf (.ref It) >>= _) _ _ s
  refine wpAny_bind (wpAny_fieldsOf hit rfl ?_)
  show wpAny _ _ (setEntries a >>= _) _ _ s
  unfold setEntries
  refine wpAny_bind (wpAny_bind (wpAny_setState_of hset ho hf (wpAny_pure ?_)))
  simp only [bne_self_eq_false, Bool.false_eq_true, if_false]
  show wpAny _ _ (setNext a 0 j ep >>= _) _ _ s
  unfold setNext
  refine wpAny_bind ?_
  refine wpAny_bind (wpAny_setState_of hset ho hf ?_)
  dsimp only
  refine wpAny_bind (byText_ hb ?_)
  simp only [if_true, bne_self_eq_false, Bool.false_eq_true, if_false]
  refine wpAny_bind (walk_text hb hset ho hf (wpAny_pure ?_))
  rw [List.getElem?_map] at hv
  obtain ⟨e, he, rfl⟩ := Option.map_eq_some_iff.mp hv
  rw [Array.getElem?_toList] at he
  rw [he]
  show wpAny _ _ (do setField (.ref It) 0 (.int 0 0); setField (.ref It) 1 (.int ((j : Int) + 1) 0); ret e.2) _ _ s
  refine wpAny_bind (wpAny_setField hit rfl (by simp) ?_)
  have g1 := Heap.get?_update_self (Obj.mapFields (·.setIfInBounds 0 (.int 0 0))) hit rfl
  refine wpAny_bind (wpAny_setField g1 rfl (by simp [Obj.mapFields]) ?_)
  have g2 := Heap.get?_update_self (Obj.mapFields (·.setIfInBounds 1 (.int ((j : Int) + 1) 0))) g1 rfl
  refine wpAny_pure ⟨_, rfl, wpAny_pure (h _ g2 ((Heap.SameBut.update ..).trans (Heap.SameBut.update ..)))⟩

theorem stop_ {α : Type} {QX : α → Shared → Prop} {Q : Option Value → Shared → Prop} (hh : A.handled = none) (h : ∀ h', (∀ b o, s.heap.get? b = some o → h'.get? b = some o) → Q none { s with heap := h' }) :
    wpAny (model prog w) A.in1 (newExc (.type "StopIteration") [] >>= fun e => (raiseNew e : Sem α)) QX (fun e s' => wpAny (model prog w) A (isInstance e (.type "StopIteration") >>= fun b => if b = true then pure none else throw e) Q E s') s := by
  refine wpAny_bind ?_
  simp only [newExc, newTuple]
  refine wpAny_bind (wpAny_newObj_type ?_ (by size_fits))
  refine wpAny_bind (m := firstArgMember _ _) (wpAny_of_eq (a := Value.none) (by first | rfl | (simp only [firstArgMember]; rfl)) ?_)
  refine wpAny_newObj_type ?_ (by size_fits)
  simp only [raiseNew]
  refine wpAny_bind (wpAny_handled ?_)
  rw [show A.in1.handled = none from hh]
  refine wpAny_bind (wpAny_pure (wpAny_throw ?_))
  refine wpAny_bind (wpAny_isInstance (T := "StopIteration") (b := true) ⟨_, Heap.get?_push_size _ rfl, rfl⟩ isSubtype_stop ?_)
  exact wpAny_pure (h _ fun b o e => Heap.get?_push_of_some _ (Heap.get?_push_of_some _ e))

theorem end_text {It a : Addr} {o : Obj} {es : Array (Int × Value)} {ep : Nat} {t : SetTable} (hh : A.handled = none) (hb : w.params.followText "set-order" = true ∨ es.size = 0) (ho : o.data = .set es ep t) (hf : t.fits es.size = true)
    {Q : Option Value → Shared → Prop} (hit : s.heap.get? It = some (sIter (.int 0 0) es.size a es.size ep)) (hset : s.heap.get? a = some o)
    (h : ∀ h', Heap.ExtBut It s.heap h' → Q none { s with heap := h' }) :
    wpAny (model prog w) A (pyNext (.ref It)) Q E s := by
  have hT : s.TypeIs (.ref It) "set_iterator" := ⟨_, hit, rfl⟩
  unfold pyNext
  refine wpAny_bind (wpAny_attempt (wpAny_callSpecial?_slot (name := Str.ofString "__next__") hT slot_setiter_next
    (wpAny_call_entry slot_setiter_next hT entry_setiter_next ?_ (args_setiter_next _))))
  show wpAny _ _ (fieldsOf (.ref It) >>= _) _ _ s
  refine wpAny_bind (wpAny_fieldsOf hit rfl ?_)
  show wpAny _ _ (setEntries a >>= _) _ _ s
  unfold setEntries
  refine wpAny_bind (wpAny_bind (wpAny_setState_of hset ho hf (wpAny_pure ?_)))
  simp only [bne_self_eq_false, Bool.false_eq_true, if_false]
  show wpAny _ _ (setNext a 0 es.size ep >>= _) _ _ s
  have stop : wpAny (model prog w) A.in1 (do setField (.ref It) 2 Value.none; let e ← newExc (.type "StopIteration") []; (raiseNew e : Sem Fin)) (fun fin s' => ∃ v, fin = .done (.ret v) ∧ wpAny (model prog w) A (pure (some v)) Q E s')
      (fun e s' => wpAny (model prog w) A (isInstance e (.type "StopIteration") >>= fun b => if b = true then pure none else throw e) Q E s') s := by
    refine wpAny_bind (wpAny_setField hit rfl (by simp) ?_)
    refine stop_ hh fun h' hk => h _ fun b o hb e => hk b o ((Heap.SameBut.update ..).extBut b o hb e)
  unfold setNext
  refine wpAny_bind ?_
  refine wpAny_bind (wpAny_setState_of hset ho hf ?_)
  dsimp only
  cases hbt : w.params.followText "set-order" with
  | true =>
    refine wpAny_bind (byText_ hbt ?_)
    simp only [if_true, bne_self_eq_false, Bool.false_eq_true, if_false]
    refine wpAny_bind (walk_text hbt hset ho hf (wpAny_pure ?_))
    have hnone : (pickOrder (w.params.setOrder a ep) es)[es.size]? = none := by
      rw [Array.getElem?_eq_none_iff, ← Array.length_toList, (pickOrder_perm _ es).length_eq, Array.length_toList]
      exact Nat.le_refl _
    rw [hnone]
    exact stop
  | false =>
    refine wpAny_bind (byText_ hbt ?_)
    have h0 : es.size = 0 := by rcases hb with h | h; · rw [h] at hbt; cases hbt
                                · exact h
    have hes : es = #[] := Array.eq_empty_of_size_eq_zero h0
    subst hes
    rw [if_neg (by decide)]
    split
    · rename_i hd
      replace hd : (!t.plain && decide ((#[] : Array (Int × Value)).size > 1)) = true := hd
      simp at hd
    · refine wpAny_bind (wpAny_of_eq (a := ()) (show (if (!t.led && !(#[] : Array (Int × Value)).isEmpty) = true then (unsupported "set:maker-not-led" : Sem Unit) else pure ()) = pure () by simp) (wpAny_pure ?_))
      exact stop

/-- drawn: the places lie in a tuple beside -/
theorem next_drawn {It a P : Addr} {o : Obj} {es : Array (Int × Value)} {ep : Nat} {t : SetTable} {ps : List Nat} {k : Nat} (ho : o.data = .set es ep t) (hf : t.fits es.size = true)
    {j : Nat} {v : Value} {Q : Option Value → Shared → Prop} (hv : (ps.filterMap fun p => es[p]?.map (·.2))[j]? = some v) (hps : ∀ p ∈ ps, p < es.size)
    (hit : s.heap.get? It = some (sIter (.ref P) j a es.size ep)) (hset : s.heap.get? a = some o) (hP : s.heap.get? P = some { cls := .type "tuple", data := .seq (ps.map fun (i : Nat) => Value.int (i : Int) 0).toArray k })
    (h : ∀ h', h'.get? It = some (sIter (.ref P) (j + 1) a es.size ep) → Heap.SameBut It s.heap h' → Q (some v) { s with heap := h' }) :
    wpAny (model prog w) A (pyNext (.ref It)) Q E s := by
  have hT : s.TypeIs (.ref It) "set_iterator" := ⟨_, hit, rfl⟩
  have hmap : (ps.filterMap fun p => es[p]?.map (·.2)) = ps.map fun p => (es[p]?.map (·.2)).getD .none := by
    clear hv hP
    induction ps with
    | nil => rfl
    | cons p r ih =>
      have hp := hps p (List.mem_cons_self ..)
      rw [List.filterMap_cons, List.map_cons, Array.getElem?_eq_getElem hp]
      dsimp only [Option.map_some, Option.getD_some]
      rw [ih fun q hq => hps q (List.mem_cons_of_mem _ hq)]
  rw [hmap, List.getElem?_map] at hv
  obtain ⟨p, hp, rfl⟩ := Option.map_eq_some_iff.mp hv
  have hplt : p < es.size := hps p (List.mem_of_getElem? hp)
  unfold pyNext
  refine wpAny_bind (wpAny_attempt (wpAny_callSpecial?_slot (name := Str.ofString "__next__") hT slot_setiter_next
    (wpAny_call_entry slot_setiter_next hT entry_setiter_next ?_ (args_setiter_next _))))
  show wpAny _ _ (fieldsOf (.ref It) >>= _) _ _ s
  refine wpAny_bind (wpAny_fieldsOf hit rfl ?_)
  show wpAny _ _ (setEntries a >>= _) _ _ s
  unfold setEntries
  refine wpAny_bind (wpAny_bind (wpAny_setState_of hset ho hf (wpAny_pure ?_)))
  simp only [bne_self_eq_false, Bool.false_eq_true, if_false]
  show wpAny _ _ (seqItems? (.ref P) >>= _) _ _ s
  refine wpAny_bind (wpAny_seqItems hP rfl ?_)
  dsimp only
  have hpl : ((ps.map fun (i : Nat) => Value.int (i : Int) 0).toArray)[((j : Int)).toNat]? = some (.int (p : Int) 0) := by
    rw [Int.toNat_natCast, List.getElem?_toArray, List.getElem?_map, hp]; rfl
  rw [hpl]
  dsimp only
  unfold setNextDrawn
  refine wpAny_bind (wpAny_bind (wpAny_setState_of hset ho hf ?_))
  simp only [Int.toNat_natCast, bne_self_eq_false, Bool.false_eq_true, if_false]
  rw [Array.getElem?_eq_getElem hplt]
  dsimp only
  refine wpAny_pure ?_
  simp only [Array.getElem?_eq_getElem hplt, Option.map_some, Option.getD_some] at h
  refine wpAny_bind (wpAny_setField hit rfl (by simp) ?_)
  have g1 := Heap.get?_update_self (Obj.mapFields (·.setIfInBounds 1 (.int ((j : Int) + 1) 0))) hit rfl
  refine wpAny_pure ⟨_, rfl, wpAny_pure (h _ g1 (Heap.SameBut.update ..))⟩

theorem end_drawn {It a P : Addr} {o : Obj} {es : Array (Int × Value)} {ep : Nat} {t : SetTable} {ps : List Nat} {k : Nat} (hh : A.handled = none) (ho : o.data = .set es ep t) (hf : t.fits es.size = true)
    {Q : Option Value → Shared → Prop} (hit : s.heap.get? It = some (sIter (.ref P) ps.length a es.size ep)) (hset : s.heap.get? a = some o) (hP : s.heap.get? P = some { cls := .type "tuple", data := .seq (ps.map fun (i : Nat) => Value.int (i : Int) 0).toArray k })
    (h : ∀ h', Heap.ExtBut It s.heap h' → Q none { s with heap := h' }) :
    wpAny (model prog w) A (pyNext (.ref It)) Q E s := by
  have hT : s.TypeIs (.ref It) "set_iterator" := ⟨_, hit, rfl⟩
  unfold pyNext
  refine wpAny_bind (wpAny_attempt (wpAny_callSpecial?_slot (name := Str.ofString "__next__") hT slot_setiter_next
    (wpAny_call_entry slot_setiter_next hT entry_setiter_next ?_ (args_setiter_next _))))
  show wpAny _ _ (fieldsOf (.ref It) >>= _) _ _ s
  refine wpAny_bind (wpAny_fieldsOf hit rfl ?_)
  show wpAny _ _ (setEntries a >>= _) _ _ s
  unfold setEntries
  refine wpAny_bind (wpAny_bind (wpAny_setState_of hset ho hf (wpAny_pure ?_)))
  simp only [bne_self_eq_false, Bool.false_eq_true, if_false]
  show wpAny _ _ (seqItems? (.ref P) >>= _) _ _ s
  refine wpAny_bind (wpAny_seqItems hP rfl ?_)
  dsimp only
  have hpl : ((ps.map fun (i : Nat) => Value.int (i : Int) 0).toArray)[((ps.length : Int)).toNat]? = none := by
    rw [Int.toNat_natCast, List.getElem?_toArray, List.getElem?_map, List.getElem?_eq_none (Nat.le_refl _)]; rfl
  rw [hpl]
  dsimp only
  refine wpAny_bind (wpAny_setField hit rfl (by simp) ?_)
  have g1 := Heap.get?_update_self (Obj.mapFields (·.setIfInBounds 0 (rawInt 0))) hit rfl
  refine wpAny_bind (wpAny_setField g1 rfl (by simp [Obj.mapFields]) ?_)
  exact stop_ hh fun h' hk => h _ fun b o hb e => hk b o ((Heap.SameBut.update ..).extBut b o hb ((Heap.SameBut.update ..).extBut b o hb e))
end
end
section
section
variable {prog : Program} {w : World} {A : Around} {E : Value → Shared → Prop} {s : Shared}

structure WalkOf (prog : Program) (w : World) (a : Addr) (o : Obj) (It : Addr) (iobj : Nat → Obj) (fixO : List (Addr × Obj)) (items : List Value) : Prop where
  item : ∀ (A : Around) (j : Nat) v (s' : Shared) Q E', items[j]? = some v → s'.heap.get? It = some (iobj j) → (∀ p ∈ [(a, o)] ++ fixO, s'.heap.get? p.1 = some p.2) →
      (∀ h', h'.get? It = some (iobj (j + 1)) → Heap.SameBut It s'.heap h' → Q (some v) { s' with heap := h' }) → wpAny (model prog w) A (pyNext (.ref It)) Q E' s'
  fin : ∀ (A : Around) (s' : Shared) Q E', A.handled = none → s'.heap.get? It = some (iobj items.length) → (∀ p ∈ [(a, o)] ++ fixO, s'.heap.get? p.1 = some p.2) → (∀ h', Heap.ExtBut It s'.heap h' → Q none { s' with heap := h' }) → wpAny (model prog w) A (pyNext (.ref It)) Q E' s'

theorem elems_strs {es : List (Int × Value)} (h : ElemsOf (PySem.strKind prog w) es) : ∃ xs, StrsAre (es.map (·.2)) xs ∧ ∀ k, (∃ e ∈ es, (PySem.strKind prog w).is k e.2 = true) ↔ k ∈ xs := by
  induction es with
  | nil => exact ⟨[], .nil, fun k => by simp⟩
  | cons e r ih =>
    obtain ⟨xs, h1, h2⟩ := ih fun x hx => h x (List.mem_cons_of_mem _ hx)
    obtain ⟨⟨k, hk, _⟩, _⟩ := h e (List.mem_cons_self ..)
    obtain ⟨t, ht⟩ := Value.isStrOf_shape hk
    refine ⟨k :: xs, ?_, fun k' => ?_⟩
    · rw [List.map_cons, ht]; exact .cons _ _ h1
    · constructor
      · rintro ⟨x, hx, hxk⟩
        rcases List.mem_cons.mp hx with rfl | hx
        · exact List.mem_cons.mpr (.inl ((PySem.strKind prog w).inj _ _ _ hxk hk))
        · exact List.mem_cons_of_mem _ ((h2 k').mp ⟨x, hx, hxk⟩)
      · intro hx
        rcases List.mem_cons.mp hx with rfl | hx
        · exact ⟨e, List.mem_cons_self .., hk⟩
        · obtain ⟨x, hx, hxk⟩ := (h2 k').mpr hx
          exact ⟨x, List.mem_cons_of_mem _ hx, hxk⟩

theorem elems_perm {es es' : List (Int × Value)} (p : es'.Perm es) (h : ElemsOf (PySem.strKind prog w) es) : ElemsOf (PySem.strKind prog w) es' := fun e he => h e (p.mem_iff.mp he)

theorem map_getD {es : Array (Int × Value)} : (List.range es.size).filterMap (fun p => es[p]?.map (·.2)) = es.toList.map (·.2) := by
  have e : ∀ l : List Nat, (∀ p ∈ l, p < es.size) → l.filterMap (fun p => es[p]?.map (·.2)) = l.map (fun p => ((es[p]?).getD (0, .none)).2) := by
    intro l
    induction l with
    | nil => intro _; rfl
    | cons p r ih =>
      intro h
      have hp := h p (List.mem_cons_self ..)
      rw [List.filterMap_cons, List.map_cons, Array.getElem?_eq_getElem hp]
      dsimp only [Option.map_some, Option.getD_some]
      rw [ih fun q hq => h q (List.mem_cons_of_mem _ hq)]
  rw [e _ fun p hp => List.mem_range.mp hp]
  apply List.ext_getElem?
  intro i
  rw [List.getElem?_map, List.getElem?_map]
  rcases Nat.lt_or_ge i es.size with h | h
  · simp [h]
  · simp [h]

theorem strs_perm {vs ws : List Value} (p : ws.Perm vs) : ∀ {xs : List Str}, StrsAre vs xs → ∃ ys, StrsAre ws ys ∧ ∀ k, k ∈ ys ↔ k ∈ xs := by
  induction p with
  | nil => intro xs h; exact ⟨xs, h, fun _ => Iff.rfl⟩
  | cons x p ih =>
    intro xs h
    cases h with
    | cons y t h' =>
      obtain ⟨ys, h1, h2⟩ := ih h'
      exact ⟨y :: ys, .cons _ _ h1, fun k => by simp [h2 k]⟩
  | swap x y l =>
    intro xs h
    cases h with
    | cons a t h' =>
      cases h' with
      | cons b u h'' => exact ⟨b :: a :: _, .cons _ _ (.cons _ _ h''), fun k => by simp [or_left_comm]⟩
  | trans p q ih1 ih2 =>
    intro xs h
    obtain ⟨ys, a1, a2⟩ := ih2 h
    obtain ⟨zs, b1, b2⟩ := ih1 a1
    exact ⟨zs, b1, fun k => (b2 k).trans (a2 k)⟩

theorem iter_strset {a : Addr} {S : Str → Bool} {n : Nat} {Q : Value → Shared → Prop} (hS : StrSet prog w s.heap a S n) (hn : n ≤ 4000) (h2 : (∃ k1 k2, k1 ≠ k2 ∧ S k1 = true ∧ S k2 = true) ∨ ∀ k, S k = false)
    (h : ∀ (o : Obj) (It : Addr) (iobj : Nat → Obj) (fixO : List (Addr × Obj)) (items : List Value) (xs : List Str) (h' : Heap) (dr : _), s.heap.get? a = some o → WalkOf prog w a o It iobj fixO items → StrsAre items xs → (∀ k, S k = true ↔ k ∈ xs) →
      h'.get? It = some (iobj 0) → s.heap.objs.size ≤ It → (∀ q ∈ fixO, s.heap.objs.size ≤ q.1 ∧ q.1 ≠ It ∧ h'.get? q.1 = some q.2) → (∀ b o, s.heap.get? b = some o → h'.get? b = some o) → Q (.ref It) { s with heap := h', drawn := dr }) :
    wpAny (model prog w) A (pyIter (.ref a)) Q E s := by
  obtain ⟨o, es, ep, t, ho, hex, hd, hel, hm, hsz, hf, hpl⟩ := hS
  have hT : s.TypeIs (.ref a) "set" := ⟨o, ho, hex.1⟩
  have h2' : es.size = 0 ∨ 1 < es.size := by
    rcases h2 with ⟨k1, k2, hne, h1, h2⟩ | h2
    · right
      obtain ⟨e1, m1, i1⟩ := (hm k1).mp h1
      obtain ⟨e2, m2, i2⟩ := (hm k2).mp h2
      rcases Nat.lt_or_ge 1 es.size with hl | hl
      · exact hl
      · exfalso
        rw [← Array.length_toList] at hl
        have : e1 = e2 := by
          generalize es.toList = l at hl m1 m2
          rcases l with _ | ⟨x, _ | ⟨y, r⟩⟩
          · cases m1
          · rw [List.mem_singleton.mp m1, List.mem_singleton.mp m2]
          · simp at hl
        subst this
        exact hne ((PySem.strKind prog w).inj _ _ _ i1 i2)
    · left
      rcases Nat.eq_zero_or_pos es.size with h0 | h0
      · exact h0
      · exfalso
        have hmem : es[0] ∈ es.toList := by simp
        obtain ⟨⟨k, hk, _⟩, _⟩ := hel _ hmem
        have := (hm k).mpr ⟨_, hmem, hk⟩
        rw [h2 k] at this; cases this
  refine wpAny_pyIter_slot hT PySem.F.slot_set_iter (wpAny_call_entry PySem.F.slot_set_iter hT entry_set_iter ?_ (PySem.F.args_set_iter_1 _))
  show wpAny _ _ (Builtin.Frozenset.sizeOf a >>= _) _ _ s
  unfold Builtin.Frozenset.sizeOf setEntries
  refine wpAny_bind (wpAny_bind (wpAny_bind (wpAny_setState_of ho hd hf (wpAny_pure (wpAny_pure ?_)))))
  refine wpAny_bind ?_
  unfold setDrawn
  refine wpAny_bind (wpAny_setState_of ho hd hf ?_)
  dsimp only
  refine wpAny_bind (byText_ rfl (wpAny_pure ?_))
  have tail : ∀ (first : Value) (h1 : Heap) dr, (∀ b o, s.heap.get? b = some o → h1.get? b = some o) → (h1.objs.size ≥ s.heap.objs.size) →
      (∀ h', h'.get? h1.objs.size = some (sIter first 0 a es.size ep) → (∀ b o, h1.get? b = some o → h'.get? b = some o) → Q (.ref h1.objs.size) { s with heap := h', drawn := dr }) →
      wpAny (model prog w) A.in1 (setEpoch a >>= fun x => newFields "set_iterator" [first, rawInt 0, .ref a, rawInt es.size, rawInt x] >>= fun y => ret y)
        (fun fin s' => ∃ v, fin = .done (.ret v) ∧ ∃ T' r, s'.TypeIs v T' ∧ typeLookup (.type T') "__next__" = pure (some r) ∧ Q v s') E { s with heap := h1, drawn := dr } := by
    intro first h1 dr hk hge hQ
    unfold setEpoch newFields
    refine wpAny_bind (wpAny_bind (wpAny_setState_of (hk _ _ ho) hd hf (wpAny_pure ?_)))
    refine wpAny_bind (wpAny_newObj_type ?_ (by size_fits))
    refine wpAny_pure ⟨_, rfl, "set_iterator", _, ⟨_, Heap.get?_push_size _ rfl, rfl⟩, slot_setiter_next.lookup, ?_⟩
    exact hQ _ (Heap.get?_push_size _ rfl) fun b o e => Heap.get?_push_of_some _ e
  by_cases hdr : w.params.followText "set-order" = true ∨ es.size = 0
  · split
    · rename_i hc
      replace hc : (!w.params.followText "set-order" && (!t.plain && decide (es.size > 1))) = true := hc
      exfalso
      rcases hdr with h | h
      · rw [h] at hc; simp at hc
      · rw [h] at hc; simp at hc
    · refine wpAny_bind (wpAny_pure ?_)
      refine tail (.int 0 0) s.heap s.drawn (fun _ _ e => e) (Nat.le_refl _) fun h' hi hk => ?_
      by_cases hb : w.params.followText "set-order" = true
      · have hp := pickOrder_perm (w.params.setOrder a ep) es
        obtain ⟨xs, x1, x2⟩ := elems_strs (elems_perm hp hel)
        refine h o s.heap.objs.size (fun j => sIter (.int 0 0) j a es.size ep) [] ((pickOrder (w.params.setOrder a ep) es).toList.map (·.2)) xs h' s.drawn ho ⟨?_, ?_⟩ x1 ?_ hi (Nat.le_refl _) (fun q hq => by cases hq) hk
        · exact fun A j v s' Q E' hv hit fix h => next_text hb hd hf hv hit (fix (a, o) (by simp)) h
        · intro A s' Q E' hh hit fix h
          rw [List.length_map, hp.length_eq, Array.length_toList] at hit
          exact end_text hh (.inl hb) hd hf hit (fix (a, o) (by simp)) h
        · intro k
          rw [hm k, ← x2 k]
          exact ⟨fun ⟨e, h1, h2⟩ => ⟨e, hp.mem_iff.mpr h1, h2⟩, fun ⟨e, h1, h2⟩ => ⟨e, hp.mem_iff.mp h1, h2⟩⟩
      · have h0 : es.size = 0 := hdr.resolve_left hb
        refine h o s.heap.objs.size (fun j => sIter (.int 0 0) j a es.size ep) [] [] [] h' s.drawn ho ⟨?_, ?_⟩ .nil ?_ hi (Nat.le_refl _) (fun q hq => by cases hq) hk
        · intro A j v s' Q E' hv; cases hv
        · intro A s' Q E' hh hit fix h
          exact end_text hh (.inr h0) hd hf (by rw [h0] at hit ⊢; exact hit) (fix (a, o) (by simp)) h
        · intro k
          rw [hm k]
          rw [Array.eq_empty_of_size_eq_zero h0]
          simp
  · obtain ⟨hb, h0⟩ := not_or.mp hdr
    split
    · refine wpAny_bind (wpAny_drawOrder es.size (List.range es.size) s (by simp) fun ps dr hp => ?_)
      refine wpAny_bind (wpAny_newTuple ?_ (by rw [List.length_map, hp.length_eq, List.length_range]; exact Nat.le_trans hsz (Nat.le_trans hn (by decide))))
      refine tail (.ref s.heap.objs.size) _ dr (fun _ _ e => Heap.get?_push_of_some _ e) (by rw [Heap.size_push]; exact Nat.le_succ _) fun h' hi hk => ?_
      have hps : ∀ p ∈ ps, p < es.size := fun p hpm => List.mem_range.mp (hp.mem_iff.mp hpm)
      have hq := (hp.filterMap fun p => es[p]?.map (·.2))
      rw [map_getD] at hq
      obtain ⟨xs0, y1, y2⟩ := elems_strs hel
      obtain ⟨xs, x1, x2⟩ := strs_perm hq y1
      have hlen : (ps.filterMap fun p => es[p]?.map (·.2)).length = ps.length := by
        rw [hq.length_eq, List.length_map, Array.length_toList, hp.length_eq, List.length_range]
      refine h o _ (fun j => sIter (.ref s.heap.objs.size) j a es.size ep) [(s.heap.objs.size, { cls := .type "tuple", data := .seq (ps.map fun (i : Nat) => Value.int (i : Int) 0).toArray })] (ps.filterMap fun p => es[p]?.map (·.2)) xs h' dr ho ⟨?_, ?_⟩ x1 ?_ hi ?_ ?_ ?_
      · exact fun A j v s' Q E' hv hit fix h => next_drawn hd hf hv hps hit (fix (a, o) (by simp)) (fix _ (List.mem_cons_of_mem _ (List.mem_cons_self ..))) h
      · intro A s' Q E' hh hit fix h
        rw [hlen] at hit
        exact end_drawn hh hd hf hit (fix (a, o) (by simp)) (fix _ (List.mem_cons_of_mem _ (List.mem_cons_self ..))) h
      · intro k
        rw [hm k, y2 k, x2 k]
      · rw [Heap.size_push]; exact Nat.le_succ _
      · intro q hq
        rw [List.mem_singleton.mp hq]
        refine ⟨Nat.le_refl _, ?_, hk _ _ (Heap.get?_push_size _ rfl)⟩
        rw [Heap.size_push]; exact Nat.ne_of_lt (Nat.lt_succ_self _)
      · exact fun b o e => hk _ _ (Heap.get?_push_of_some _ e)
    · rename_i hc
      refine absurd ?_ hc
      show (!w.params.followText "set-order" && (!t.plain && decide (es.size > 1))) = true
      rw [Bool.eq_false_iff.mpr hb, hpl.resolve_left h0, decide_eq_true (h2'.resolve_left h0)]
      rfl
end
end
section
/-- rows for the walk -/
theorem rows_M16_1 : True := by
  w_top off
  k_with_none
  k_with "mine enterK" => ( (refine' fn_callN (by assumption) (by assumption) (by assumption) ?k6 ?k7 ?k8 ?k9 ?kB ?c2 ?c3 ?c4 ?c5 ?_); (case k6 => k_is); (case k7 => k_is); (case k8 => decide); (case k9 => exact binds_K (Gr.keeps (by assumption) (by assumption)).X rfl (by k_is) rfl rfl rfl); (case kB => exact locs rfl); (case c2 => exact rfl); (case c3 => exact rfl); (case c4 => exact rfl); (case c5 => decide))
  trivial
theorem under_tc {d u : Nat} {C : Addr} {rest : List Value} {kw : List (Str × Value)} : Rm (d + 1) (u + 1) = (Rm d u).under (.builtin "type.__call__" ⟨.ref C :: rest, kw⟩) := by
  have h1 : (Code.builtin "type.__call__" ⟨.ref C :: rest, kw⟩).weight = 1 := by first | rfl | kernel_rfl
  have h2 : (Code.builtin "type.__call__" ⟨.ref C :: rest, kw⟩).cUnits = 1 := by first | rfl | kernel_rfl
  unfold Rm Around.under
  rw [h1, h2]
  rfl
theorem make_new {w : World} {d u : Nat} {mean mg mb} {s : Shared} {C : Addr} {fI : Addr} {rest : List Value} {kw : List (Str × Value)} {Q : Value → Shared → Prop} {E : Value → Shared → Prop}
    (G : Gr w mean mg mb s.heap) (hm : makesIn (hd.heap_39 w.params) C = true) (hi : findIn (hd.heap_39 w.params) (.ref C) "__init__" = some (some (.ref fI))) (hf : isFn (hd.heap_39 w.params) (.ref fI) = true)
    (h : ∀ x dx h', (∀ b o, s.heap.get? b = some o → h'.get? b = some o) → (∀ p ∈ [(x, instObj C dx), (dx, dictOf [] 0)], h'.get? p.1 = some p.2 ∧ s.heap.get? p.1 = none) → dx < x →
      codeAny (model PySem.Challenge.rw_mr0159_01.row.prog w) (Rm (d + 1) (u + 1)) (.call (.ref fI) ⟨.ref x :: rest, kw⟩) (InitBack x fun r s' => match r with | .ok (.ret v) => Q v s' | .ok _ => False | .error e => E e s') { s with heap := h' }) :
    wpAny (model PySem.Challenge.rw_mr0159_01.row.prog w) (Rm d u) (call (.ref C) rest kw) Q E s := by
  have X := G.X
  obtain ⟨hh, g, dr, t, os⟩ := s
  have old : ∀ b, hh.objs.size ≤ b → hh.get? b = none := fun b hb => by
    cases e : hh.get? b with
    | none => rfl
    | some o => exact absurd (Heap.lt_size e) (Nat.not_lt.mpr hb)
  refine wpAny_call (make_core (makes_of X hm) (looks_findIn X hi) (fun self => bind_fn X self (beq_iff_eq.mp hf)) (.inl rfl) (under_tc ▸ h _ hh.objs.size _ (fun b o e => Heap.get?_push_of_some _ (Heap.get?_push_of_some _ e)) ?_ (Nat.lt_succ_self _)))
  intro p hp
  rcases List.mem_cons.mp hp with rfl | hp
  · refine ⟨?_, old _ (Nat.le_succ _)⟩
    have := Heap.get?_push_size (o := instObj C hh.objs.size) (hh.push { cls := .type "dict", data := .dict #[] }) rfl
    rwa [Heap.size_push] at this
  · rw [List.mem_singleton.mp hp]
    exact ⟨Heap.get?_push_of_some _ (Heap.get?_push_size _ rfl), old _ (Nat.le_refl _)⟩


section
variable {M : Model} {A : Around} {E : Value → Shared → Prop} {s : Shared} {h₀ : Heap} {m : Str → Option Value} {scope : Scope} {cl : List (Str × Addr)} {C : Addr} {env b : Env}
/-- a name of a comprehension's own block -/
theorem comp_name {x : Str} {pos : Pos} {v : Value} {Q : Value → Shared → Prop} (hb : b = compEnvC scope cl C env) (F : Fr h₀ C s.heap m) (hv : m x = some v) (h : Q v s)
    (hk : (compEnvC scope cl C env).scope.kind = .function) (hx : (compEnvC scope cl C env).kindOf x = some .local) (hd : (x == ("__debug__" : Str)) = false) :
    wpAny M A (eval (.Name x pos) b) Q E s := by
  subst hb
  exact wpAny_Name (wpAny_loadName_local hk hx F.ns hv h) hd
theorem comp_glob {K : Frag} {mg mb : Str → Option Value} {p : Program} {loose : List Str} {x : Str} {pos : Pos} {v : Value} {Q : Value → Shared → Prop} (hb : b = compEnvC scope cl C env) (F : Fr h₀ C s.heap m) (X : K.In h₀) (T : TopRead p loose mg mb h₀)
    (e : nsIn K mainGlobals x = some (some v)) (h : Q v s) (hg : (compEnvC scope cl C env).globals = mainGlobals) (hk : (compEnvC scope cl C env).scope.kind = .function) (hx : (compEnvC scope cl C env).kindOf x = some .globalImplicit) (hd : (x == ("__debug__" : Str)) = false) :
    wpAny M A (eval (.Name x pos) b) Q E s := by
  subst hb
  exact nameG_K F X T e h hg hk hx hd
theorem comp_set {x : Str} {pos : Pos} {v : Value} {Q : Unit → Shared → Prop} {news : List (Addr × Obj)} (hb : b = compEnvC scope cl C env) (F : Fr h₀ C s.heap m) (N : News h₀ C s.heap news)
    (h : ∀ h', Fr h₀ C h' (fun y => if y = x then some v else m y) → News h₀ C h' news → Heap.SameBut C s.heap h' → Q () { s with heap := h', toks := s.toks + 1 })
    (hx : (compEnvC scope cl C env).kindOf x = some .local) (hp : ((compEnvC scope cl C env).scope.kind == .class || ((compEnvC scope cl C env).scope.kind == .module && (compEnvC scope cl C env).locals != (compEnvC scope cl C env).globals)) = false) :
    wpAny M A (assign (.Name x pos) b v) Q E s := by
  subst hb
  exact wpAny_assign_Name (wpAny_storeName_local hx F.ns (fun h' hn hs => h h' (F.set hn hs) (N.set hs) hs) hp)
end
section
variable {prog : Program} {w : World} {A : Around} {E : Value → Shared → Prop} {env : Env}
theorem comp_listB {elt target iter : Expr} {ifs : List Expr} {scope : Scope} {cl : List (Str × Addr)} {pos : Pos} {s₁ : Shared} {l : Addr} {items : List Value} {wr : List Addr} {Q : Value → Shared → Prop}
    (hh : A.handled = none) (hl : s₁.heap.IsList l items.toArray) (hsz : items.length ≤ sizeLine) (hcell : ∀ y ∈ scope.names, y.2 ≠ .cell) (hkind : scope.kind = .function) (hwr : ∀ b ∈ wr, b < s₁.heap.objs.size ∧ b ≠ l)
    (J : Nat → List Value → Shared → Prop) (h0 : J 0 [] s₁)
    (hJ : ∀ i ys (s s' : Shared), J i ys s → (∀ b o, b < s₁.heap.objs.size → s.heap.get? b = some o → s'.heap.get? b = some o) → s'.os = s.os → s'.gens = s.gens → J i ys s')
    (turn : ∀ (i : Nat) v ys I C (s₃ : Shared) m₃ E' b, b = compEnvC scope cl C env → items[i]? = some v → J i ys s₃ → Fr (hideAll s₁.heap wr) C s₃.heap m₃ → s₃.heap.IsListIter I l (i + 1) → s₁.heap.objs.size < C →
      wpAny (model prog w) A (letOwnedTupleGo target (.ref I) v) (fun _ s₃' => wpAny (model prog w) A (assign target b v) (fun _ s₄ => wpAny (model prog w) A (testsOf ifs b) (fun ok s₅ =>
        if ok = true then wpAny (model prog w) A (eval elt b) (fun y s₆ => CompStep C wr (J (i + 1)) ys s₃ (some y) s₆) E' s₅
        else CompStep C wr (J (i + 1)) ys s₃ none s₅) E' s₄) E' s₃') E' s₃)
    (done : ∀ D (s' : Shared) ys k, J items.length ys s' → s₁.heap.get? D = none → s'.heap.get? D = some (W.listOf ys.toArray k) → (∀ b o, b ∉ wr → s₁.heap.get? b = some o → s'.heap.get? b = some o) → Q (.ref D) s') :
    wpAny (model prog w) A (pyIter (.ref l)) (fun it s₂ => wpAny (model prog w) A (newList []) (fun acc s₃ => wpAny (model prog w) A (newFunctionEnv scope env.globals cl [] env.qual none .none (some env)) (fun cenv s₄ =>
      codeAny (model prog w) A (.compStart (.ListComp elt [⟨target, iter, ifs, 0⟩] scope pos) 0 it acc { cenv with scope := relabel scope env }) (compPost (model prog w) A E none Q acc cenv.locals) s₄) E s₃) E s₂) E s₁ :=
  comp_list hh hl hsz hcell hkind hwr J h0 hJ (fun i v ys I C s₃ m₃ E' hv hj hC hn hk hit =>
    turn i v ys I C s₃ m₃ E' _ rfl hv hj ⟨hn, fun b o e => hk b o (fun hm => by rw [hideAll_none _ hm] at e; cases e) (of_hideAll _ e), by rw [hideAll_size]; exact Nat.le_of_lt hC⟩ hit hC) done
end
section
variable {M : Model} {A : Around} {E : Value → Shared → Prop} {s : Shared} {env : Env}
theorem call1 {K : Frag} {h₀ : Heap} {f x : Str} {p1 p2 pos : Pos} {a : Addr} {v : Value} {Q : Value → Shared → Prop} (X : K.In h₀) (hk : keepIn K (.ref a) = true) (hK : K.In s.heap)
    (hf : ∀ Q : Value → Shared → Prop, Q (.ref a) s → wpAny M A (eval (.Name f p1) env) Q E s) (hx : ∀ Q : Value → Shared → Prop, Q v s → wpAny M A (eval (.Name x p2) env) Q E s)
    (h : wpAny M A (call (.ref a) [v]) Q E s) : wpAny M A (eval (.Call (.Name f p1) [.Name x p2] [] pos) env) Q E s := by
  refine Call_ (hf _ ?_)
  refine callWith_K X hk ?_
  refine args_cons (hx _ ?_)
  exact args_nil ⟨hK, h⟩
end
/-- rows for the walk -/
theorem rows_M16_2 : True := by
  k_with "eval ListComp" => refine hold ?_
  trivial
theorem nilOf {h₀ L h m} (_ : Fr h₀ L h m) : News h₀ L h [] := News.nil
theorem hide_list {h : Heap} {l : Addr} {items : Array Value} {xs : List Addr} (hl : h.IsList l items) (hx : l ∉ xs) : (hideAll h xs).IsList l items := hl.at fun _ e => hideAll_get _ e hx
theorem hide_set {prog w} {h : Heap} {l : Addr} {S : Str → Bool} {n : Nat} {xs : List Addr} (hl : StrSet prog w h l S n) (hx : l ∉ xs) : StrSet prog w (hideAll h xs) l S n := hl.at fun _ e => hideAll_get _ e hx

/-- a table of ints under texts -/
def IntTab (kvs : List (Str × Value)) (f : Str → Option Int) : Prop := ∀ k, (f k = none ∧ valueAt kvs k = none) ∨ ∃ i t, f k = some i ∧ valueAt kvs k = some (.int i t)
/-- an _Ignore: its names, its directories, what it has told -/
structure Inst (w : World) (h : Heap) (x dx S D d : Addr) (xs ds : List Str) (n : Nat) (f : Str → Option Int) (z : Nat) : Prop where
  ox : h.get? x = some (instObj 79 dx)
  odx : ∃ t1 t2 t3, h.get? dx = some (dictOf [⟨PyData.keyHash w.params (Str.ofString "_mods"), .str (Str.ofString "_mods") t1, .ref S⟩, ⟨PyData.keyHash w.params (Str.ofString "_dirs"), .str (Str.ofString "_dirs") t2, .ref D⟩, ⟨PyData.keyHash w.params (Str.ofString "_ignore"), .str (Str.ofString "_ignore") t3, .ref d⟩] 3)
  oS : StrSet PySem.Challenge.rw_mr0159_01.row.prog w h S (fun k => xs.any (· == k)) n
  oD : ∃ vs k, h.get? D = some (W.listOf (List.toArray vs) k) ∧ StrsAre vs ds
  od : ∃ od kvs, h.get? d = some od ∧ od.IsDictOf (PySem.strKind PySem.Challenge.rw_mr0159_01.row.prog w) kvs ∧ IntTab kvs f ∧ kvs.length ≤ z
  dm : (d == sysModules) = false
  ne : d ≠ x ∧ d ≠ dx ∧ d ≠ S ∧ d ≠ D
def told0 : Str → Option Int := fun k => if k = Str.ofString "<string>" then some 1 else none
theorem tab0 {t : Tok} : IntTab [(Str.ofString "<string>", .int 1 t)] told0 := fun k => by
  unfold told0 valueAt
  by_cases e : k = Str.ofString "<string>"
  · right; exact ⟨1, t, if_pos e, by rw [List.find?_cons, decide_eq_true e.symm]; rfl⟩
  · left; refine ⟨if_neg e, ?_⟩; rw [List.find?_cons, decide_eq_false (Ne.symm e)]; rfl
def Fresh5 (h : Heap) (x dx S D d : Addr) : Prop := h.get? x = none ∧ h.get? dx = none ∧ h.get? S = none ∧ h.get? D = none ∧ h.get? d = none
def DirsJ (s₁ : Shared) (i : Nat) (ys : List Value) (s : Shared) : Prop := StrsAre ys ([Str.ofString "/p", Str.ofString "r"].take i) ∧ s.os = s₁.os ∧ (AllBare s₁.gens → AllBare s.gens)
theorem ignore_call2 {w : World} {A : Around} {mean mg mb} {s : Shared} {l dl : Addr} {Q : Value → Shared → Prop} {E : Value → Shared → Prop}
    {items : Array Value} {xs : List Str} {t1 t2 : Tok}
    (G : Gr w mean mg mb s.heap)
    (hl : s.heap.IsList l items) (hi : StrsAre items.toList xs) (hi0 : items.isEmpty = false) (hi1 : items.size < 1000) (hdl : s.heap.IsList dl #[.str (Str.ofString "/p/") t1, .str (Str.ofString "q/../r") t2])
    (hd : A.depth ≤ 660) (hu : A.units ≤ 500) (hh : A.handled = none)
    (h : ∀ s' x dx S D d, Kept s s' → Inst w s'.heap x dx S D d xs [Str.ofString "/p", Str.ofString "r"] items.size told0 1 → Fresh5 s.heap x dx S D d → Q (.ref x) s') :
    wpAny (model PySem.Challenge.rw_mr0159_01.row.prog w) A (call (.ref 79) [.ref l, .ref dl]) Q E s := by
  refine lower hh hd hu ?_
  clear hh hd hu A
  have X := G.X
  revert X; k_fill; intro X
  refine make_new G (by k_is) (by k_is) (by k_is) fun x dx h' hkb hn hxd => ?_
  walk_at "mine enterK"
  clear X
  intro g L h₁ hg X T hlt F N
  have no : ∀ b o, s.heap.get? b = some o → b ∉ List.map (fun x => x.fst) [(x, instObj 79 dx), (dx, dictOf [] 0)] := fun b o e hm => by
    obtain ⟨p, hp, rfl⟩ := List.mem_map.mp hm
    rw [(hn p hp).2] at e; cases e
  have kg : ∀ b o, s.heap.get? b = some o → g.get? b = some o := fun b o e => by rw [hg]; exact hideAll_get _ (hkb b o e) (no b o e)
  clear hg
  k_lt hlt
  try dsimp only
  try k_fold
  k_steps
  refine wpAny_truthy_list ((hl.at fun _ e => kg _ _ e).at fun _ e => F.keep _ _ e) (by omega) ?_
  rw [hi0]
  simp only [Bool.not_false, Bool.not_true, Bool.false_eq_true, if_false]
  k_steps
  rename Fr _ _ _ _ => F
  rename News _ _ _ _ => N
  refine call_set_strs rfl ((hl.at fun _ e => kg _ _ e).at fun _ e => F.keep _ _ e) hi (by unfold scanBound; omega) ?_
  intro h2 tk2 hS hk2
  dsimp only at hS hk2
  have hSn : h₁.get? h₁.objs.size = none := by
    cases e : h₁.get? h₁.objs.size with
    | none => rfl
    | some o => exact absurd (Heap.lt_size e) (Nat.lt_irrefl _)
  obtain ⟨oS, hoS, hSS⟩ : ∃ oS, h2.get? h₁.objs.size = some oS ∧ ∀ h', h'.get? h₁.objs.size = some oS → StrSet PySem.Challenge.rw_mr0159_01.row.prog w h' h₁.objs.size (fun k' => xs.any (· == k')) items.size := by
    obtain ⟨o, es, ep, t, ho, r⟩ := hS
    exact ⟨o, ho, fun h' e => ⟨o, es, ep, t, e, r⟩⟩
  clear hS
  have F2 := F.keeps hk2
  have N2 := news_new F (N.grown hk2) hk2 hSn hoS
  have l2 := allNe_of (news_ne N hSn)
  simp only [AllNe, and_true] at l2
  clear F N
  generalize h₁.objs.size = S at *
  k_lt2 hxd
  k_steps
  rename Fr _ _ _ _ => F
  refine wpAny_truthy_list ((hdl.at fun _ e => kg _ _ e).at fun _ e => F.keep _ _ e) (show ((2 : Nat) : Int) < 2 ^ 63 by decide) ?_
  simp only [show (#[Value.str (Str.ofString "/p/") t1, Value.str (Str.ofString "q/../r") t2]).isEmpty = false from rfl, Bool.not_false, Bool.not_true, Bool.false_eq_true, if_false]
  k_steps
  rename News _ _ _ _ => N
  refine Hold.mk ?_
  rw [eval_ListComp]
  refine wpAny_comprehension_free (use := none) rfl (fun _ => rfl) rfl rfl (by decide) ?_
  refine ld F rfl ?_
  refine comp_listB (items := [.str (Str.ofString "/p/") t1, .str (Str.ofString "q/../r") t2]) (wr := []) rfl ((hdl.at fun _ e => kg _ _ e).at fun _ e => F.keep _ _ e) (Nat.le_of_ble_eq_true rfl) (by decide) rfl (fun _ hb => by cases hb) (DirsJ _) ⟨.nil, rfl, id⟩ ?_ ?_ ?_
  · rintro i ys s1 s2 ⟨a, b, c⟩ _ ho hg
    exact ⟨a, ho.trans b, fun x => hg ▸ c x⟩
  · intro i v ys I C s₃ m₃ E' be hbe hv hJ F3 hit hC
    rw [show ∀ h, hideAll h [] = h from fun _ => rfl] at F3
    have N3 := nilOf F3
    obtain ⟨X3, T3⟩ := Gr.fr X T F
    clear X T F N
    refine wpAny_of_eq (rfl : letOwnedTupleGo (.Name _ _) (.ref I) _ = pure ()) ?_
    refine comp_set hbe F3 N3 (fun h5 F5 N5 hs5 => ?_) rfl rfl
    clear F3 N3
    refine wpAny_pure ?_
    rw [if_pos rfl]
    obtain ⟨j1, j2, j3⟩ := hJ
    rcases i with _ | _ | i
    · injection hv with hv
      subst hv
      refine call1 (a := 56) X3 (by k_is) (X3.keeps F5.keep) (fun Q h => comp_glob hbe F5 X3 (topRead_of T3) (by k_is) h rfl rfl rfl (by decide)) (fun Q h => comp_name hbe F5 rfl h rfl rfl (by decide)) ?_
      refine normpath_p (Gr.fr X3 T3 F5) rfl (Nat.le_of_ble_eq_true rfl) (Nat.le_of_ble_eq_true rfl) ?_
      intro s6 t6 k6
      exact ⟨⟨_, (F5.keeps k6.heap).ns⟩, fun b o hb _ e => k6.heap b o (hs5.extBut b o (Nat.ne_of_lt hb) e), strs_snoc j1, k6.os.trans j2, fun x => k6.gens (j3 x)⟩
    · injection hv with hv
      subst hv
      refine call1 (a := 56) X3 (by k_is) (X3.keeps F5.keep) (fun Q h => comp_glob hbe F5 X3 (topRead_of T3) (by k_is) h rfl rfl rfl (by decide)) (fun Q h => comp_name hbe F5 rfl h rfl rfl (by decide)) ?_
      refine normpath_r (Gr.fr X3 T3 F5) rfl (Nat.le_of_ble_eq_true rfl) (Nat.le_of_ble_eq_true rfl) ?_
      intro s6 t6 k6
      exact ⟨⟨_, (F5.keeps k6.heap).ns⟩, fun b o hb _ e => k6.heap b o (hs5.extBut b o (Nat.ne_of_lt hb) e), strs_snoc j1, k6.os.trans j2, fun x => k6.gens (j3 x)⟩
    · cases hv
  · rintro D s6 ys k ⟨j1, j2, j3⟩ hDn hD hk6
    replace hk6 := fun b o e => hk6 b o List.not_mem_nil e
    have F6 := F.keeps hk6
    have N6 := news_new F (N.grown hk6) hk6 hDn hD
    have l6 := allNe_of (news_ne N hDn)
    simp only [AllNe, and_true] at l6
    clear F N
    k_steps
    rename Fr _ _ _ _ => F
    rename News _ _ _ _ => N
    rename Obj.IsDictOf _ _ _ => hdo
    rename (_ == sysModules) = false => hsm
    have old : ∀ b, g.get? b = none → s.heap.get? b = none := fun b e => by
      cases e' : s.heap.get? b with
      | none => rfl
      | some o => rw [kg b o e'] at e; cases e
    have n1 := N _ (.head _)
    have n2 := N _ (.tail _ (.head _))
    have n3 := N _ (.tail _ (.tail _ (.head _)))
    have n4 := N _ (.tail _ (.tail _ (.tail _ (.head _))))
    have n5 := N _ (.tail _ (.tail _ (.tail _ (.tail _ (.head _)))))
    refine ⟨rfl, h _ x dx S D _ ⟨fun b o e => F.keep b o (kg b o e), j2, j3⟩ ⟨n4.1, ⟨_, _, _, n5.1⟩, hSS _ n3.1, ⟨ys, k, n2.1, j1⟩, ⟨_, _, n1.1, hdo, tab0, Nat.le_refl _⟩, hsm, ?_⟩ ⟨old _ n4.2.2, old _ n5.2.2, old _ n3.2.2, old _ n2.2.2, old _ n1.2.2⟩⟩
    rename _ < _ ∧ _ < _ ∧ _ < _ ∧ _ < _ => hl1
    obtain ⟨a1, a2, a3, a4⟩ := hl1
    exact ⟨Ne.symm (Nat.ne_of_lt a3), Ne.symm (Nat.ne_of_lt a4), Ne.symm (Nat.ne_of_lt a2), Ne.symm (Nat.ne_of_lt a1)⟩
end
section
/-- rows for the walk -/
theorem rows_M17_1 : True := by
  w_top off
  k_with_none
  k_with "mine enterK" => ( (refine' fn_callN (by assumption) (by assumption) (by assumption) ?k6 ?k7 ?k8 ?k9 ?kB ?c2 ?c3 ?c4 ?c5 ?_); (case k6 => k_is); (case k7 => k_is); (case k8 => decide); (case k9 => exact binds_K (Gr.keeps (by assumption) (by assumption)).X rfl (by k_is) rfl rfl rfl); (case kB => exact locs rfl); (case c2 => exact rfl); (case c3 => exact rfl); (case c4 => exact rfl); (case c5 => decide))
  k_with "eval ListComp" => refine hold ?_
  trivial
theorem ignore_callK {w : World} {A : Around} {mean mg mb} {s : Shared} {l dl : Addr} {Q : Value → Shared → Prop} {E : Value → Shared → Prop}
    {items : Array Value} {xs : List Str} {t1 t2 : Tok}
    (G : Gr w mean mg mb s.heap)
    (hl : s.heap.IsList l items) (hi : StrsAre items.toList xs) (hi0 : items.isEmpty = false) (hi1 : items.size < 1000) (hdl : s.heap.IsList dl #[.str (Str.ofString "/p/") t1, .str (Str.ofString "q/../r") t2])
    (hd : A.depth ≤ 660) (hu : A.units ≤ 500) (hh : A.handled = none)
    (h : ∀ s' x dx S D d, Kept s s' → Inst w s'.heap x dx S D d xs [Str.ofString "/p", Str.ofString "r"] items.size told0 1 → Fresh5 s.heap x dx S D d → Q (.ref x) s') :
    wpAny (model PySem.Challenge.rw_mr0159_01.row.prog w) A (call (.ref 79) [] [(Str.ofString "modules", .ref l), (Str.ofString "dirs", .ref dl)]) Q E s := by
  refine lower hh hd hu ?_
  clear hh hd hu A
  have X := G.X
  revert X; k_fill; intro X
  refine make_new G (by k_is) (by k_is) (by k_is) fun x dx h' hkb hn hxd => ?_
  walk_at "mine enterK"
  clear X
  intro g L h₁ hg X T hlt F N
  have no : ∀ b o, s.heap.get? b = some o → b ∉ List.map (fun x => x.fst) [(x, instObj 79 dx), (dx, dictOf [] 0)] := fun b o e hm => by
    obtain ⟨p, hp, rfl⟩ := List.mem_map.mp hm
    rw [(hn p hp).2] at e; cases e
  have kg : ∀ b o, s.heap.get? b = some o → g.get? b = some o := fun b o e => by rw [hg]; exact hideAll_get _ (hkb b o e) (no b o e)
  clear hg
  k_lt hlt
  try dsimp only
  try k_fold
  k_steps
  refine wpAny_truthy_list ((hl.at fun _ e => kg _ _ e).at fun _ e => F.keep _ _ e) (by omega) ?_
  rw [hi0]
  simp only [Bool.not_false, Bool.not_true, Bool.false_eq_true, if_false]
  k_steps
  rename Fr _ _ _ _ => F
  rename News _ _ _ _ => N
  refine call_set_strs rfl ((hl.at fun _ e => kg _ _ e).at fun _ e => F.keep _ _ e) hi (by unfold scanBound; omega) ?_
  intro h2 tk2 hS hk2
  dsimp only at hS hk2
  have hSn : h₁.get? h₁.objs.size = none := by
    cases e : h₁.get? h₁.objs.size with
    | none => rfl
    | some o => exact absurd (Heap.lt_size e) (Nat.lt_irrefl _)
  obtain ⟨oS, hoS, hSS⟩ : ∃ oS, h2.get? h₁.objs.size = some oS ∧ ∀ h', h'.get? h₁.objs.size = some oS → StrSet PySem.Challenge.rw_mr0159_01.row.prog w h' h₁.objs.size (fun k' => xs.any (· == k')) items.size := by
    obtain ⟨o, es, ep, t, ho, r⟩ := hS
    exact ⟨o, ho, fun h' e => ⟨o, es, ep, t, e, r⟩⟩
  clear hS
  have F2 := F.keeps hk2
  have N2 := news_new F (N.grown hk2) hk2 hSn hoS
  have l2 := allNe_of (news_ne N hSn)
  simp only [AllNe, and_true] at l2
  clear F N
  generalize h₁.objs.size = S at *
  k_lt2 hxd
  k_steps
  rename Fr _ _ _ _ => F
  refine wpAny_truthy_list ((hdl.at fun _ e => kg _ _ e).at fun _ e => F.keep _ _ e) (show ((2 : Nat) : Int) < 2 ^ 63 by decide) ?_
  simp only [show (#[Value.str (Str.ofString "/p/") t1, Value.str (Str.ofString "q/../r") t2]).isEmpty = false from rfl, Bool.not_false, Bool.not_true, Bool.false_eq_true, if_false]
  k_steps
  rename News _ _ _ _ => N
  refine Hold.mk ?_
  rw [eval_ListComp]
  refine wpAny_comprehension_free (use := none) rfl (fun _ => rfl) rfl rfl (by decide) ?_
  refine ld F rfl ?_
  refine comp_listB (items := [.str (Str.ofString "/p/") t1, .str (Str.ofString "q/../r") t2]) (wr := []) rfl ((hdl.at fun _ e => kg _ _ e).at fun _ e => F.keep _ _ e) (Nat.le_of_ble_eq_true rfl) (by decide) rfl (fun _ hb => by cases hb) (DirsJ _) ⟨.nil, rfl, id⟩ ?_ ?_ ?_
  · rintro i ys s1 s2 ⟨a, b, c⟩ _ ho hg
    exact ⟨a, ho.trans b, fun x => hg ▸ c x⟩
  · intro i v ys I C s₃ m₃ E' be hbe hv hJ F3 hit hC
    rw [show ∀ h, hideAll h [] = h from fun _ => rfl] at F3
    have N3 := nilOf F3
    obtain ⟨X3, T3⟩ := Gr.fr X T F
    clear X T F N
    refine wpAny_of_eq (rfl : letOwnedTupleGo (.Name _ _) (.ref I) _ = pure ()) ?_
    refine comp_set hbe F3 N3 (fun h5 F5 N5 hs5 => ?_) rfl rfl
    clear F3 N3
    refine wpAny_pure ?_
    rw [if_pos rfl]
    obtain ⟨j1, j2, j3⟩ := hJ
    rcases i with _ | _ | i
    · injection hv with hv
      subst hv
      refine call1 (a := 56) X3 (by k_is) (X3.keeps F5.keep) (fun Q h => comp_glob hbe F5 X3 (topRead_of T3) (by k_is) h rfl rfl rfl (by decide)) (fun Q h => comp_name hbe F5 rfl h rfl rfl (by decide)) ?_
      refine normpath_p (Gr.fr X3 T3 F5) rfl (Nat.le_of_ble_eq_true rfl) (Nat.le_of_ble_eq_true rfl) ?_
      intro s6 t6 k6
      exact ⟨⟨_, (F5.keeps k6.heap).ns⟩, fun b o hb _ e => k6.heap b o (hs5.extBut b o (Nat.ne_of_lt hb) e), strs_snoc j1, k6.os.trans j2, fun x => k6.gens (j3 x)⟩
    · injection hv with hv
      subst hv
      refine call1 (a := 56) X3 (by k_is) (X3.keeps F5.keep) (fun Q h => comp_glob hbe F5 X3 (topRead_of T3) (by k_is) h rfl rfl rfl (by decide)) (fun Q h => comp_name hbe F5 rfl h rfl rfl (by decide)) ?_
      refine normpath_r (Gr.fr X3 T3 F5) rfl (Nat.le_of_ble_eq_true rfl) (Nat.le_of_ble_eq_true rfl) ?_
      intro s6 t6 k6
      exact ⟨⟨_, (F5.keeps k6.heap).ns⟩, fun b o hb _ e => k6.heap b o (hs5.extBut b o (Nat.ne_of_lt hb) e), strs_snoc j1, k6.os.trans j2, fun x => k6.gens (j3 x)⟩
    · cases hv
  · rintro D s6 ys k ⟨j1, j2, j3⟩ hDn hD hk6
    replace hk6 := fun b o e => hk6 b o List.not_mem_nil e
    have F6 := F.keeps hk6
    have N6 := news_new F (N.grown hk6) hk6 hDn hD
    have l6 := allNe_of (news_ne N hDn)
    simp only [AllNe, and_true] at l6
    clear F N
    k_steps
    rename Fr _ _ _ _ => F
    rename News _ _ _ _ => N
    rename Obj.IsDictOf _ _ _ => hdo
    rename (_ == sysModules) = false => hsm
    have old : ∀ b, g.get? b = none → s.heap.get? b = none := fun b e => by
      cases e' : s.heap.get? b with
      | none => rfl
      | some o => rw [kg b o e'] at e; cases e
    have n1 := N _ (.head _)
    have n2 := N _ (.tail _ (.head _))
    have n3 := N _ (.tail _ (.tail _ (.head _)))
    have n4 := N _ (.tail _ (.tail _ (.tail _ (.head _))))
    have n5 := N _ (.tail _ (.tail _ (.tail _ (.tail _ (.head _)))))
    refine ⟨rfl, h _ x dx S D _ ⟨fun b o e => F.keep b o (kg b o e), j2, j3⟩ ⟨n4.1, ⟨_, _, _, n5.1⟩, hSS _ n3.1, ⟨ys, k, n2.1, j1⟩, ⟨_, _, n1.1, hdo, tab0, Nat.le_refl _⟩, hsm, ?_⟩ ⟨old _ n4.2.2, old _ n5.2.2, old _ n3.2.2, old _ n2.2.2, old _ n1.2.2⟩⟩
    rename _ < _ ∧ _ < _ ∧ _ < _ ∧ _ < _ => hl1
    obtain ⟨a1, a2, a3, a4⟩ := hl1
    exact ⟨Ne.symm (Nat.ne_of_lt a3), Ne.symm (Nat.ne_of_lt a4), Ne.symm (Nat.ne_of_lt a2), Ne.symm (Nat.ne_of_lt a1)⟩

theorem ignore_call0 {w : World} {A : Around} {mean mg mb} {s : Shared} {Q : Value → Shared → Prop} {E : Value → Shared → Prop}
    (G : Gr w mean mg mb s.heap) (hd : A.depth ≤ 660) (hu : A.units ≤ 500) (hh : A.handled = none)
    (h : ∀ s' x dx S D d, Kept s s' → Inst w s'.heap x dx S D d [] [] 0 told0 1 → Fresh5 s.heap x dx S D d → Q (.ref x) s') :
    wpAny (model PySem.Challenge.rw_mr0159_01.row.prog w) A (call (.ref 79) []) Q E s := by
  refine lower hh hd hu ?_
  clear hh hd hu A
  have X := G.X
  revert X; k_fill; intro X
  refine make_new G (by k_is) (by k_is) (by k_is) fun x dx h' hkb hn hxd => ?_
  walk_at "mine enterK"
  clear X
  intro g L h₁ hg X T hlt F N
  have no : ∀ b o, s.heap.get? b = some o → b ∉ List.map (fun x => x.fst) [(x, instObj 79 dx), (dx, dictOf [] 0)] := fun b o e hm => by
    obtain ⟨p, hp, rfl⟩ := List.mem_map.mp hm
    rw [(hn p hp).2] at e; cases e
  have kg : ∀ b o, s.heap.get? b = some o → g.get? b = some o := fun b o e => by rw [hg]; exact hideAll_get _ (hkb b o e) (no b o e)
  clear hg
  k_lt hlt
  k_lt2 hxd
  try dsimp only
  try k_fold
  k_steps
  rename Fr _ _ _ _ => F
  rename News _ _ _ _ => N
  rename Obj.IsDictOf _ _ _ => hdo
  rename (_ == sysModules) = false => hsm
  have old : ∀ b, g.get? b = none → s.heap.get? b = none := fun b e => by
    cases e' : s.heap.get? b with
    | none => rfl
    | some o => rw [kg b o e'] at e; cases e
  have n1 := N _ (.head _)
  have n2 := N _ (.tail _ (.head _))
  have n3 := N _ (.tail _ (.tail _ (.head _)))
  have n4 := N _ (.tail _ (.tail _ (.tail _ (.head _))))
  have n5 := N _ (.tail _ (.tail _ (.tail _ (.tail _ (.head _)))))
  refine ⟨rfl, h _ x dx _ _ _ ⟨fun b o e => F.keep b o (kg b o e), rfl, id⟩ ⟨n4.1, ⟨_, _, _, n5.1⟩, ⟨_, #[], 0, _, n3.1, ⟨rfl, rfl, rfl⟩, rfl, ?_, ?_, Nat.le_refl _, ?_, .inl rfl⟩, ⟨[], 0, n2.1, .nil⟩, ⟨_, _, n1.1, hdo, tab0, Nat.le_refl _⟩, hsm, ?_⟩ ⟨old _ n4.2.2, old _ n5.2.2, old _ n3.2.2, old _ n2.2.2, old _ n1.2.2⟩⟩
  · intro e he; simp at he
  · intro k; simp
  · rename Bool => led
    cases led <;> rfl
  · rename _ < _ ∧ _ < _ ∧ _ < _ ∧ _ < _ => hl1
    obtain ⟨a1, a2, a3, a4⟩ := hl1
    exact ⟨Ne.symm (Nat.ne_of_lt a3), Ne.symm (Nat.ne_of_lt a4), Ne.symm (Nat.ne_of_lt a2), Ne.symm (Nat.ne_of_lt a1)⟩
end
section
/-- rows for the walk -/
theorem rows_M18_1 : True := by
  w_top off
  k_with_none
  k_with "mine enterN" => ( (refine' fn_callN (by assumption) (by assumption) (by assumption) ?k6 ?k7 ?k8 ?k9 ?kB ?c2 ?c3 ?c4 ?c5 ?_); (case k6 => k_is); (case k7 => k_is); (case k8 => decide); (case k9 => exact BindsTo.of_eq rfl); (case kB => exact locs rfl); (case c2 => exact rfl); (case c3 => exact rfl); (case c4 => exact rfl); (case c5 => decide))
  k_with "compareOp In" => refine hold ?_
  k_with "exec For Name Attribute cons nil" => refine hold ?_
  trivial
def starts (p x : Str) : Bool := Txt.startswith x p
/-- what an _Ignore of these names and directories tells of a module that it hasn't been asked for -/
def ansB (xs ds : List Str) (fo : Option Str) (m : Str) : Bool :=
  xs.any (· == m) || xs.any (fun k => starts (k ++ Str.ofString ".") m) || (match fo with | none => true | some y => ds.any fun k => starts (k ++ Str.ofString "/") y)
def tell (xs ds : List Str) (f : Str → Option Int) (fo : Option Str) (m : Str) : Int := (f m).getD (if ansB xs ds fo m = true then 1 else 0)
def learn (xs ds : List Str) (f : Str → Option Int) (fo : Option Str) (m : Str) : Str → Option Int := fun k => if k = m then some (tell xs ds f fo m) else f k


section
variable {prog : Program} {w : World} {A : Around} {E : Value → Shared → Prop} {s : Shared}
theorem put_d {g : Heap} {L d : Addr} {od : Obj} {rest : List (Addr × Obj)} {mm : Str → Option Value} {kvs : List (Str × Value)} {k : Str} {t : Tok} {v : Value} {Q : Unit → Shared → Prop}
    (F : Fr g L s.heap mm) (N : News g L s.heap ((d, od) :: rest)) (hr : ∀ p ∈ rest, p.1 ≠ d) (hdo : od.IsDictOf (PySem.strKind prog w) kvs) (hz : kvs.length ≤ sizeLine)
    (h : ∀ od' h', od'.IsDictOf (PySem.strKind prog w) (stored kvs k v) → Fr g L h' mm → News g L h' ((d, od') :: rest) → Q () { s with heap := h', toks := s.toks + 1 }) :
    wpAny (model prog w) A (setItem (.ref d) (.str k t) v) Q E s := by
  refine wpAny_setItem_pairs (knd := PySem.strKind prog w) (strKind_is _ _ _ _) (Heap.dictOf_iff.mpr ⟨od, (N _ (.head _)).1, hdo⟩) (fun h' hd' hs => ?_) hz
  obtain ⟨od', e', hdo'⟩ := Heap.dictOf_iff.mp hd'
  have hd := N _ (.head _)
  refine h od' h' hdo' ⟨?_, fun b o e => hs.extBut b o (by rintro rfl; rw [hd.2.2] at e; cases e) (F.keep b o e), F.above⟩ ?_
  · obtain ⟨oL, es, ep, hL, r⟩ := F.ns
    exact ⟨oL, es, ep, hs.extBut L oL (Ne.symm hd.2.1) hL, r⟩
  · intro p hp
    rcases List.mem_cons.mp hp with rfl | hp
    · exact ⟨e', hd.2⟩
    · exact ⟨hs.extBut _ _ (hr p hp) (N p (.tail _ hp)).1, (N p (.tail _ hp)).2⟩
end
theorem tab_put {kvs : List (Str × Value)} {f : Str → Option Int} {k : Str} {i : Int} {t : Tok} (h : IntTab kvs f) (hk : f k = none) : IntTab (stored kvs k (.int i t)) (fun k' => if k' = k then some i else f k') := by
  have h0 : valueAt kvs k = none := by
    rcases h k with ⟨_, e⟩ | ⟨i, t, e, _⟩
    · exact e
    · rw [hk] at e; cases e
  rw [stored_absent h0]
  intro k'
  have hv : valueAt (kvs ++ [(k, Value.int i t)]) k' = (valueAt kvs k').or (if k = k' then some (.int i t) else none) := by
    unfold valueAt
    rw [List.find?_append]
    cases e : kvs.find? (fun kv => decide (kv.1 = k')) with
    | some p => simp
    | none =>
      simp only [Option.none_or, Option.map_none]
      by_cases e2 : k = k'
      · rw [List.find?_cons, decide_eq_true e2, if_pos e2]; rfl
      · rw [List.find?_cons, decide_eq_false e2, if_neg e2]; rfl
  by_cases e : k' = k
  · subst e
    right
    refine ⟨i, t, if_pos rfl, ?_⟩
    rw [hv, h0, if_pos rfl]; rfl
  · rcases h k' with ⟨a, b⟩ | ⟨i', t', a, b⟩
    · left; refine ⟨(if_neg e).trans a, ?_⟩
      rw [hv, b, if_neg (Ne.symm e)]; rfl
    · right; refine ⟨i', t', (if_neg e).trans a, ?_⟩
      rw [hv, b]; rfl
theorem inst_of {w : World} {s : Shared} {g h' : Heap} {L : Addr} {x dx S D d : Addr} {xs ds : List Str} {n z : Nat} {f f' : Str → Option Int} {mm : Str → Option Value} {od' odx : Obj} {kvs' : List (Str × Value)}
    (hI : Inst w s.heap x dx S D d xs ds n f z) (hdx : s.heap.get? dx = some odx) (hg : g = hideAll s.heap [d, x, dx]) (F : Fr g L h' mm) (n1 : h'.get? d = some od') (n2 : h'.get? x = some (instObj 79 dx)) (n3 : h'.get? dx = some odx)
    (hdo : od'.IsDictOf (PySem.strKind PySem.Challenge.rw_mr0159_01.row.prog w) kvs') (ht : IntTab kvs' f') (hk : kvs'.length ≤ z + 1) :
    Inst w h' x dx S D d xs ds n f' (z + 1) ∧ ∀ b o, b ≠ d → s.heap.get? b = some o → h'.get? b = some o := by
  have kp : ∀ b o, b ≠ d → s.heap.get? b = some o → h'.get? b = some o := fun b o hb e => by
    by_cases e1 : b = x
    · subst e1; rw [hI.ox] at e; cases e; exact n2
    by_cases e2 : b = dx
    · subst e2; rw [hdx] at e; cases e; exact n3
    refine F.keep b o ?_
    rw [hg]
    refine hideAll_get _ e ?_
    intro hm
    rcases List.mem_cons.mp hm with h | hm
    · exact hb h
    rcases List.mem_cons.mp hm with h | hm
    · exact e1 h
    · exact e2 (List.mem_singleton.mp hm)
  obtain ⟨d1, d2, d3, d4⟩ := hI.ne
  refine ⟨⟨n2, ?_, hI.oS.at fun o e => kp _ o (Ne.symm d3) e, ?_, ⟨od', kvs', n1, hdo, ht, hk⟩, hI.dm, hI.ne⟩, kp⟩
  · obtain ⟨t1, t2, t3, e⟩ := hI.odx
    exact ⟨t1, t2, t3, kp _ _ (Ne.symm d2) e⟩
  · obtain ⟨vs, k, e, r⟩ := hI.oD
    exact ⟨vs, k, kp _ _ (Ne.symm d4) e, r⟩
def nmap (sv fv mv : Value) (m : Str → Option Value) : Str → Option Value := fun y =>
  if y = Str.ofString "self" then some sv else if y = Str.ofString "filename" then some fv else if y = Str.ofString "modulename" then some mv else m y
theorem nmap_self {sv fv mv : Value} {m : Str → Option Value} (h1 : m (Str.ofString "self") = some sv) (h2 : m (Str.ofString "filename") = some fv) (h3 : m (Str.ofString "modulename") = some mv) : ∃ m₁, m = nmap sv fv mv m₁ := ⟨m, by
  funext y
  unfold nmap
  split
  · rename_i e; rw [e, h1]
  split
  · rename_i e; rw [e, h2]
  split
  · rename_i e; rw [e, h3]
  · rfl⟩
def FileIs (fv : Value) (fo : Option Str) : Prop := (fv = .none ∧ fo = none) ∨ ∃ y t, fv = .str y t ∧ fo = some y ∧ y.length < 1000
def NamesJ (sv fv mv : Value) (news : List (Addr × Obj)) (xs : List Str) (P : Str → Bool) (j : Nat) (m' : Str → Option Value) (news' : List (Addr × Obj)) : Prop :=
  m' (Str.ofString "self") = some sv ∧ m' (Str.ofString "filename") = some fv ∧ m' (Str.ofString "modulename") = some mv ∧ news' = news ∧ (xs.take j).any P = false
theorem any_step {xs : List Str} {P : Str → Bool} {j : Nat} {x : Str} (h : (xs.take j).any P = false) (hx : xs[j]? = some x) (hp : P x = false) : (xs.take (j + 1)).any P = false := by
  rw [List.take_add_one, hx, List.any_append, h]; simp [hp]

theorem names_call {w : World} {A : Around} {mean mg mb} {hb : Heap} {s : Shared} {x dx S D d : Addr} {xs ds : List Str} {n z : Nat} {f : Str → Option Int} {m : Str} {tm : Tok} {fv : Value} {fo : Option Str} {Q : Value → Shared → Prop} {E : Value → Shared → Prop}
    (G : Gr w mean mg mb hb) (hkb : ∀ b o, hb.get? b = some o → s.heap.get? b = some o) (h0 : hb.get? x = none ∧ hb.get? dx = none ∧ hb.get? d = none)
    (hI : Inst w s.heap x dx S D d xs ds n f z) (hn4 : n ≤ 4000) (hz : z < 1000) (hfv : FileIs fv fo) (hml : m.length < 1000) (hxs : (∃ k1 k2, k1 ≠ k2 ∧ xs.any (· == k1) = true ∧ xs.any (· == k2) = true) ∨ xs = []) (hxl : ∀ k ∈ xs, k.length < 100) (hdl : ∀ k ∈ ds, k.length < 100)
    (hd : A.depth ≤ 680) (hu : A.units ≤ 700) (hh : A.handled = none)
    (h : ∀ s' t, (∀ b o, b ≠ d → s.heap.get? b = some o → s'.heap.get? b = some o) → s'.os = s.os → (AllBare s.gens → AllBare s'.gens) → Inst w s'.heap x dx S D d xs ds n (learn xs ds f fo m) (z + 1) → Q (.int (tell xs ds f fo m) t) s') :
    wpAny (model PySem.Challenge.rw_mr0159_01.row.prog w) A (call (.ref 76) [.ref x, fv, .str m tm]) Q E s := by
  refine lower hh hd hu ?_
  clear hh hd hu A
  have hI' := hI
  obtain ⟨hx, ⟨u1, u2, u3, hdx⟩, hS, ⟨vs, kk, hD, hvs⟩, ⟨od, kvs, hod, hdo, htab, hkz⟩, hdm, hdn⟩ := hI
  have hn : ∀ p ∈ [(d, od), (x, instObj 79 dx), (dx, dictOf [⟨PyData.keyHash w.params (Str.ofString "_mods"), .str (Str.ofString "_mods") u1, .ref S⟩, ⟨PyData.keyHash w.params (Str.ofString "_dirs"), .str (Str.ofString "_dirs") u2, .ref D⟩, ⟨PyData.keyHash w.params (Str.ofString "_ignore"), .str (Str.ofString "_ignore") u3, .ref d⟩] 3)], s.heap.get? p.1 = some p.2 ∧ hb.get? p.1 = none := by
    intro p hp
    rcases List.mem_cons.mp hp with rfl | hp
    · exact ⟨hod, h0.2.2⟩
    rcases List.mem_cons.mp hp with rfl | hp
    · exact ⟨hx, h0.1⟩
    · rw [List.mem_singleton.mp hp]; exact ⟨hdx, h0.2.1⟩
  have hr0 : ∀ p ∈ [(x, instObj 79 dx), (dx, dictOf [⟨PyData.keyHash w.params (Str.ofString "_mods"), .str (Str.ofString "_mods") u1, .ref S⟩, ⟨PyData.keyHash w.params (Str.ofString "_dirs"), .str (Str.ofString "_dirs") u2, .ref D⟩, ⟨PyData.keyHash w.params (Str.ofString "_ignore"), .str (Str.ofString "_ignore") u3, .ref d⟩] 3)], p.1 ≠ d := by
    intro p hp
    rcases List.mem_cons.mp hp with rfl | hp
    · exact Ne.symm hdn.1
    · rw [List.mem_singleton.mp hp]; exact Ne.symm hdn.2.1
  have X := G.X
  revert X; k_fill; intro X
  refine wpAny_call ?_
  walk_at "mine enterN"
  clear X
  intro g L h₁ hg X T hlt F N
  k_lt hlt
  try dsimp only
  try k_fold
  k_steps
  rename Fr _ _ _ _ => F
  rename News _ _ _ _ => N
  refine Hold.mk ?_
  have hdict : ∀ h' : Heap, h'.get? d = some od → h'.DictOf (PySem.strKind PySem.Challenge.rw_mr0159_01.row.prog w) d kvs := fun h' e => Heap.dictOf_iff.mpr ⟨od, e, hdo⟩
  refine wpAny_in_of (knd := PySem.strKind PySem.Challenge.rw_mr0159_01.row.prog w) (strKind_is _ _ _ _) hdm (hdict _ (N _ (.head _)).1).mapOf ?_
  rcases htab m with ⟨f1, f2⟩ | ⟨i, ti, f1, f2⟩
  · rw [f2]
    dsimp only [Option.isSome_none]
    k_steps
    rename Fr _ _ _ _ => F
    rename News _ _ _ _ => N
    refine Hold.mk ?_
    have hSg : StrSet PySem.Challenge.rw_mr0159_01.row.prog w g S (fun k => xs.any (· == k)) n := by
      rw [hg]
      refine hide_set hS fun hm => ?_
      obtain ⟨oS, es, ep, t, hoS, hex, hds, _⟩ := hS
      rcases List.mem_cons.mp hm with h | hm
      · exact hdn.2.2.1 h.symm
      rcases List.mem_cons.mp hm with h | hm
      · rw [h, hx] at hoS; cases hoS; cases hds
      · rw [List.mem_singleton.mp hm, hdx] at hoS; cases hoS; cases hds
    obtain ⟨nS, hSo⟩ := (hSg.at fun o e => F.keep _ o e).setOf (by unfold scanBound; omega)
    refine wpAny_inSet_of (knd := PySem.strKind PySem.Challenge.rw_mr0159_01.row.prog w) (strKind_is _ _ _ _) rfl hSo ?_
    cases hin : xs.any (· == m) with
    | true =>
      dsimp only
      k_steps
      rename Fr _ _ _ _ => F
      rename News _ _ _ _ => N
      have e1 : tell xs ds f fo m = 1 := by unfold tell ansB; rw [f1, hin]; rfl
      unfold learn at h
      rw [e1] at h
      refine put_d F N hr0 hdo (by unfold sizeLine; omega) ?_
      intro od' h5 hdo' F5 N5
      clear F N
      k_steps
      have := inst_of hI' hdx hg F5 (N5 _ (.head _)).1 (N5 _ (.tail _ (.head _))).1 (N5 _ (.tail _ (.tail _ (.head _)))).1 hdo' (tab_put htab f1) (Nat.le_trans (stored_length_le _ _ _) (Nat.succ_le_succ hkz))
      exact h _ _ this.2 rfl id this.1
    | false =>
      dsimp only
      k_steps
      rename Fr _ _ _ _ => F
      rename News _ _ _ _ => N
      refine Hold.mk ?_
      refine wpAny_For ?_
      k_steps
      have fresh : ∀ b o, h₁.get? b = some o → ∀ c, h₁.objs.size ≤ c → b ≠ c := fun b o e c hc h => absurd (Heap.lt_size e) (Nat.not_lt.mpr (h ▸ hc))
      have freshg : ∀ c, h₁.objs.size ≤ c → g.get? c = none := fun c hc => by
        cases e : g.get? c with
        | none => rfl
        | some o => exact absurd rfl (fresh c o (F.keep c o e) c hc)
      refine iter_strset (hSg.at fun o e => F.keep _ o e) hn4 ?h2 ?_
      case h2 =>
        rcases hxs with h | h
        · exact .inl h
        · exact .inr fun k => by rw [h]; rfl
      intro oS It iobj fixO itemsV xsV h5 dr hoS WK hsv hmem hIt hIge hfix hk5
      dsimp only at hoS hIge hfix hk5
      have F5 := F.keeps hk5
      have N5 := N.grown hk5
      have hoSg : g.get? S = some oS := by
        obtain ⟨o', _, _, _, e, _⟩ := hSg
        have e2 := F.keep _ _ e
        rw [hoS] at e2; cases e2; exact e
      refine for_walk (fixB := [(S, oS)]) (fixO := fixO) rfl rfl (fun j v s' Q E' a b c d => WK.item _ j v s' Q E' a b c d) (fun s' Q E' a b c => WK.fin _ s' Q E' rfl a b c) ?hfB hIt (fun p hp => (hfix p hp).2.2) ?hIL ?hI0 ?hIn ?hOL F5 N5
        (NamesJ (.ref x) fv (.str m tm) _ xsV (fun k => starts (k ++ Str.ofString ".") m)) ⟨rfl, rfl, rfl, rfl, rfl⟩ ?turn ?done
      case hfB => intro p hp; rw [List.mem_singleton.mp hp]; exact hoSg
      case hIL =>
        obtain ⟨oL, _, _, hL, _⟩ := F.ns
        exact Ne.symm (fresh L oL hL It hIge)
      case hI0 => exact freshg It hIge
      case hIn => exact fun p hp => fresh _ _ (N p hp).1 It hIge
      case hOL =>
        intro q hq
        obtain ⟨a1, a2, a3⟩ := hfix q hq
        obtain ⟨oL, _, _, hL, _⟩ := F.ns
        exact ⟨Ne.symm (fresh L oL hL _ a1), freshg _ a1, a2, fun p hp => fresh _ _ (N p hp).1 _ a1⟩
      case turn =>
        clear F N F5 N5
        rintro j v m' news' own s₁ E' hv ⟨a1, a2, a3, rfl, a5⟩ hadr hoff hos hgen F N
        obtain ⟨k, tk, hk, rfl⟩ := strs_get hsv j v hv
        obtain ⟨m₁, rfl⟩ := nmap_self a1 a2 a3
        clear a1 a2 a3 hadr
        simp only [List.cons_append, List.nil_append] at N
        have hkl : k.length < 100 := by
          have := List.mem_of_getElem? hk
          have := (hmem k).mpr this
          obtain ⟨k', h1, h2⟩ := List.any_eq_true.mp this
          rw [← beq_iff_eq.mp h2]; exact hxl k' h1
        k_steps
        · rename Fr _ _ _ _ => F
          rename News _ _ _ _ => N
          rename Txt.startswith _ _ = true => e
          have e1 : tell xs ds f fo m = 1 := by
            have : xs.any (fun k => starts (k ++ Str.ofString ".") m) = true := by
              have h1 := (hmem k).mpr (List.mem_of_getElem? hk)
              obtain ⟨k', h1, h2⟩ := List.any_eq_true.mp h1
              rw [beq_iff_eq.mp h2] at h1
              exact List.any_eq_true.mpr ⟨k, h1, e⟩
            unfold tell ansB; rw [f1, hin, this]; rfl
          unfold learn at h
          rw [e1] at h
          refine put_d F N ?hr hdo (by unfold sizeLine; omega) ?_
          case hr =>
            intro p hp
            rcases List.mem_cons.mp hp with rfl | hp
            · exact Ne.symm hdn.1
            rcases List.mem_cons.mp hp with rfl | hp
            · exact Ne.symm hdn.2.1
            · exact hoff p hp d (List.mem_cons_self ..)
          intro od' h5 hdo' F5 N5
          clear F N
          k_steps
          have := inst_of hI' hdx hg F5 (N5 _ (.head _)).1 (N5 _ (.tail _ (.head _))).1 (N5 _ (.tail _ (.tail _ (.head _)))).1 hdo' (tab_put htab f1) (Nat.le_trans (stored_length_le _ _ _) (Nat.succ_le_succ hkz))
          exact h _ _ this.2 hos hgen this.1
        · rename Txt.startswith _ _ = false => e
          rename Fr _ _ _ _ => F
          rename News _ _ _ _ => N
          exact ⟨rfl, id, _, _, F, N, rfl, rfl, rfl, rfl, rfl, any_step a5 hk e⟩
      case done =>
        clear F N F5 N5
        rintro m' news' s₂ ⟨a1, a2, a3, rfl, a5⟩ F N hadr hos hgen
        obtain ⟨m₁, rfl⟩ := nmap_self a1 a2 a3
        clear a1 a2 a3 hadr
        have hno : xs.any (fun k => starts (k ++ Str.ofString ".") m) = false := by
          rw [strs_length hsv, List.take_length] at a5
          rw [Bool.eq_false_iff]
          intro ht
          obtain ⟨k', h1, h2⟩ := List.any_eq_true.mp ht
          have h3 : k' ∈ xsV := (hmem k').mp (List.any_eq_true.mpr ⟨k', h1, beq_self_eq_true _⟩)
          rw [Bool.eq_false_iff] at a5
          exact a5 (List.any_eq_true.mpr ⟨k', h3, h2⟩)
        dsimp only
        rcases hfv with ⟨rfl, rfl⟩ | ⟨yf, tf, rfl, rfl, hyl⟩
        · k_steps
          rename Fr _ _ _ _ => F
          rename News _ _ _ _ => N
          have e1 : tell xs ds f none m = 1 := by unfold tell ansB; rw [f1]; simp
          unfold learn at h
          rw [e1] at h
          refine put_d F N hr0 hdo (by unfold sizeLine; omega) ?_
          intro od' h5 hdo' F5 N5
          clear F N
          k_steps
          have := inst_of hI' hdx hg F5 (N5 _ (.head _)).1 (N5 _ (.tail _ (.head _))).1 (N5 _ (.tail _ (.tail _ (.head _)))).1 hdo' (tab_put htab f1) (Nat.le_trans (stored_length_le _ _ _) (Nat.succ_le_succ hkz))
          exact h _ _ this.2 hos hgen this.1
        · k_steps
          rename Fr _ _ _ _ => F
          rename News _ _ _ _ => N
          refine Hold.mk ?_
          refine wpAny_For ?_
          k_steps
          have hDg : g.IsList D vs.toArray := by
            rw [hg]
            refine hide_list (l := D) ⟨_, hD, rfl, kk, rfl⟩ fun hm => ?_
            rcases List.mem_cons.mp hm with h | hm
            · exact hdn.2.2.2 h.symm
            rcases List.mem_cons.mp hm with h | hm
            · rw [h, hx] at hD; cases hD
            · rw [List.mem_singleton.mp hm, hdx] at hD
              have := congrArg (fun o : Obj => o.data) (Option.some.inj hD)
              cases this
          refine for_list rfl rfl rfl hDg F N (NamesJ (.ref x) (.str yf tf) (.str m tm) _ ds (fun k => starts (k ++ Str.ofString "/") yf)) ⟨rfl, rfl, rfl, rfl, rfl⟩ ?turn2 ?done2
          case turn2 =>
            clear F N
            rintro j v m' news' own s₁ E' hv ⟨a1, a2, a3, rfl, a6⟩ hadr hoff hos2 hgen2 F N
            obtain ⟨k, tk, hk, rfl⟩ := strs_get hvs j v hv
            obtain ⟨m₁, rfl⟩ := nmap_self a1 a2 a3
            clear a1 a2 a3 hadr
            simp only [List.cons_append, List.nil_append] at N
            have hkl : k.length < 100 := hdl k (List.mem_of_getElem? hk)
            k_steps
            · rename Fr _ _ _ _ => F
              rename News _ _ _ _ => N
              rename Txt.startswith _ _ = true => e
              have e1 : tell xs ds f (some yf) m = 1 := by
                have : ds.any (fun k => starts (k ++ Str.ofString "/") yf) = true := List.any_eq_true.mpr ⟨k, List.mem_of_getElem? hk, e⟩
                unfold tell ansB; rw [f1]; simp only [this, Bool.or_true]; rfl
              unfold learn at h
              rw [e1] at h
              refine put_d F N ?hr hdo (by unfold sizeLine; omega) ?_
              case hr =>
                intro p hp
                rcases List.mem_cons.mp hp with rfl | hp
                · exact Ne.symm hdn.1
                rcases List.mem_cons.mp hp with rfl | hp
                · exact Ne.symm hdn.2.1
                · exact hoff p hp d (List.mem_cons_self ..)
              intro od' h5 hdo' F5 N5
              clear F N
              k_steps
              have := inst_of hI' hdx hg F5 (N5 _ (.head _)).1 (N5 _ (.tail _ (.head _))).1 (N5 _ (.tail _ (.tail _ (.head _)))).1 hdo' (tab_put htab f1) (Nat.le_trans (stored_length_le _ _ _) (Nat.succ_le_succ hkz))
              exact h _ _ this.2 (hos2.trans hos) (fun g => hgen2 (hgen g)) this.1
            · rename Txt.startswith _ _ = false => e
              rename Fr _ _ _ _ => F
              rename News _ _ _ _ => N
              exact ⟨rfl, id, _, _, F, N, rfl, rfl, rfl, rfl, rfl, any_step a6 hk e⟩
          case done2 =>
            clear F N
            rintro m' news' s₃ ⟨a1, a2, a3, rfl, a6⟩ F N hadr hos2 hgen2
            obtain ⟨m₁, rfl⟩ := nmap_self a1 a2 a3
            clear a1 a2 a3 hadr
            have e1 : tell xs ds f (some yf) m = 0 := by
              rw [strs_length hvs, List.take_length] at a6
              unfold tell ansB; rw [f1]; simp only [hin, hno, a6]; rfl
            dsimp only
            k_steps
            rename Fr _ _ _ _ => F
            rename News _ _ _ _ => N
            unfold learn at h
            rw [e1] at h
            refine put_d F N hr0 hdo (by unfold sizeLine; omega) ?_
            intro od' h5 hdo' F5 N5
            clear F N
            k_steps
            have := inst_of hI' hdx hg F5 (N5 _ (.head _)).1 (N5 _ (.tail _ (.head _))).1 (N5 _ (.tail _ (.tail _ (.head _)))).1 hdo' (tab_put htab f1) (Nat.le_trans (stored_length_le _ _ _) (Nat.succ_le_succ hkz))
            exact h _ _ this.2 (hos2.trans hos) (fun g => hgen2 (hgen g)) this.1
  · rw [f2]
    dsimp only [Option.isSome_some]
    k_steps
    rename Fr _ _ _ _ => F
    rename News _ _ _ _ => N
    refine wpAny_getItem_of (knd := PySem.strKind PySem.Challenge.rw_mr0159_01.row.prog w) (strKind_is _ _ _ _) (hdict _ (N _ (.head _)).1).mapOf f2 ?_
    have e1 : tell xs ds f fo m = i := by unfold tell; rw [f1]; rfl
    have e2 : learn xs ds f fo m = f := by funext k; unfold learn; rw [e1]; split; · rename_i e; rw [e, f1]
                                           · rfl
    have := inst_of hI' hdx hg F (N _ (.head _)).1 (N _ (.tail _ (.head _))).1 (N _ (.tail _ (.tail _ (.head _)))).1 hdo htab (Nat.le_succ_of_le hkz)
    rw [e1, e2] at h
    exact h _ _ this.2 rfl id this.1
end
section
/-- the part of a heap that lies below C, but for wr -/
def low (h : Heap) (C : Addr) (wr : List Addr) : Heap := hideAll { h with objs := (h.objs.toList.take C).toArray } wr
theorem trunc_get {h : Heap} {C b : Addr} {o : Obj} : Heap.get? { h with objs := (h.objs.toList.take C).toArray } b = some o ↔ b < C ∧ h.get? b = some o := by
  unfold Heap.get?
  dsimp only
  by_cases hb : b < C
  · have : (h.objs.toList.take C).toArray[b]? = h.objs[b]? := by rw [List.getElem?_toArray, List.getElem?_take_of_lt hb, Array.getElem?_toList]
    simp only [this, hb, true_and]
  · have : (h.objs.toList.take C).toArray[b]? = none := by
      rw [List.getElem?_toArray, List.getElem?_eq_none_iff, List.length_take]
      exact Nat.le_trans (Nat.min_le_left _ _) (Nat.not_lt.mp hb)
    simp [this, hb]
theorem low_get {h : Heap} {C b : Addr} {wr : List Addr} {o : Obj} (h1 : b < C) (h2 : b ∉ wr) (e : h.get? b = some o) : (low h C wr).get? b = some o := hideAll_get _ (trunc_get.mpr ⟨h1, e⟩) h2
theorem low_none {h : Heap} {C b : Addr} {wr : List Addr} (h1 : b ∈ wr) : (low h C wr).get? b = none := hideAll_none _ h1
theorem low_of {h : Heap} {C b : Addr} {wr : List Addr} {o : Obj} (e : (low h C wr).get? b = some o) : b < C ∧ b ∉ wr ∧ h.get? b = some o := by
  have := trunc_get.mp (of_hideAll _ e)
  refine ⟨this.1, ?_, this.2⟩
  intro hm
  rw [low_none hm] at e
  cases e
theorem low_size {h : Heap} {C : Addr} {wr : List Addr} : (low h C wr).objs.size ≤ C := by
  unfold low
  rw [hideAll_size]
  show (h.objs.toList.take C).toArray.size ≤ C
  rw [List.size_toArray, List.length_take]; exact Nat.min_le_left _ _
section
variable {prog : Program} {w : World} {A : Around} {E : Value → Shared → Prop} {env : Env}
/-- a list comprehension over a list that stands -/
theorem comp_listR {elt target iter : Expr} {ifs : List Expr} {scope : Scope} {cl : List (Str × Addr)} {pos : Pos} {s₁ : Shared} {l : Addr} {items : List Value} {wr : List Addr} {RR : Value → Addr → Result → Shared → Prop}
    (hh : A.handled = none) (hl : s₁.heap.IsList l items.toArray) (hsz : items.length ≤ sizeLine) (hcell : ∀ y ∈ scope.names, y.2 ≠ .cell) (hkind : scope.kind = .function) (hwr : ∀ b ∈ wr, b < s₁.heap.objs.size ∧ b ≠ l)
    (J : Nat → List Value → Shared → Prop) (h0 : J 0 [] s₁)
    (hJ : ∀ i ys (s s' : Shared), J i ys s → (∀ b o, b < s₁.heap.objs.size → s.heap.get? b = some o → s'.heap.get? b = some o) → s'.os = s.os → s'.gens = s.gens → J i ys s')
    (turn : ∀ (i : Nat) v ys I C (s₃ : Shared) m₃ E' b B, b = compEnvC scope cl C env → items[i]? = some v → J i ys s₃ → (∀ b o, b ∉ wr → s₁.heap.get? b = some o → B.get? b = some o) → (∀ b o, b < C → b ∉ wr → s₃.heap.get? b = some o → B.get? b = some o) → (∀ b ∈ wr, B.get? b = none) → Fr B C s₃.heap m₃ → s₃.heap.IsListIter I l (i + 1) → s₁.heap.objs.size < C →
      wpAny (model prog w) A (letOwnedTupleGo target (.ref I) v) (fun _ s₃' => wpAny (model prog w) A (assign target b v) (fun _ s₄ => wpAny (model prog w) A (testsOf ifs b) (fun ok s₅ =>
        if ok = true then wpAny (model prog w) A (eval elt b) (fun y s₆ => CompStep C wr (J (i + 1)) ys s₃ (some y) s₆) E' s₅
        else CompStep C wr (J (i + 1)) ys s₃ none s₅) E' s₄) E' s₃') E' s₃)
    (done : ∀ D C (s' : Shared) m' ys k, J items.length ys s' → s₁.heap.objs.size < D → s₁.heap.objs.size < C → D ≠ C → s'.heap.Ns C m' → s'.heap.get? D = some (W.listOf ys.toArray k) → (∀ b o, b ∉ wr → s₁.heap.get? b = some o → s'.heap.get? b = some o) → RR (.ref D) C (.ok .next) s') :
    wpAny (model prog w) A (pyIter (.ref l)) (fun it s₂ => wpAny (model prog w) A (newList []) (fun acc s₃ => wpAny (model prog w) A (newFunctionEnv scope env.globals cl [] env.qual none .none (some env)) (fun cenv s₄ =>
      codeAny (model prog w) A (.compStart (.ListComp elt [⟨target, iter, ifs, 0⟩] scope pos) 0 it acc { cenv with scope := relabel scope env }) (RR acc cenv.locals) s₄) E s₃) E s₂) E s₁ := by
  obtain ⟨ol, hol, _⟩ := id hl
  have hlt : l < s₁.heap.objs.size := Heap.lt_size hol
  have hne : l ≠ s₁.heap.objs.size := Nat.ne_of_lt hlt
  refine wpAny_pyIter_list hl ?_
  have WK := Walks.list (prog := prog) (w := w) (A := A) hh s₁.heap.objs.size l hne items.toArray
  have hz : (s₁.heap.push { cls := .type "list_iterator", data := .fields #[.ref l, .int 0 0] }).objs.size = s₁.heap.objs.size + 1 := Heap.size_push ..
  have up : ∀ b o, s₁.heap.get? b = some o → (s₁.heap.push { cls := .type "list_iterator", data := .fields #[.ref l, .int 0 0] }).get? b = some o := fun b o e => Heap.get?_push_of_some _ e
  have fresh : ∀ a, s₁.heap.objs.size ≤ a → s₁.heap.get? a = none := fun a ha => by
    cases e : s₁.heap.get? a with
    | none => rfl
    | some o' => exact absurd (Heap.lt_size e) (Nat.not_lt.mpr ha)
  refine comp_block (wr := wr) WK (by simpa using hsz) hcell hkind ⟨⟨_, Heap.get?_push_size _ rfl, rfl, rfl⟩, hl.at fun o e => up _ _ e⟩ ?_ (by dsimp only; rw [hz]; exact Nat.lt_succ_self _) ?_ ?_ J ?_ ?_ ?_ ?_
  · intro b hb
    dsimp only; rw [hz]
    rcases List.mem_cons.mp hb with rfl | hb
    · exact Nat.lt_succ_self _
    · rw [List.mem_singleton.mp hb]; exact Nat.lt_succ_of_lt hlt
  · intro b hb hm
    rcases List.mem_cons.mp hm with rfl | hm
    · exact Nat.lt_irrefl _ (hwr _ hb).1
    · exact (hwr _ hb).2 (List.mem_singleton.mp hm)
  · intro b hb
    dsimp only; rw [hz]; exact Nat.lt_succ_of_lt (hwr b hb).1
  · exact hJ 0 [] s₁ _ h0 (fun b o _ e => up b o e) rfl rfl
  · intro i ys s s' hj hk ho hg
    refine hJ i ys s s' hj (fun b o hb e => hk b o ?_ (Nat.ne_of_lt hb) e) ho hg
    dsimp only; rw [hz]; exact Nat.lt_succ_of_lt hb
  · intro i v ys C s₃ m₃ E' hi hP hj hC hn hk hst
    dsimp only at hC
    rw [hz] at hC
    have kk : ∀ b o, b ∉ wr → s₁.heap.get? b = some o → s₃.heap.get? b = some o := fun b o hb e => hk b o (fun hm => by
      rcases List.mem_cons.mp hm with rfl | hm
      · exact absurd (Heap.lt_size e) (Nat.lt_irrefl _)
      · exact hb hm) (up b o e)
    refine turn i v ys _ C s₃ m₃ E' _ (low s₃.heap C wr) rfl (by simpa using hP) hj (fun b o hb e => low_get (Nat.lt_trans (Heap.lt_size e) hC) hb (kk b o hb e)) (fun b o h1 h2 e => low_get h1 h2 e) (fun b hb => low_none hb) ⟨hn, fun b o e => (low_of e).2.2, low_size⟩ hst.1 hC
  · intro D C s' m' ys k hj hD hC hDC hn hd hk
    dsimp only at hD hC
    rw [hz] at hD hC
    have hlen : items.toArray.size = items.length := by simp
    rw [hlen] at hj
    refine done D C s' m' ys k hj hD hC hDC hn hd fun b o hb e => ?_
    have hb' : b < s₁.heap.objs.size := Heap.lt_size e
    refine hk b o (fun hm => ?_) (up b o e)
    rcases List.mem_cons.mp hm with rfl | hm
    · exact Nat.lt_irrefl _ hb'
    · exact hb hm

/-- y = [elt for target in l if ..], y a local of a function's frame -/
theorem comp_assign {s₁ s : Shared} {elt target iter : Expr} {ifs : List Expr} {y : Str} {py : Pos} {scope : Scope} {cl : List (Str × Addr)} {pos spos : Pos} {Q : Flow → Shared → Prop} {l : Addr} {items : List Value} {wr : List Addr} {g : Heap} {L : Addr} {m : Str → Option Value}
    (hsw : swapsWith (.ListComp elt [⟨target, iter, ifs, 0⟩] scope pos) (some (.Name y py)) spos.line env = pure true)
    (hclos : closureFor scope env = pure cl) (hcell : ∀ z ∈ scope.names, z.2 ≠ .cell) (hkind : scope.kind = .function)
    (hnames : ∀ z ∈ scope.names, z.2 = .local → scope.names.lookup z.1 = some .local)
    (hy : env.kindOf y = some .local) (hp : (env.scope.kind == .class || (env.scope.kind == .module && env.locals != env.globals)) = false)
    (hs : ∀ x, foldedSetIterable iter env x = pure x) (hL : env.locals = L) (hh : A.handled = none)
    (first : ∀ Q' : Value → Shared → Prop, Q' (.ref l) s₁ → wpAny (model prog w) A (eval iter env) Q' E s) (F : Fr g L s₁.heap m)
    (hl : s₁.heap.IsList l items.toArray) (hsz : items.length ≤ sizeLine) (hwr : ∀ b ∈ wr, b < s₁.heap.objs.size ∧ b ≠ l) (hLw : L ∉ wr)
    (J : Nat → List Value → Shared → Prop) (h0 : J 0 [] s₁)
    (hJ : ∀ i ys (s s' : Shared), J i ys s → (∀ b o, b < s₁.heap.objs.size → s.heap.get? b = some o → s'.heap.get? b = some o) → s'.os = s.os → s'.gens = s.gens → J i ys s')
    (turn : ∀ (i : Nat) v ys I C (s₃ : Shared) m₃ E' b B, b = compEnvC scope cl C env → items[i]? = some v → J i ys s₃ → (∀ b o, b ∉ wr → s₁.heap.get? b = some o → B.get? b = some o) → (∀ b o, b < C → b ∉ wr → s₃.heap.get? b = some o → B.get? b = some o) → (∀ b ∈ wr, B.get? b = none) → Fr B C s₃.heap m₃ → s₃.heap.IsListIter I l (i + 1) → s₁.heap.objs.size < C →
      wpAny (model prog w) A (letOwnedTupleGo target (.ref I) v) (fun _ s₃' => wpAny (model prog w) A (assign target b v) (fun _ s₄ => wpAny (model prog w) A (testsOf ifs b) (fun ok s₅ =>
        if ok = true then wpAny (model prog w) A (eval elt b) (fun y s₆ => CompStep C wr (J (i + 1)) ys s₃ (some y) s₆) E' s₅
        else CompStep C wr (J (i + 1)) ys s₃ none s₅) E' s₄) E' s₃') E' s₃)
    (done : ∀ D (s' : Shared) ys k h'' tk, J items.length ys s' → s₁.heap.get? D = none → h''.get? D = some (W.listOf ys.toArray k) → Fr (hideAll g wr) L h'' (fun z => if z = y then some (.ref D) else m z) →
      (∀ b o, b ≠ L → b < s₁.heap.objs.size → s'.heap.get? b = some o → h''.get? b = some o) → (∀ b o, b ∉ wr → s₁.heap.get? b = some o → s'.heap.get? b = some o) → Q .next { s' with heap := h'', toks := tk }) :
    wpAny (model prog w) A (exec (.Assign [.Name y py] (.ListComp elt [⟨target, iter, ifs, 0⟩] scope pos) spos) env) Q E s := by
  rw [exec_Assign_Name_used _ _ _ _ hsw]
  refine wpAny_bind (wpAny_standAt (wpAny_bind ?_))
  show wpAny _ A (do let _ ← comprehension (.ListComp elt [⟨target, iter, ifs, 0⟩] scope pos) scope env _ (newList []) false (eval iter env) (some (assign (.Name y py) env))) _ _ s
  refine wpAny_bind (wpAny_mono (wpAny_comprehension_free (use := some (assign (.Name y py) env)) (Q := fun _ s' => Q .next s') rfl hs hclos hkind hnames ?_) (fun _ s' hq => wpAny_pure (wpAny_pure hq)) fun _ _ e => e)
  refine first _ ?_
  refine comp_listR (wr := wr) (RR := fun acc C => compPost (model prog w) A E (some (assign (.Name y py) env)) (fun _ s' => Q .next s') acc C) hh hl hsz hcell hkind hwr J h0 hJ turn ?_
  intro D C s' m' ys k hj hD hC hDC hn hd hk
  have hLlt : L < s₁.heap.objs.size := F.ns.lt
  have hLC : L ≠ C := Nat.ne_of_lt (Nat.lt_trans hLlt hC)
  have hLD : L ≠ D := Nat.ne_of_lt (Nat.lt_trans hLlt hD)
  have hnL : s'.heap.Ns env.locals m := by rw [hL]; exact F.ns.at' fun o e => hk _ o hLw e
  show wpAny _ A (assign (.Name y py) env (.ref D)) _ _ _
  refine wpAny_assign_Name (wpAny_storeName_local hy hnL (fun h₂ hn₂ hs₂ => ?_) hp)
  rw [hL] at hn₂ hs₂
  replace hs₂ : Heap.SameBut L s'.heap h₂ := hs₂
  refine ⟨m', hn.sameBut hs₂ (Ne.symm hLC), fun h₃ hs₃ => ?_⟩
  replace hs₃ : Heap.SameBut C h₂ h₃ := hs₃
  have kp : ∀ b o, b ≠ L → b ≠ C → s'.heap.get? b = some o → h₃.get? b = some o := fun b o h1 h2 e => hs₃.extBut b o h2 (hs₂.extBut b o h1 e)
  have fresh : ∀ a, s₁.heap.objs.size ≤ a → s₁.heap.get? a = none := fun a ha => by
    cases e : s₁.heap.get? a with
    | none => rfl
    | some o' => exact absurd (Heap.lt_size e) (Nat.not_lt.mpr ha)
  refine done D s' ys k h₃ _ hj (fresh D (Nat.le_of_lt hD)) (kp _ _ (Ne.symm hLD) hDC hd) ⟨hn₂.sameBut hs₃ hLC, fun b o e => ?_, by rw [hideAll_size]; exact F.above⟩ (fun b o h1 h2 e => kp b o h1 (Nat.ne_of_lt (Nat.lt_trans h2 hC)) e) hk
  have e1 := of_hideAll _ e
  have hb : b < s₁.heap.objs.size := Heap.lt_size (F.keep b o e1)
  refine kp b o (Nat.ne_of_lt (Nat.lt_of_lt_of_le (Heap.lt_size e1) F.above)) (Nat.ne_of_lt (Nat.lt_trans hb hC)) (hk b o (fun hm => ?_) (F.keep b o e1))
  rw [hideAll_none _ hm] at e; cases e
end
end
section
open PySem PySem.W PyProof.Rows PyProof.V PySem.SeqAt PySem.Spec
theorem readsAll_of_strs {h : Heap} : ∀ {vs : List Value} {ns : List Str}, StrsAre vs ns → ReadsAll h vs (ns.map PyData.str) []
  | _, _, .nil => .nil
  | _, _, .cons k t r => by
    have := ReadsAll.cons (Reads.str (h := h) k t) (readsAll_of_strs (h := h) r)
    simpa using this
theorem reads_of_strs {h : Heap} {a : Addr} {vs : List Value} {ns : List Str} (hl : h.IsList a vs.toArray) (hi : StrsAre vs ns) : Reads h (.ref a) (.list (ns.map PyData.str)) [a] := by
  obtain ⟨o, ho, hc, n, hd⟩ := hl
  exact Reads.list ho hc hd (by simpa using readsAll_of_strs hi)
def AllOk (ns : List Str) : Prop := ∀ n ∈ ns, PyData.strOk n = true
theorem canLayAll0_strs : ∀ ns : List Str, AllOk ns → PyData.canLayAll0 (ns.map PyData.str) = true
  | [], _ => by simp [PyData.canLayAll0]
  | n :: r, h => by simp [PyData.canLayAll0, PyData.canLay0, canLayAll0_strs r (fun x hx => h x (List.mem_cons_of_mem _ hx)), h n (List.mem_cons_self ..)]
theorem depthAll_strs : ∀ ns : List Str, PyData.depthAll (ns.map PyData.str) ≤ 1
  | [] => by simp [PyData.depthAll]
  | n :: r => by
    have := depthAll_strs r
    simp only [List.map_cons, PyData.depthAll, PyData.depth]
    omega
theorem shaped_strs (ns : List Str) (ho : AllOk ns) : shaped (.list (ns.map PyData.str)) = true := by
  have h1 := depthAll_strs ns
  have h2 : PyData.depth (.list (ns.map PyData.str)) ≤ 64 := by simp only [PyData.depth]; omega
  show (PyData.canLay0 (.list (ns.map PyData.str)) && decide (PyData.depth (.list (ns.map PyData.str)) ≤ 64)) = true
  rw [Bool.and_eq_true]
  exact ⟨by simp only [PyData.canLay0]; exact canLayAll0_strs ns ho, decide_eq_true h2⟩
theorem noMix_strs : ∀ ns ms : List Str, noMixAll (ns.map PyData.str) (ms.map PyData.str) = true
  | [], [] => by simp [noMixAll]
  | [], _ :: _ => by simp [noMixAll]
  | _ :: _, [] => by simp [noMixAll]
  | _ :: r, _ :: q => by simp [noMixAll, noMix, noMix_strs r q]
theorem same_strs : ∀ ns ms : List Str, PySem.Spec.sameAll (ns.map PyData.str) (ms.map PyData.str) = decide (ns = ms)
  | [], [] => by simp [PySem.Spec.sameAll]
  | [], _ :: _ => by simp [PySem.Spec.sameAll]
  | _ :: _, [] => by simp [PySem.Spec.sameAll]
  | n :: r, k :: q => by
    simp only [List.map_cons, PySem.Spec.sameAll, PySem.Spec.same, same_strs r q]
    by_cases h : n = k <;> simp [h]
section
variable {prog : Program} {w : World} {A : Around} {E : Value → Shared → Prop} {s : Shared}
theorem ne_strs {a b : Addr} {vs us : List Value} {ns ms : List Str} {Q : Value → Shared → Prop} (hl : s.heap.IsList a vs.toArray) (hi : StrsAre vs ns) (hl' : s.heap.IsList b us.toArray) (hi' : StrsAre us ms) (o1 : AllOk ns) (o2 : AllOk ms) (hu : A.units + 64 < cLine)
    (h : Q (.bool (!decide (ns = ms))) s) : wpAny (model prog w) A (compareOp .NotEq (.ref a) (.ref b)) Q E s :=
  ne_dataH_same (reads_of_strs hl hi) (reads_of_strs hl' hi') (shaped_strs ns o1) (shaped_strs ms o2) hu (by simp only [noMix]; exact noMix_strs ns ms) (by simp only [PySem.Spec.same]; rw [same_strs]; exact h)
end
end
section
/-- rows for the walk -/
theorem rows_M19_1 : True := by
  w_top off
  k_with_none
  trivial
section
variable {prog : Program} {w : World} {A : Around} {s : Shared} {h₀ : Heap} {R : Result → Shared → Prop} {mean : ExcName → Option Value} {mg mb : Str → Option Value}
/-- a call of a function with cells -/
theorem fn_callC {hb : Heap} {news : List (Addr × Obj)} {name qual : Str} {params : Arguments} {body : List Stmt} {scope : Scope} {dV kV doc pm cdv ct oc : Value} {an od : Option Addr} {osl : Array (Option Value)} {f : Addr} {args : Args} {binds : List (Str × Value)}
    (G : Gr w mean mg mb hb) (hkb : ∀ b o, hb.get? b = some o → s.heap.get? b = some o) (hn : ∀ p ∈ news, s.heap.get? p.1 = some p.2 ∧ hb.get? p.1 = none)
    (ho : (hd.heap_39 w.params).lookup f = some ⟨oc, od, .func (fnOf name qual params body scope dV kV doc pm an cdv ct), osl⟩) (hcd : codeIn (hd.heap_39 w.params) cdv qual = true) (hroom : A.depth < recursionLimit)
    (hbind : BindsTo s (fnOf name qual params body scope dV kV doc pm an cdv ct) args binds) (hkind : (binds.all fun y => scope.names.lookup y.1 == some .local || scope.names.lookup y.1 == some .cell) = true)
    (hnd : ((cellsFrom 0 scope.names []).map (·.1)).Nodup)
    (hco : scope.isCoroutine = false) (hgen : scope.isGenerator = false) (hk : scope.kind = .function)
    (h : ∀ g L h₁ tk cells, g = hideAll s.heap (news.map (·.1)) → (hd.heap_39 w.params).In g → Top hd.view_39 (looseW hd.view_39 []) mean mg mb g → (∀ p ∈ news, p.1 < L) → Fr g L h₁ (bindL (envOfC qual scope L f cdv).kindOf binds fun _ => none) → News g L h₁ (cells ++ news) →
      CellsAre (bindC (envOfC qual scope L f cdv).kindOf binds fun _ => none) (cellsFrom (L + 1) scope.names []) cells →
      wpAny (model prog w) (A.deeper (envOfC qual scope L f cdv)) (execs body (envOfC qual scope L f cdv))
        (fun fl s' => R (.ok (.ret (match fl with | .ret v => v | _ => .none))) s')
        (fun e s' => wpAny (model prog w) (A.deeper (envOfC qual scope L f cdv)) (leaving (envOfC qual scope L f cdv) e) (fun _ s'' => R (.error e) s'') (fun e' s'' => R (.error e') s'') s')
        { s with heap := h₁, toks := tk }) : codeAny (model prog w) A (.call (.ref f) args) R s := by
  have Gs := G.keeps hkb
  have Gh := G.hidden hkb (fun p hp => (hn p hp).2)
  refine codeAny_call_function hroom (Gs.X _ _ ho) rfl hco hgen rfl (codeRec_of Gs.X hcd) (hbind _ _ _ _ ?_)
  refine wpAny_newFunctionEnv_cells hk (kindsX hkind _) fun env' he s' x => ?_
  subst he
  refine ⟨Gs.T.nolimit.keeps x.toInCall.keep, codeAny_func ?_⟩
  obtain ⟨h₁, tk, rfl, _⟩ := x.done
  have hk₁ := x.toInCall.keep
  obtain ⟨cells, NC, Y⟩ := Cl.news (h₀ := s.heap) (Nat.le_refl _) fun n c hm => ⟨x.cell n c (lookup_of_mem_nodup (cellsFrom_names scope.names 0 (s.heap.objs.size + 1) [] [] rfl ▸ hnd) hm), x.above n c hm⟩
  refine h _ s.heap.objs.size h₁ tk cells rfl Gh.X Gh.T (fun p hp => Heap.lt_size (hn p hp).1) ⟨x.toInCall.ns, fun b o e => hk₁ b o (of_hideAll _ e), Nat.le_of_eq (hideAll_size _ _)⟩ (fun p hp => ?_) Y
  rcases List.mem_append.mp hp with hp | hp
  · refine ⟨(NC p hp).1, (NC p hp).2.1, ?_⟩
    cases q : (hideAll s.heap (news.map (·.1))).get? p.1 with
    | none => rfl
    | some o => have := of_hideAll _ q; rw [(NC p hp).2.2] at this; cases this
  · exact ⟨hk₁ _ _ (hn p hp).1, Nat.ne_of_lt (Heap.lt_size (hn p hp).1), hideAll_none _ (List.mem_map_of_mem hp)⟩
end
section
variable {M : Model} {A : Around} {E : Value → Shared → Prop} {s : Shared} {h₀ : Heap} {m : Str → Option Value} {scope : Scope} {cl : List (Str × Addr)} {C : Addr} {env b : Env}
theorem comp_cell {x : Str} {pos : Pos} {v : Value} {c : Addr} {o : Obj} {Q : Value → Shared → Prop} (hb : b = compEnvC scope cl C env) (F : Fr h₀ C s.heap m) (hc : (compEnvC scope cl C env).cells.lookup x = some c) (hm : h₀.get? c = some o) (ho : o.data = .cell (some v)) (h : Q v s)
    (hk : (compEnvC scope cl C env).scope.kind = .function) (hx : (compEnvC scope cl C env).kindOf x = some .cell) (hd : (x == ("__debug__" : Str)) = false) :
    wpAny M A (eval (.Name x pos) b) Q E s := by
  subst hb
  exact wpAny_Name (wpAny_loadName_cell hk hx hc ⟨o, F.keep _ _ hm, ho⟩ h) hd
theorem tests1 {c : Expr} {Q : Bool → Shared → Prop} (h : wpAny M A (isTrue c b (eval c b)) Q E s) : wpAny M A (testsOf [c] b) Q E s := by
  unfold testsOf
  rw [List.forIn_cons]
  refine wpAny_bind ?_
  simp only [if_true]
  refine wpAny_bind (wpAny_mono h (fun ok s' hq => wpAny_pure ?_) fun _ _ e => e)
  exact wpAny_pure hq
theorem comp_boot {K : Frag} {mg mb : Str → Option Value} {p : Program} {loose : List Str} {x : Str} {pos : Pos} {v : Value} {Q : Value → Shared → Prop} (hb : b = compEnvC scope cl C env) (F : Fr h₀ C s.heap m) (X : K.In h₀) (T : TopRead p loose mg mb h₀)
    (e : nsIn K mainGlobals x = some none) (hv : bootBuiltins x = some v) (hn : x ≠ "__name__") (h : Q v s) (hg : (compEnvC scope cl C env).globals = mainGlobals) (hbb : (compEnvC scope cl C env).builtins = builtinsNs) (hk : (compEnvC scope cl C env).scope.kind = .function) (hx : (compEnvC scope cl C env).kindOf x = some .globalImplicit) (hd : (x == ("__debug__" : Str)) = false) :
    wpAny M A (eval (.Name x pos) b) Q E s := by
  subst hb
  exact PySem.Calls.Name_function_global hk hx (PySem.Calls.loadGlobal_builtin (env := compEnvC scope cl C env) (by rw [hg]; exact T.g.keeps F.keep) (mg_none_of X T.g e) (by rw [hbb]; exact T.b.keeps F.keep) ((T.builtins x hn).trans hv) h) hd
end
/-- rows for the walk -/
theorem rows_M19_2 : True := by
  k_with "mine enterC" => ( (refine' fn_callC (by assumption) (by assumption) (by assumption) ?k6 ?k7 ?k8 ?k9 ?kB ?kD ?c2 ?c3 ?c4 ?_); (case k6 => k_is); (case k7 => k_is); (case k8 => decide); (case k9 => exact BindsTo.of_eq rfl); (case kB => exact rfl); (case kD => decide +kernel); (case c2 => exact rfl); (case c3 => exact rfl); (case c4 => exact rfl))
  k_with "eval ListComp" => refine hold ?_
  k_with "exec Assign cons ListComp" => refine hold ?_
  k_with "eval Name" => ((with_reducible show wpAny _ _ (eval (Expr.Name (Str.ofString "module") _) _) _ _ _); (with_reducible rename _ = compEnvC _ _ _ _ => kE); (with_reducible rename Fr _ _ _ _ => kF); (with_unfolding_all refine' comp_cell kE kF ?k0 ?k1 ?k2 ?_ ?k4 ?k5 ?k6; (case k5 => with_unfolding_all exact rfl); (case k4 => with_unfolding_all exact rfl); (case k0 => with_unfolding_all exact rfl); (case k1 => assumption); (case k2 => assumption); (case k6 => with_unfolding_all decide)))
  k_with "eval Name" => ((with_reducible show wpAny _ _ (eval (Expr.Name (Str.ofString "name") _) _) _ _ _); (with_reducible rename _ = compEnvC _ _ _ _ => kE); (with_reducible rename Fr _ _ _ _ => kF); (with_unfolding_all refine' comp_name kE kF ?k1 ?_ ?k4 ?k5 ?k6; (case k5 => with_unfolding_all exact rfl); (case k4 => with_unfolding_all exact rfl); (case k1 => with_unfolding_all exact rfl); (case k6 => with_unfolding_all decide)))
  k_with "eval Name" => ((with_reducible show wpAny _ _ (eval (Expr.Name (Str.ofString "len") _) _) _ _ _); (with_reducible rename _ = compEnvC _ _ _ _ => kE); (with_reducible rename Fr _ _ _ _ => kF); (with_unfolding_all refine' comp_boot kE kF ?k1 ?k2 ?k3 ?kv ?kn ?_ ?k4 ?kb ?k5 ?k6 ?k7; (case k6 => with_unfolding_all exact rfl); (case k4 => with_unfolding_all exact rfl); (case kb => with_unfolding_all exact rfl); (case k5 => with_unfolding_all exact rfl); (case k7 => with_unfolding_all decide); (case k1 => k_asm); (case k2 => k_asm); (case k3 => k_is); (case kv => with_unfolding_all exact rfl); (case kn => with_unfolding_all decide)))
  trivial
def leftP (m k : Str) : Bool := m == k || Txt.slice m none (some ((k.length : Int) + 1)) == k ++ Str.ofString "."
def leftB (ns : List Str) (fo : Option Str) (m : Str) : Bool :=
  ns.any (leftP m) || (match fo with | none => true | some y => Txt.slice y none (some 3) == Str.ofString "/p/" || Txt.slice y none (some 2) == Str.ofString "r/")
def leftV (ns : List Str) (fo : Option Str) (m : Str) : Int := if leftB ns fo m = true then 1 else 0
def LeftJ (ns : List Str) (m : Str) (s₁ : Shared) (i : Nat) (ys : List Value) (s : Shared) : Prop := ys.isEmpty = !((ns.take i).any (leftP m)) ∧ (∃ zs, StrsAre ys zs ∧ AllOk zs) ∧ s.os = s₁.os ∧ (AllBare s₁.gens → AllBare s.gens)
theorem left_step {ns : List Str} {m k : Str} {s₁ s₃ s₄ : Shared} {i : Nat} {ys : List Value} {y : Option Value} (h : LeftJ ns m s₁ i ys s₃) (hk : ns[i]? = some k) (hz : ∀ v, y = some v → ∃ z t, v = .str z t ∧ PyData.strOk z = true) (hy : y.isSome = leftP m k) (ho : s₄.os = s₃.os) (hg : s₄.gens = s₃.gens) : LeftJ ns m s₁ (i + 1) (ys ++ y.toList) s₄ := by
  obtain ⟨h1, ⟨zs, q1, q2⟩, h2, h3⟩ := h
  refine ⟨?_, ?_, ho.trans h2, fun x => hg ▸ h3 x⟩
  rotate_left
  · cases y with
    | none => exact ⟨zs, by simpa using q1, q2⟩
    | some v =>
      obtain ⟨z, t, rfl, hz'⟩ := hz v rfl
      exact ⟨zs ++ [z], strs_snoc q1, fun n hn => (List.mem_append.mp hn).elim (q2 n) fun h => by rw [List.mem_singleton.mp h]; exact hz'⟩
  rw [List.take_add_one, hk, List.any_append]
  simp only [Option.toList_some, List.any_cons, List.any_nil, Bool.or_false]
  rw [← hy]
  cases y with
  | none => simp [h1]
  | some v => simp
theorem left_call {w : World} {A : Around} {mean mg mb} {s : Shared} {l : Addr} {items : List Value} {ns : List Str} {m : Str} {tm : Tok} {fv : Value} {fo : Option Str} {Q : Value → Shared → Prop} {E : Value → Shared → Prop}
    (G : Gr w mean mg mb s.heap) (hl : s.heap.IsList l items.toArray) (hns : StrsAre items ns) (hlen : items.length < 1000) (hnl : ∀ k ∈ ns, k.length < 100) (hok : AllOk ns) (hml : m.length < 1000) (hfv : FileIs fv fo)
    (hd : A.depth ≤ 690) (hu : A.units ≤ 800) (hh : A.handled = none)
    (h : ∀ s' t, Kept s s' → Q (.int (leftV ns fo m) t) s') :
    wpAny (model PySem.Challenge.rw_mr0159_01.row.prog w) A (call (.ref 130) [.str m tm, fv, .ref l]) Q E s := by
  refine lower hh hd hu ?_
  clear hh hd hu A
  have hkb : ∀ b o, s.heap.get? b = some o → s.heap.get? b = some o := fun _ _ e => e
  have hn : ∀ p ∈ ([] : List (Addr × Obj)), s.heap.get? p.1 = some p.2 ∧ s.heap.get? p.1 = none := fun _ h => by cases h
  have X := G.X
  revert X; k_fill; intro X
  refine wpAny_call ?_
  walk_at "mine enterC"
  clear X
  intro g L h₁ tk cells hg X T hlt F N Y
  k_cells Y
  try simp only [List.cons_append, List.nil_append] at N
  try dsimp only
  try k_fold
  k_steps
  refine Hold.mk ?_
  have hl1 : h₁.IsList l items.toArray := (hl.at fun _ e => by rw [hg]; exact hideAll_get _ e (by simp)).at fun _ e => F.keep _ _ e
  refine comp_assign (items := items) (wr := []) rfl rfl (by decide) rfl (by decide) rfl rfl (fun _ => rfl) rfl rfl (fun Q' hq => ldLoc F rfl hq) F hl1 (by unfold sizeLine; omega) (fun _ hb => by cases hb) (by simp) (LeftJ ns m _) ⟨rfl, ⟨[], .nil, fun _ h => by cases h⟩, rfl, id⟩ ?_ ?_ ?_
  · rintro i ys s1 s2 ⟨a, a', b, c⟩ _ ho hg
    exact ⟨a, a', ho.trans b, fun x => hg ▸ c x⟩
  · intro i v ys I C s₃ m₃ E' be B hbe hv hJ hB1 hB2 hB3 F3 hit hC
    replace hB1 := fun b o e => hB1 b o List.not_mem_nil e
    have N3 := nilOf F3
    obtain ⟨X3, T3⟩ := (Gr.fr X T F).keeps hB1
    have hcel := (N _ (.head _)).1
    replace hcel := hB1 _ _ hcel
    dsimp only at hcel
    clear F N X T
    obtain ⟨k, tk, hk, rfl⟩ := strs_get hns i v hv
    have hkl : k.length < 100 := hnl k (List.mem_of_getElem? hk)
    refine wpAny_of_eq (rfl : letOwnedTupleGo (.Name _ _) (.ref I) _ = pure ()) ?_
    refine comp_set hbe F3 N3 (fun h5 F5 N5 hs5 => ?_) rfl rfl
    clear F3 N3
    refine tests1 ?_
    k_steps
    · rename Fr _ _ _ _ => F
      exact ⟨⟨_, F.ns⟩, fun b o hb hw e => F.keep b o (hB2 b o hb hw e), left_step hJ hk (by rintro v (_ | ⟨_, rfl⟩) <;> exact ⟨_, _, rfl, hok k (List.mem_of_getElem? hk)⟩) (by simp [leftP, *]) rfl rfl⟩
    · rename Fr _ _ _ _ => F
      exact ⟨⟨_, F.ns⟩, fun b o hb hw e => F.keep b o (hB2 b o hb hw e), left_step hJ hk (by rintro v (_ | ⟨_, rfl⟩) <;> exact ⟨_, _, rfl, hok k (List.mem_of_getElem? hk)⟩) (by simp [leftP, *]) rfl rfl⟩
    · rename Fr _ _ _ _ => F
      exact ⟨⟨_, F.ns⟩, fun b o hb hw e => F.keep b o (hB2 b o hb hw e), left_step hJ hk (by rintro v (_ | ⟨_, rfl⟩) <;> exact ⟨_, _, rfl, hok k (List.mem_of_getElem? hk)⟩) (by simp [leftP, *]) rfl rfl⟩
  · rintro D s' ys k h'' tk'' ⟨j1, ⟨zs, hzs, hzo⟩, j2, j3⟩ hDn hD F6 hk6 hk7
    rw [show ∀ h, hideAll h [] = h from fun _ => rfl] at F6
    have N6 : News g L h'' [(D, W.listOf ys.toArray k)] := by
      intro p hp
      rw [List.mem_singleton.mp hp]
      refine ⟨hD, ?_, ?_⟩
      · rintro rfl
        obtain ⟨oL, _, _, hL, _⟩ := F.ns
        rw [show _ = none from hDn] at hL; cases hL
      · cases e : g.get? D with
        | none => rfl
        | some o => have := F.keep _ _ e; rw [show _ = none from hDn] at this; cases this
    clear F N
    rw [List.take_of_length_le (by rw [strs_length hns]; exact Nat.le_refl _)] at j1
    dsimp only
    have hks : ∀ b o, s.heap.get? b = some o → g.get? b = some o := fun b o e => by rw [hg]; exact hideAll_get _ e (by simp)
    have fin : ∀ (h6 : Heap) (m6 : Str → Option Value) tk6 tv i, Fr g L h6 m6 → leftV ns fo m = i → Q (.int i tv) { s' with heap := h6, toks := tk6 } := fun h6 m6 tk6 tv i F e =>
      retI (h _ _ ⟨fun b o e => F.keep b o (hks b o e), j2, j3⟩) e.symm
    cases ys with
    | nil =>
      have hno : ns.any (leftP m) = false := by simpa using j1.symm
      rcases hfv with ⟨rfl, rfl⟩ | ⟨yf, tf, rfl, rfl, hyl⟩
      · k_steps
        rename Fr _ _ _ _ => F
        exact fin _ _ _ _ _ F (by simp [leftV, leftB])
      · k_steps
        · rename Fr _ _ _ _ => F
          exact fin _ _ _ _ _ F (by simp [leftV, leftB, *])
        · rename Fr _ _ _ _ => F
          exact fin _ _ _ _ _ F (by simp [leftV, leftB, *])
        · rename Fr _ _ _ _ => F
          exact fin _ _ _ _ _ F (by simp [leftV, leftB, *])
    | cons y r =>
      have hyes : ns.any (leftP m) = true := by
        cases e : ns.any (leftP m) with
        | true => rfl
        | false => rw [e] at j1; simp at j1
      k_steps
      rename Fr _ _ _ _ => F
      rename News _ _ _ _ => N
      refine ne_strs (vs := y :: r) (us := []) ⟨_, (N _ (.tail _ (.head _))).1, rfl, _, rfl⟩ hzs ⟨_, (N _ (.head _)).1, rfl, _, rfl⟩ .nil hzo (fun _ h => by cases h) (Nat.le_of_ble_eq_true rfl) ?_
      cases hzs
      simp only [reduceCtorEq, decide_false, Bool.not_false]
      k_steps
      exact fin _ _ _ _ _ F (by simp [leftV, leftB, *])
end
section
section
variable {prog : Program} {w : World} {A : Around} {E : Value → Shared → Prop} {s : Shared}
theorem owned_list {elts : List Expr} {x1} {pos : Pos} {I l : Addr} {i : Nat} {v : Value} {Q : Unit → Shared → Prop} (hit : s.heap.IsListIter I l i) (h : Q () s) : wpAny (model prog w) A (letOwnedTupleGo (.Tuple elts x1 pos) (.ref I) v) Q E s := by
  obtain ⟨o, ho, hc, hd⟩ := hit
  unfold letOwnedTupleGo
  cases v with
  | ref a =>
    refine wpAny_bind (wpAny_load ho ?_)
    rw [hc, hd]
    dsimp only
    rw [if_neg (by simp)]
    exact wpAny_pure h
  | _ => exact wpAny_pure h

theorem unpack_list2 {l : Addr} {a b : Value} {t1 t2 : Value → Sem Unit} {Q : Unit → Shared → Prop} (hh : A.handled = none) (hl : s.heap.IsList l #[a, b])
    (h : ∀ h' tk, (∀ b o, s.heap.get? b = some o → h'.get? b = some o) → wpAny (model prog w) A (t1 a) (fun _ s1 => wpAny (model prog w) A (t2 b) Q E s1) E { s with heap := h', toks := tk }) :
    wpAny (model prog w) A (unpack (.ref l) [(false, t1), (false, t2)]) Q E s := by
  have hlt : l < s.heap.objs.size := by obtain ⟨o, ho, _⟩ := hl; exact Heap.lt_size ho
  have hne : l ≠ s.heap.objs.size := Nat.ne_of_lt hlt
  have WK := Walks.list (prog := prog) (w := w) (A := A) hh s.heap.objs.size l hne #[a, b]
  unfold unpack
  show wpAny _ _ (holding [.ref l] (unpackItems (.ref l) 2 none) >>= fun items => assignInOrder [t1, t2] items) _ _ _
  refine wpAny_bind (wpAny_holding ?_)
  unfold unpackItems notIterableAtAll
  refine wpAny_bind (wpAny_bind (wpAny_specialOf hl.typeIs PySem.F.slot_list_iter.lookup ?_))
  refine wpAny_pure ?_
  simp only [Bool.false_eq_true, if_false]
  refine wpAny_bind (wpAny_holding (wpAny_pyIter_list hl ?_))
  have up : ∀ b o, s.heap.get? b = some o → (s.heap.push { cls := .type "list_iterator", data := .fields #[.ref l, .int 0 0] }).get? b = some o := fun b o e => Heap.get?_push_of_some _ e
  refine wpAny_bind (wpAny_holding ?_)
  show wpAny _ _ (pyNext (.ref s.heap.objs.size) >>= _) _ _ _
  refine wpAny_bind (WK.item 0 _ _ _ (Nat.zero_lt_succ _) ⟨⟨_, Heap.get?_push_size _ rfl, rfl, rfl⟩, hl.at fun o e => up _ _ e⟩ fun v h₁ tk₁ hP hst hk₁ => ?_)
  have hv : v = a := (Option.some.inj hP).symm
  subst hv
  refine wpAny_bind (wpAny_holding ?_)
  show wpAny _ _ (pyNext (.ref s.heap.objs.size) >>= _) _ _ _
  refine wpAny_bind (WK.item 1 _ _ _ (Nat.lt_succ_self _) hst fun v' h₂ tk₂ hP₂ hst₂ hk₂ => ?_)
  have hv : v' = b := (Option.some.inj hP₂).symm
  subst hv
  refine wpAny_bind (wpAny_holding (wpAny_pure (wpAny_pure (wpAny_pure ?_))))
  rw [if_neg (by simp)]
  refine wpAny_bind (wpAny_holding (WK.done _ _ _ hst₂ fun h₃ tk₃ hk₃ => ?_))
  simp only [Option.isSome_none, Bool.false_eq_true, if_false]
  refine wpAny_pure ?_
  have hx := h h₃ tk₃ fun c o e => by
    have hc : c ∉ [s.heap.objs.size] := fun hm => by rw [List.mem_singleton.mp hm] at e; exact absurd (Heap.lt_size e) (Nat.lt_irrefl _)
    exact hk₃ c o hc (hk₂ c o hc (hk₁ c o hc (up c o e)))
  show wpAny _ _ (holding [v'] (t1 v) >>= fun _ => holding [] (t2 v') >>= fun _ => pure ()) _ _ _
  refine wpAny_bind (wpAny_holding (wpAny_mono hx (fun _ s1 h1 => ?_) fun _ _ e => e))
  exact wpAny_bind (wpAny_holding (wpAny_mono h1 (fun _ s2 h2 => wpAny_pure h2) fun _ _ e => e))
variable {R : Result → Shared → Prop}
theorem for_list2 {nm x1 x2 : Str} {sc : Scope} {L fa : Addr} {cd : Value} {h₀ : Heap} {l : Addr} {items : List Value} {m₀ : Str → Option Value} {news₀ : List (Addr × Obj)} {p1 p2 pt : Pos} {kt} {body : List Stmt}
    (hh : A.handled = none) (hk : sc.kind = .function) (kx1 : (envOf nm sc L fa cd).kindOf x1 = some .local) (kx2 : (envOf nm sc L fa cd).kindOf x2 = some .local) (hpr : ∀ (j : Nat) v, items[j]? = some v → ∃ p a b, v = .ref p ∧ h₀.IsList p #[a, b])
    (hl : h₀.IsList l items.toArray) (F : Fr h₀ L s.heap m₀) (N : News h₀ L s.heap news₀)
    (J : Nat → (Str → Option Value) → List (Addr × Obj) → Prop) (h0 : J 0 m₀ news₀)
    (turn : ∀ (j : Nat) p a b m' news' own (s₁ : Shared) E', items[j]? = some (.ref p) → h₀.IsList p #[a, b] → J j m' news' → news'.map (·.1) = news₀.map (·.1) → OwnOff own (news₀.map (·.1)) → s₁.os = s.os → (AllBare s.gens → AllBare s₁.gens) →
      Fr h₀ L s₁.heap (fun y => if y = x2 then some b else if y = x1 then some a else m' y) → News h₀ L s₁.heap (news' ++ own) →
      wpAny (model prog w) A (execs body (envOf nm sc L fa cd)) (ForPost h₀ L (news₀.map (·.1)) (J (j + 1)) own s₁ (fun v s' => R (.ok (.ret v)) s')) E' s₁)
    (done : ∀ m' news' (s₂ : Shared), J items.length m' news' → Fr h₀ L s₂.heap m' → News h₀ L s₂.heap news' → news'.map (·.1) = news₀.map (·.1) → s₂.os = s.os → (AllBare s.gens → AllBare s₂.gens) → R (.ok .next) s₂) :
    wpAny (model prog w) A (pyIter (.ref l)) (fun it s₂ => codeAny (model prog w) A (.forLoop (.Tuple [.Name x1 p1, .Name x2 p2] kt pt) it body [] (envOf nm sc L fa cd)) R s₂) E s := by
  have hls : s.heap.IsList l items.toArray := hl.at fun o e => F.keep l o e
  obtain ⟨ol, hol, _⟩ := id hl
  have hlt₀ : l < h₀.objs.size := Heap.lt_size hol
  have hlL : l < L := Nat.lt_of_lt_of_le hlt₀ F.above
  have hLlt := F.ns.lt
  have hne : l ≠ s.heap.objs.size := Nat.ne_of_lt (Nat.lt_trans hlL hLlt)
  refine wpAny_pyIter_list hls ?_
  have WK := Walks.list (prog := prog) (w := w) (A := A) hh s.heap.objs.size l hne items.toArray
  have hlen : items.toArray.size = items.length := by simp
  rw [hlen] at WK
  generalize hIt : s.heap.objs.size = It at *
  have hI0 : h₀.get? It = none := by
    cases e : h₀.get? It with
    | none => rfl
    | some o => exact absurd (Heap.lt_size (F.keep _ _ e)) (by rw [hIt]; exact Nat.lt_irrefl _)
  have hIL : It ≠ L := fun e => absurd hLlt (e ▸ Nat.lt_irrefl _)
  have hIn : ∀ p ∈ news₀, p.1 ≠ It := fun p hp e => absurd (Heap.lt_size (N p hp).1) (by rw [hIt, e]; exact Nat.lt_irrefl _)
  refine codeAny_forLoop_any (fun k s' => ∃ j m' news', j ≤ items.length ∧ k = items.length - j ∧ Fr h₀ L s'.heap m' ∧ News h₀ L s'.heap news' ∧ news'.map (·.1) = news₀.map (·.1) ∧ J j m' news' ∧ s'.heap.IsListIter It l j ∧ s'.os = s.os ∧ (AllBare s.gens → AllBare s'.gens)) ?_ items.length
    ⟨0, m₀, news₀, Nat.zero_le _, (Nat.sub_zero _).symm, F.push _, N.grown fun b o e => Heap.get?_push_of_some _ e, rfl, h0, ⟨_, hIt ▸ Heap.get?_push_size _ rfl, rfl, rfl⟩, rfl, id⟩
  rintro k s' ⟨j, m', news', hj, rfl, F', N', hadr, hJ, hit, hos, hg⟩
  have hl' : s'.heap.IsList l items.toArray := hl.at fun o e => F'.keep l o e
  rcases Nat.lt_or_ge j items.length with hlt | hge
  · refine WK.item j s' _ _ hlt ⟨hit, hl'⟩ fun v h₂ tk₂ hP hst₂ hk₂ => ?_
    have hk₂' : ∀ b o, b ≠ It → s'.heap.get? b = some o → h₂.get? b = some o := fun b o hb e => hk₂ b o (fun hm => hb (List.mem_singleton.mp hm)) e
    have adr : ∀ p ∈ news', p.1 ≠ It := fun p hp => by
      have h1 : p.1 ∈ news₀.map (·.1) := hadr ▸ List.mem_map_of_mem hp
      obtain ⟨q, hq, hqe⟩ := List.mem_map.mp h1
      rw [← hqe]; exact hIn q hq
    have F₂ : Fr h₀ L h₂ m' := by
      obtain ⟨oL, es, ep, hL, r⟩ := F'.ns
      exact ⟨⟨oL, es, ep, hk₂' L oL (Ne.symm hIL) hL, r⟩, fun b o e => hk₂' b o (by rintro rfl; rw [e] at hI0; cases hI0) (F'.keep b o e), F'.above⟩
    have N₂ : News h₀ L h₂ news' := fun p hp => ⟨hk₂' _ _ (adr p hp) (N' p hp).1, (N' p hp).2⟩
    have hvj : items[j]? = some v := by simpa using hP
    obtain ⟨p, a, b, rfl, hab⟩ := hpr j v hvj
    refine owned_list hst₂.1 ?_
    rw [arm_assign_Tuple]
    refine wpAny_bind (wpAny_standAt ?_)
    show wpAny _ _ (unpack (.ref p) [(false, assign (.Name x1 p1) (envOf nm sc L fa cd)), (false, assign (.Name x2 p2) (envOf nm sc L fa cd))]) _ _ _
    refine unpack_list2 hh (hab.at fun o e => F₂.keep p o e) fun h₂a tk₂a hk₂a => ?_
    have F₂a := F₂.keeps hk₂a
    have N₂a := N₂.grown hk₂a
    refine wpAny_assign_Name (stSame F₂a (fun h₃a F₃a hs₃a => ?_) hk kx1)
    replace hs₃a : Heap.SameBut L h₂a h₃a := hs₃a
    have N₃a := N₂a.set hs₃a
    refine wpAny_assign_Name (stSame F₃a (fun h₃ F₃ hs₃ => ?_) hk kx2)
    replace hs₃ : Heap.SameBut L h₃a h₃ := hs₃
    have N₃ := N₃a.set hs₃
    obtain ⟨oI, hoI, hI2⟩ := hst₂.1
    have hoI₃ : h₃.get? It = some oI := hs₃.extBut _ _ hIL (hs₃a.extBut _ _ hIL (hk₂a _ _ hoI))
    have NO : News h₀ L h₃ (news' ++ [(It, oI)]) := fun q hq => by
      rcases List.mem_append.mp hq with hq | hq
      · exact N₃ q hq
      · rw [List.mem_singleton.mp hq]; exact ⟨hoI₃, hIL, hI0⟩
    have hoff : OwnOff [(It, oI)] (news₀.map (·.1)) := fun q hq b hb => by
      rw [List.mem_singleton.mp hq]
      obtain ⟨p, hp, rfl⟩ := List.mem_map.mp hb
      exact Ne.symm (hIn p hp)
    refine wpAny_mono (turn j p a b m' news' [(It, oI)] _ _ hvj hab hJ hadr hoff hos hg F₃ NO) (fun f s₂ hf => ?_) fun _ _ e => e
    have go : (s₂.os = s'.os ∧ (AllBare s'.gens → AllBare s₂.gens) ∧ ∃ m2 news2, Fr h₀ L s₂.heap m2 ∧ News h₀ L s₂.heap (news2 ++ [(It, oI)]) ∧ news2.map (·.1) = news₀.map (·.1) ∧ J (j + 1) m2 news2) →
        ∃ m, m < items.length - j ∧ ∃ j m' news', j ≤ items.length ∧ m = items.length - j ∧ Fr h₀ L s₂.heap m' ∧ News h₀ L s₂.heap news' ∧ news'.map (·.1) = news₀.map (·.1) ∧ J j m' news' ∧ s₂.heap.IsListIter It l j ∧ s₂.os = s.os ∧ (AllBare s.gens → AllBare s₂.gens) := by
      rintro ⟨ho, hgg, m2, news2, F5, N5, ha5, hJ5⟩
      exact ⟨items.length - (j + 1), by omega, j + 1, m2, news2, hlt, rfl, F5, fun q hq => N5 q (List.mem_append.mpr (.inl hq)), ha5, hJ5,
        ⟨oI, (N5 _ (List.mem_append.mpr (.inr (List.mem_singleton.mpr rfl)))).1, hI2⟩, ho.trans hos, fun x => hgg (hg x)⟩
    cases f with
    | next => exact go hf
    | cont => exact go hf
    | brk => exact hf.elim
    | ret v => exact hf
  · have hin : j = items.length := Nat.le_antisymm hj hge
    subst hin
    refine WK.done s' _ _ ⟨hit, hl'⟩ fun h₂ tk₂ hk₂ => ?_
    have hk₂' : ∀ b o, b ≠ It → s'.heap.get? b = some o → h₂.get? b = some o := fun b o hb e => hk₂ b o (fun hm => hb (List.mem_singleton.mp hm)) e
    have adr : ∀ p ∈ news', p.1 ≠ It := fun p hp => by
      have h1 : p.1 ∈ news₀.map (·.1) := hadr ▸ List.mem_map_of_mem hp
      obtain ⟨q, hq, hqe⟩ := List.mem_map.mp h1
      rw [← hqe]; exact hIn q hq
    show wpAny _ _ (execs [] _) _ _ _
    refine wpAny_pure (done m' news' _ hJ ?_ (fun p hp => ⟨hk₂' _ _ (adr p hp) (N' p hp).1, (N' p hp).2⟩) hadr hos hg)
    obtain ⟨oL, es, ep, hL, r⟩ := F'.ns
    exact ⟨⟨oL, es, ep, hk₂' L oL (Ne.symm hIL) hL, r⟩, fun b o e => hk₂' b o (by rintro rfl; rw [e] at hI0; cases hI0) (F'.keep b o e), F'.above⟩
end
end
section
/-- rows for the walk -/
theorem rows_M21_1 : True := by
  w_top off
  k_with_none
  k_with "mine enter" => ( (refine' fn_call (by assumption) (by assumption) ?k6 ?k7 ?k8 ?k9 ?kB ?c2 ?c3 ?c4 ?c5 ?_); (case k6 => k_is); (case k7 => k_is); (case k8 => decide); (case k9 => exact BindsTo.of_eq rfl); (case kB => exact locs rfl); (case c2 => exact rfl); (case c3 => exact rfl); (case c4 => exact rfl); (case c5 => decide))
  k_with "compareOp NotIn" => refine hold ?_
  k_with "exec For Tuple Name cons nil" => refine hold ?_
  trivial
/-- what one tells, ask by ask, who keeps to what it told of a module -/
def run (ans : Option Str → Str → Int) : (Str → Option Int) → List (Str × Option Str) → List Int
  | _, [] => []
  | f, (m, fo) :: r => (f m).getD (ans fo m) :: run ans (fun k => if k = m then some ((f m).getD (ans fo m)) else f k) r
def runF (ans : Option Str → Str → Int) : (Str → Option Int) → List (Str × Option Str) → (Str → Option Int)
  | f, [] => f
  | f, (m, fo) :: r => runF ans (fun k => if k = m then some ((f m).getD (ans fo m)) else f k) r
theorem News.two {g h : Heap} {L a b : Addr} {oa ob : Obj} (x : h.get? a = some oa ∧ a ≠ L ∧ g.get? a = none) (y : h.get? b = some ob ∧ b ≠ L ∧ g.get? b = none) : News g L h [(a, oa), (b, ob)] := by
  intro p hp
  rcases List.mem_cons.mp hp with rfl | hp
  · exact x
  · rw [List.mem_singleton.mp hp]; exact y
theorem run_snoc (ans : Option Str → Str → Int) : ∀ (l : List (Str × Option Str)) (f : Str → Option Int) m fo, run ans f (l ++ [(m, fo)]) = run ans f l ++ [((runF ans f l) m).getD (ans fo m)]
  | [], f, m, fo => rfl
  | (a, b) :: r, f, m, fo => by
    show _ :: run ans _ (r ++ [(m, fo)]) = _
    rw [run_snoc ans r]; rfl
theorem runF_snoc (ans : Option Str → Str → Int) : ∀ (l : List (Str × Option Str)) (f : Str → Option Int) m fo, runF ans f (l ++ [(m, fo)]) = fun k => if k = m then some (((runF ans f l) m).getD (ans fo m)) else runF ans f l k
  | [], f, m, fo => rfl
  | (a, b) :: r, f, m, fo => by
    show runF ans _ (r ++ [(m, fo)]) = _
    rw [runF_snoc ans r]; rfl
theorem take_snoc {α : Type} {l : List α} {j : Nat} {x : α} (h : l[j]? = some x) : l.take (j + 1) = l.take j ++ [x] := by
  rw [List.take_add_one, h]; rfl

/-- the asks as they lie in a list of lists -/
def AsksAre (h : Heap) (items : List Value) (asks : List (Str × Option Str)) : Prop :=
  items.length = asks.length ∧ ∀ (j : Nat) v, items[j]? = some v → ∃ p m fo t fv, v = .ref p ∧ asks[j]? = some (m, fo) ∧ h.IsList p #[.str m t, fv] ∧ FileIs fv fo ∧ m.length < 1000
def dmap (kv tv nv : Value) (m : Str → Option Value) : Str → Option Value := fun y =>
  if y = Str.ofString "known" then some kv else if y = Str.ofString "told" then some tv else if y = Str.ofString "names" then some nv else m y
theorem dmap_self {kv tv nv : Value} {m : Str → Option Value} (h1 : m (Str.ofString "known") = some kv) (h2 : m (Str.ofString "told") = some tv) (h3 : m (Str.ofString "names") = some nv) : ∃ m₁, m = dmap kv tv nv m₁ := ⟨m, by
  funext y
  unfold dmap
  split
  · rename_i e; rw [e, h1]
  split
  · rename_i e; rw [e, h2]
  split
  · rename_i e; rw [e, h3]
  · rfl⟩

def DueJ (prog : Program) (w : World) (ns : List Str) (asks : List (Str × Option Str)) (dk dt l : Addr) (j : Nat) (m' : Str → Option Value) (news' : List (Addr × Obj)) : Prop :=
  m' (Str.ofString "known") = some (.ref dk) ∧ m' (Str.ofString "told") = some (.ref dt) ∧ m' (Str.ofString "names") = some (.ref l) ∧
    ∃ od kvs vs kt, news' = [(dk, od), (dt, W.listOf (List.toArray vs) kt)] ∧ od.IsDictOf (PySem.strKind prog w) kvs ∧ IntTab kvs (runF (leftV ns) (fun _ => none) (asks.take j)) ∧ kvs.length ≤ j ∧ IntsAre vs (run (leftV ns) (fun _ => none) (asks.take j))
section
variable {prog : Program} {w : World} {A : Around} {E : Value → Shared → Prop} {s : Shared}
theorem item_int {value slice : Expr} {d : Addr} {od : Obj} {kvs : List (Str × Value)} {k : Str} {t ti : Tok} {i : Int} {Q : Value → Shared → Prop} (e : s.heap.get? d = some od) (hdo : od.IsDictOf (PySem.strKind prog w) kvs) (hv : valueAt kvs k = some (.int i ti))
    (h : Q (.int i ti) { s with toks := s.toks + 1 })
    (hs : subscripted slice false (.ref d) (.str k t) = operate [.ref d, .str k t] (getItem (.ref d) (.str k t))) :
    wpAny (model prog w) A (subscriptTail value slice (.ref d) (.str k t)) Q E s := by
  have hd : s.heap.DictOf (PySem.strKind prog w) d kvs := Heap.dictOf_iff.mpr ⟨od, e, hdo⟩
  exact PyProof.Rows.subscriptTail_builtin_flat hd.typeIs slot_dict_getitem.lookup (wpAny_getItem_of (knd := PySem.strKind prog w) (strKind_is _ _ _ _) hd.mapOf hv ⟨fun a e => (by cases e), h⟩) hs
end
theorem ne_of_dict {prog : Program} {w : World} {h : Heap} {a d : Addr} {od : Obj} {vs : Array Value} {k : Nat} {kvs : List (Str × Value)} (x : h.get? a = some (W.listOf vs k)) (y : h.get? d = some od) (hdo : od.IsDictOf (PySem.strKind prog w) kvs) : a ≠ d := by
  rintro rfl
  rw [x] at y
  have e2 := congrArg (fun o : Obj => o.data) (Option.some.inj y)
  obtain ⟨es, ep, _, hd', _⟩ := hdo
  dsimp only at e2
  rw [hd'] at e2
  cases e2
theorem ints_snoc {vs : List Value} {xs : List Int} {y : Int} {t : Tok} (h : IntsAre vs xs) : IntsAre (vs ++ [.int y t]) (xs ++ [y]) := by
  induction h with
  | nil => exact .cons y t .nil
  | cons z u _ ih => exact .cons z u ih
theorem ints_length {vs : List Value} {xs : List Int} (h : IntsAre vs xs) : vs.length = xs.length := by
  induction h with
  | nil => rfl
  | cons y t _ ih => simp [ih]
theorem run_length (ans : Option Str → Str → Int) : ∀ (l : List (Str × Option Str)) (f : Str → Option Int), (run ans f l).length = l.length
  | [], _ => rfl
  | (a, b) :: r, f => by show (run ans _ r).length + 1 = _; rw [run_length ans r]; rfl
theorem due_call {w : World} {A : Around} {mean mg mb} {s : Shared} {la l : Addr} {items nitems : List Value} {asks : List (Str × Option Str)} {ns : List Str} {Q : Value → Shared → Prop} {E : Value → Shared → Prop}
    (G : Gr w mean mg mb s.heap) (hla : s.heap.IsList la items.toArray) (hask : AsksAre s.heap items asks) (hal : asks.length < 1000)
    (hl : s.heap.IsList l nitems.toArray) (hns : StrsAre nitems ns) (hlen : nitems.length < 1000) (hnl : ∀ k ∈ ns, k.length < 100) (hok : AllOk ns)
    (hd : A.depth ≤ 680) (hu : A.units ≤ 700) (hh : A.handled = none)
    (h : ∀ s' D vs k, Kept s s' → s.heap.get? D = none → s'.heap.get? D = some (W.listOf (List.toArray vs) k) → IntsAre vs (run (leftV ns) (fun _ => none) asks) → Q (.ref D) s') :
    wpAny (model PySem.Challenge.rw_mr0159_01.row.prog w) A (call (.ref 142) [.ref la, .ref l]) Q E s := by
  refine lower hh hd hu ?_
  clear hh hd hu A
  obtain ⟨X, T⟩ := G
  revert X; k_fill; intro X
  refine wpAny_call ?_
  walk_at "mine enter"
  intro L h₁ hL F N
  try dsimp only
  try k_fold
  k_steps
  rename Fr _ _ _ _ => F
  rename News _ _ _ _ => N
  rename Obj.IsDictOf (PySem.strKind _ _) _ _ => hdo
  rename (_ == sysModules) = false => hsm
  refine Hold.mk ?_
  have n1 := N _ (.tail _ (.head _))
  have n2 := N _ (.tail _ (.tail _ (.head _)))
  have N2 := News.two n2 n1
  have hne := ne_of_dict n1.1 n2.1 hdo
  refine wpAny_For ?_
  refine ld F rfl ?_
  refine for_list2 rfl rfl rfl rfl ?hpr hla F N2 (DueJ PySem.Challenge.rw_mr0159_01.row.prog w ns asks _ _ l) ⟨rfl, rfl, rfl, _, [], [], 0, rfl, hdo, fun k => .inl ⟨rfl, rfl⟩, Nat.le_refl _, .nil⟩ ?turn ?done
  case hpr =>
    intro j v hv
    obtain ⟨p, m, fo, t, fv, a, b, c, d, _⟩ := hask.2 j v hv
    exact ⟨p, _, _, a, c⟩
  case turn =>
    clear F N N2 n1 n2 hdo
    rintro j p a b m' news' own s₁ E' hv hab ⟨a1, a2, a3, od, kvs, vs, kt, rfl, hdo, htab, hkl, hvs⟩ hadr hoff hos hgen F N
    obtain ⟨p', m, fo, tm, fv, e1, hj, e3, hfv, hml⟩ := hask.2 j _ hv
    cases e1
    have e4 : (#[a, b] : Array Value) = #[.str m tm, fv] := by
      obtain ⟨o, ho, _, n, hd⟩ := hab
      obtain ⟨o', ho', _, n', hd'⟩ := e3
      rw [ho] at ho'; cases ho'
      rw [hd] at hd'; cases hd'; rfl
    have e5 := congrArg Array.toList e4
    simp only [List.cons.injEq, and_true] at e5
    obtain ⟨ea, eb⟩ := e5
    subst ea; subst eb
    clear e4 e3 hab
    obtain ⟨m₁, rfl⟩ := dmap_self a1 a2 a3
    clear a1 a2 a3 hadr
    simp only [List.cons_append, List.nil_append] at N
    have hvz : vs.length ≤ 1000 := by
      have := ints_length hvs
      rw [run_length, List.length_take] at this
      omega
    have hjl : j ≤ 1000 := by
      have := (List.getElem?_eq_some_iff.mp hj).1
      omega
    k_steps
    refine Hold.mk ?_
    refine wpAny_notIn_of (knd := PySem.strKind PySem.Challenge.rw_mr0159_01.row.prog w) (strKind_is _ _ _ _) hsm (Heap.dictOf_iff.mpr ⟨od, (N _ (.head _)).1, hdo⟩).mapOf ?_
    rcases htab m with ⟨f1, f2⟩ | ⟨i, ti, f1, f2⟩
    · rw [f2]
      dsimp only [Option.isSome_none, Bool.not]
      k_steps
      refine left_call (Gr.fr X T F) (hl.at fun _ e => F.keep _ _ e) hns hlen hnl hok hml hfv (Nat.le_of_ble_eq_true rfl) (Nat.le_of_ble_eq_true rfl) rfl ?_
      intro s2 t2 k2
      have F2 := F.keeps k2.heap
      have N2 := N.grown k2.heap
      clear F N
      k_steps
      rename Fr _ _ _ _ => F
      rename News _ _ _ _ => N
      refine put_d F N ?hr hdo (by unfold sizeLine; omega) ?_
      case hr =>
        intro p hp
        rcases List.mem_cons.mp hp with rfl | hp
        · exact hne
        · exact hoff p hp _ (List.mem_cons_self ..)
      intro od' h5 hdo' F5 N5
      clear F N
      have htab' := tab_put (i := leftV ns fo m) (t := t2) htab f1
      obtain ⟨i', ti', q1, q2⟩ : ∃ i t, (if m = m then some (leftV ns fo m) else runF (leftV ns) (fun _ => none) (asks.take j) m) = some i ∧ valueAt (stored kvs m (.int (leftV ns fo m) t2)) m = some (.int i t) := by
        rcases htab' m with ⟨q, _⟩ | q
        · simp at q
        · exact q
      rw [if_pos rfl] at q1
      cases q1
      have hg : (runF (leftV ns) (fun _ => none) (asks.take j) m).getD (leftV ns fo m) = leftV ns fo m := by rw [f1]; rfl
      k_steps
      refine item_int (N5 _ (.head _)).1 hdo' q2 ?_ (by with_unfolding_all rfl)
      k_steps
      rename Fr _ _ _ _ => F
      rename News _ _ _ _ => N
      refine ⟨k2.os, k2.gens, _, [_, _], F, N, rfl, rfl, rfl, rfl, _, _, vs ++ [_], _, by rw [List.push_toArray], hdo', ?_, ?_, ?_⟩
      · rw [take_snoc hj, runF_snoc, hg]; exact htab'
      · exact Nat.le_trans (stored_length_le _ _ _) (Nat.succ_le_succ hkl)
      · rw [take_snoc hj, run_snoc, hg]; exact ints_snoc hvs
    · rw [f2]
      dsimp only [Option.isSome_some, Bool.not]
      have hg : (runF (leftV ns) (fun _ => none) (asks.take j) m).getD (leftV ns fo m) = i := by rw [f1]; rfl
      k_steps
      rename Fr _ _ _ _ => F
      rename News _ _ _ _ => N
      refine item_int (N _ (.head _)).1 hdo f2 ?_ (by with_unfolding_all rfl)
      k_steps
      rename Fr _ _ _ _ => F
      rename News _ _ _ _ => N
      refine ⟨rfl, id, _, [_, _], F, N, rfl, rfl, rfl, rfl, _, _, vs ++ [_], _, by rw [List.push_toArray], hdo, ?_, ?_, ?_⟩
      · rw [take_snoc hj, runF_snoc, hg]
        intro k
        rcases htab k with q | q
        · left; refine ⟨?_, q.2⟩
          show (if k = m then _ else _) = none
          rw [if_neg (by rintro rfl; rw [f1] at q; cases q.1)]; exact q.1
        · right
          obtain ⟨i', t', q1, q2⟩ := q
          refine ⟨i', t', ?_, q2⟩
          show (if k = m then _ else _) = _
          split
          · rename_i e; rw [e, f1] at q1; exact q1
          · exact q1
      · exact Nat.le_succ_of_le hkl
      · rw [take_snoc hj, run_snoc, hg]; exact ints_snoc hvs
  case done =>
    clear F N N2 n1 n2 hdo
    rintro m' news' s₂ ⟨a1, a2, a3, od, kvs, vs, kt, rfl, hdo, htab, hkl, hvs⟩ F N hadr hos hgen
    obtain ⟨m₁, rfl⟩ := dmap_self a1 a2 a3
    dsimp only
    k_steps
    rw [hask.1, List.take_length] at hvs
    exact h _ _ vs kt ⟨F.keep, hos, hgen⟩ (N _ (.tail _ (.head _))).2.2 (N _ (.tail _ (.head _))).1 hvs
end
section
/-- rows for the walk -/
theorem rows_M22_1 : True := by
  w_top off
  k_with_none
  k_with "mine enterC" => ( (refine' fn_callC (by assumption) (by assumption) (by assumption) ?k6 ?k7 ?k8 ?k9 ?kB ?kD ?c2 ?c3 ?c4 ?_); (case k6 => k_is); (case k7 => k_is); (case k8 => decide); (case k9 => exact BindsTo.of_eq rfl); (case kB => exact rfl); (case kD => decide +kernel); (case c2 => exact rfl); (case c3 => exact rfl); (case c4 => exact rfl))
  k_with "eval ListComp" => refine hold ?_
  k_with "eval Name" => ((with_reducible show wpAny _ _ (eval (Expr.Name (Str.ofString "ignore") _) _) _ _ _); (with_reducible rename _ = compEnvC _ _ _ _ => kE); (with_reducible rename Fr _ _ _ _ => kF); (with_unfolding_all refine' comp_cell kE kF ?k0 ?k1 ?k2 ?_ ?k4 ?k5 ?k6; (case k5 => with_unfolding_all exact rfl); (case k4 => with_unfolding_all exact rfl); (case k0 => with_unfolding_all exact rfl); (case k1 => assumption); (case k2 => assumption); (case k6 => with_unfolding_all decide)))
  k_with "eval Name" => ((with_reducible show wpAny _ _ (eval (Expr.Name (Str.ofString "file") _) _) _ _ _); (with_reducible rename _ = compEnvC _ _ _ _ => kE); (with_reducible rename Fr _ _ _ _ => kF); (with_unfolding_all refine' comp_name kE kF ?k1 ?_ ?k4 ?k5 ?k6; (case k5 => with_unfolding_all exact rfl); (case k4 => with_unfolding_all exact rfl); (case k1 => with_unfolding_all exact rfl); (case k6 => with_unfolding_all decide)))
  k_with "eval Name" => ((with_reducible show wpAny _ _ (eval (Expr.Name (Str.ofString "module") _) _) _ _ _); (with_reducible rename _ = compEnvC _ _ _ _ => kE); (with_reducible rename Fr _ _ _ _ => kF); (with_unfolding_all refine' comp_name kE kF ?k1 ?_ ?k4 ?k5 ?k6; (case k5 => with_unfolding_all exact rfl); (case k4 => with_unfolding_all exact rfl); (case k1 => with_unfolding_all exact rfl); (case k6 => with_unfolding_all decide)))
  trivial
theorem Inst.move {w : World} {h h' : Heap} {x dx S D d : Addr} {xs ds : List Str} {n z : Nat} {f : Str → Option Int} (hI : Inst w h x dx S D d xs ds n f z) (N : Nat) (hN : x < N ∧ dx < N ∧ S < N ∧ D < N ∧ d < N)
    (k : ∀ b o, b < N → h.get? b = some o → h'.get? b = some o) : Inst w h' x dx S D d xs ds n f z := by
  obtain ⟨n1, n2, n3, n4, n5⟩ := hN
  refine ⟨k _ _ n1 hI.ox, ?_, hI.oS.at fun o e => k _ o n3 e, ?_, ?_, hI.dm, hI.ne⟩
  · obtain ⟨t1, t2, t3, e⟩ := hI.odx; exact ⟨t1, t2, t3, k _ _ n2 e⟩
  · obtain ⟨vs, kk, e, r⟩ := hI.oD; exact ⟨vs, kk, k _ _ n4 e, r⟩
  · obtain ⟨od, kvs, e, r⟩ := hI.od; exact ⟨od, kvs, k _ _ n5 e, r⟩
theorem Inst.lt {w : World} {h : Heap} {x dx S D d : Addr} {xs ds : List Str} {n z : Nat} {f : Str → Option Int} (hI : Inst w h x dx S D d xs ds n f z) : x < h.objs.size ∧ dx < h.objs.size ∧ S < h.objs.size ∧ D < h.objs.size ∧ d < h.objs.size := by
  refine ⟨Heap.lt_size hI.ox, ?_, ?_, ?_, ?_⟩
  · obtain ⟨t1, t2, t3, e⟩ := hI.odx; exact Heap.lt_size e
  · obtain ⟨o, _, _, _, e, _⟩ := hI.oS; exact Heap.lt_size e
  · obtain ⟨vs, kk, e, r⟩ := hI.oD; exact Heap.lt_size e
  · obtain ⟨od, kvs, e, r⟩ := hI.od; exact Heap.lt_size e
def ansV (xs ds : List Str) (fo : Option Str) (m : Str) : Int := if ansB xs ds fo m = true then 1 else 0
def AsksJ (w : World) (x dx S D d : Addr) (xs ds : List Str) (n z : Nat) (asks : List (Str × Option Str)) (s₁ : Shared) (i : Nat) (ys : List Value) (s : Shared) : Prop :=
  Inst w s.heap x dx S D d xs ds n (runF (ansV xs ds) told0 (asks.take i)) (z + i) ∧ IntsAre ys (run (ansV xs ds) told0 (asks.take i)) ∧ s.os = s₁.os ∧ (AllBare s₁.gens → AllBare s.gens)

theorem asks_call {w : World} {A : Around} {mean mg mb} {hb : Heap} {s : Shared} {la x dx S D d : Addr} {xs ds : List Str} {n z : Nat} {items : List Value} {asks : List (Str × Option Str)} {Q : Value → Shared → Prop} {E : Value → Shared → Prop}
    (G : Gr w mean mg mb hb) (hkb : ∀ b o, hb.get? b = some o → s.heap.get? b = some o) (h0 : hb.get? x = none ∧ hb.get? dx = none ∧ hb.get? d = none)
    (hI : Inst w s.heap x dx S D d xs ds n told0 z) (hn4 : n ≤ 4000) (hz : z + asks.length < 1000) (hxs : (∃ k1 k2, k1 ≠ k2 ∧ xs.any (· == k1) = true ∧ xs.any (· == k2) = true) ∨ xs = []) (hxl : ∀ k ∈ xs, k.length < 100) (hdl : ∀ k ∈ ds, k.length < 100)
    (hla : s.heap.IsList la items.toArray) (hask : AsksAre s.heap items asks)
    (hd : A.depth ≤ 660) (hu : A.units ≤ 600) (hh : A.handled = none)
    (h : ∀ s' E vs k, (∀ b o, b ≠ d → s.heap.get? b = some o → s'.heap.get? b = some o) → s'.os = s.os → (AllBare s.gens → AllBare s'.gens) → s.heap.get? E = none → s'.heap.get? E = some (W.listOf (List.toArray vs) k) → IntsAre vs (run (ansV xs ds) told0 asks) → Q (.ref E) s') :
    wpAny (model PySem.Challenge.rw_mr0159_01.row.prog w) A (call (.ref 135) [.ref la, .ref x]) Q E s := by
  refine lower hh hd hu ?_
  clear hh hd hu A
  have hn : ∀ p ∈ ([] : List (Addr × Obj)), s.heap.get? p.1 = some p.2 ∧ hb.get? p.1 = none := fun _ h => by cases h
  have X := G.X
  revert X; k_fill; intro X
  refine wpAny_call ?_
  walk_at "mine enterC"
  clear X
  intro g L h₁ tk cells hg X T hlt F N Y
  k_cells Y
  try simp only [List.cons_append, List.nil_append] at N
  try dsimp only
  try k_fold
  k_steps
  rename Fr _ _ _ _ => F
  rename News _ _ _ _ => N
  refine Hold.mk ?_
  rw [eval_ListComp]
  refine wpAny_comprehension_free (use := none) rfl (fun _ => rfl) rfl rfl (by decide) ?_
  refine ldLoc F rfl ?_
  have sk : ∀ b o, s.heap.get? b = some o → h₁.get? b = some o := fun b o e => F.keep b o (by rw [hg]; exact hideAll_get _ e (by simp))
  have hIlt := hI.lt
  have szle : s.heap.objs.size ≤ h₁.objs.size := by
    have h1 := F.above
    rw [hg, hideAll_size] at h1
    exact Nat.le_trans h1 (Nat.le_of_lt F.ns.lt)
  have hI1 : Inst w h₁ x dx S D d xs ds n told0 z := hI.move _ hIlt fun b o _ e => sk b o e
  have hIlt1 := hI1.lt
  have hdla : d ≠ la := by
    rintro rfl
    obtain ⟨od, kvs, e, hdo, _⟩ := hI.od
    obtain ⟨o, ho, _, nn, hd'⟩ := hla
    rw [e] at ho
    cases ho
    obtain ⟨es, ep, _, hd2, _⟩ := hdo
    rw [hd2] at hd'; cases hd'
  have hcel := N _ (.head _)
  refine comp_listR (items := items) (wr := [d]) rfl (hla.at fun o e => sk _ o e) (by have := hask.1; unfold sizeLine; omega) (by decide) rfl (fun b hb => ?hwr) (AsksJ w x dx S D d xs ds n z asks _) ⟨hI1, .nil, rfl, id⟩ ?_ ?turn ?done
  case hwr => rw [List.mem_singleton.mp hb]; exact ⟨hIlt1.2.2.2.2, hdla⟩
  · rintro i ys s1 s2 ⟨a, a', b, c⟩ hkk ho hg
    exact ⟨a.move _ hIlt1 hkk, a', ho.trans b, fun x => hg ▸ c x⟩
  case turn =>
    intro i v ys I C s₃ m₃ E' be B hbe hv hJ hB1 hB2 hB3 F3 hit hC
    obtain ⟨p, m, fo, tm, fv, rfl, hj, hp, hfv, hml⟩ := hask.2 i v hv
    obtain ⟨jI, jv, jo, jg⟩ := hJ
    have hdp : d ≠ p := by
      rintro rfl
      obtain ⟨od, kvs, e, hdo, _⟩ := hI.od
      obtain ⟨o, ho, _, nn, hd'⟩ := hp
      rw [e] at ho
      cases ho
      obtain ⟨es, ep, _, hd2, _⟩ := hdo
      rw [hd2] at hd'; cases hd'
    have nd : ∀ b, b ≠ d → b ∉ [d] := fun b hb hm => hb (List.mem_singleton.mp hm)
    have hC' : h₁.objs.size < C := hC
    obtain ⟨u1, u2, u3, hdx3⟩ := jI.odx
    have hx3 := jI.ox
    have hbB : ∀ b o, hb.get? b = some o → (hideAll B [x, dx]).get? b = some o := fun b o e => by
      refine hideAll_get _ (hB1 b o (nd b (by rintro rfl; rw [h0.2.2] at e; cases e)) (sk b o (hkb b o e))) fun hm => ?_
      rcases List.mem_cons.mp hm with rfl | hm
      · rw [h0.1] at e; cases e
      · rw [List.mem_singleton.mp hm, h0.2.1] at e; cases e
    obtain ⟨X3, T3⟩ := G.keeps hbB
    have F4 : Fr (hideAll B [x, dx]) C s₃.heap m₃ := ⟨F3.ns, fun b o e => F3.keep b o (of_hideAll _ e), by rw [hideAll_size]; exact F3.above⟩
    have N4 : News (hideAll B [x, dx]) C s₃.heap [(x, instObj 79 dx), (dx, dictOf [⟨PyData.keyHash w.params (Str.ofString "_mods"), .str (Str.ofString "_mods") u1, .ref S⟩, ⟨PyData.keyHash w.params (Str.ofString "_dirs"), .str (Str.ofString "_dirs") u2, .ref D⟩, ⟨PyData.keyHash w.params (Str.ofString "_ignore"), .str (Str.ofString "_ignore") u3, .ref d⟩] 3)] :=
      News.two ⟨hx3, Nat.ne_of_lt (Nat.lt_trans hIlt1.1 hC'), hideAll_none _ (List.mem_cons_self ..)⟩ ⟨hdx3, Nat.ne_of_lt (Nat.lt_trans hIlt1.2.1 hC'), hideAll_none _ (List.mem_cons_of_mem _ (List.mem_cons_self ..))⟩
    have hcel3 : (hideAll B [x, dx]).get? (L + 1) = _ := hideAll_get _ (hB1 _ _ (nd _ ?c1) hcel.1) ?c2
    case c1 =>
      intro e
      rw [← e] at hIlt
      have h1 := F.above
      rw [hg, hideAll_size] at h1
      exact absurd hIlt.2.2.2.2 (Nat.not_lt.mpr (Nat.le_succ_of_le h1))
    case c2 =>
      intro hm
      have h1 := F.above
      rw [hg, hideAll_size] at h1
      rcases List.mem_cons.mp hm with e | hm
      · rw [← e] at hIlt; exact absurd hIlt.1 (Nat.not_lt.mpr (Nat.le_succ_of_le h1))
      · rw [← List.mem_singleton.mp hm] at hIlt; exact absurd hIlt.2.1 (Nat.not_lt.mpr (Nat.le_succ_of_le h1))
    have hp3 : s₃.heap.IsList p #[.str m tm, fv] := hp.at fun o e => F3.keep _ _ (hB1 _ _ (nd _ (Ne.symm hdp)) (sk _ _ e))
    clear F N F3 X T
    refine owned_list hit ?_
    rw [arm_assign_Tuple]
    refine wpAny_bind (wpAny_standAt ?_)
    show wpAny _ _ (unpack (.ref p) [(false, assign (.Name (Str.ofString "module") _) be), (false, assign (.Name (Str.ofString "file") _) be)]) _ _ _
    refine unpack_list2 rfl hp3 fun h5 tk5 hk5 => ?_
    have F5 := F4.keeps hk5
    have N5 := N4.grown hk5
    clear F4 N4
    refine comp_set hbe F5 N5 (fun h6 F6 N6 hs6 => ?_) rfl rfl
    refine comp_set hbe F6 N6 (fun h7 F7 N7 hs7 => ?_) rfl rfl
    clear F5 N5 F6 N6
    refine wpAny_pure ?_
    rw [if_pos rfl]
    k_steps
    rename Fr _ _ _ _ => F7
    have k57 : ∀ b o, b < C → s₃.heap.get? b = some o → h7.get? b = some o := fun b o hb e => hs7.extBut b o (Nat.ne_of_lt hb) (hs6.extBut b o (Nat.ne_of_lt hb) (hk5 b o e))
    have hIltC : x < C ∧ dx < C ∧ S < C ∧ D < C ∧ d < C := ⟨Nat.lt_trans hIlt1.1 hC', Nat.lt_trans hIlt1.2.1 hC', Nat.lt_trans hIlt1.2.2.1 hC', Nat.lt_trans hIlt1.2.2.2.1 hC', Nat.lt_trans hIlt1.2.2.2.2 hC'⟩
    have hil : i < asks.length := (List.getElem?_eq_some_iff.mp hj).1
    refine names_call G (fun b o e => F7.keep b o (hbB b o e)) h0 (jI.move C hIltC k57) hn4 (by omega) hfv hml hxs hxl hdl (Nat.le_of_ble_eq_true rfl) (Nat.le_of_ble_eq_true rfl) rfl ?_
    intro s8 t8 hk8 ho8 hg8 hI8
    refine ⟨⟨_, F7.ns.at' fun o e => hk8 C o (Ne.symm (Nat.ne_of_lt hIltC.2.2.2.2)) e⟩, fun b o hb hw e => hk8 b o (fun e => hw (List.mem_singleton.mpr e)) (k57 b o hb e), ?_, ?_, ho8.trans jo, fun q => hg8 (jg q)⟩
    · rw [take_snoc hj, runF_snoc]
      exact hI8
    · rw [take_snoc hj, run_snoc]
      exact ints_snoc jv
  case done =>
    rintro E' C s' m' ys k ⟨jI, jv, jo, jg⟩ hE hC hEC hnC hE2 hk7
    refine ⟨m', hnC, fun h8 hs8 => ?_⟩
    have hs8' : Heap.SameBut C s'.heap h8 := hs8
    have hC' : h₁.objs.size < C := hC
    have hE' : h₁.objs.size < E' := hE
    rw [hask.1, List.take_length] at jv
    refine h _ E' ys k (fun b o hb e => hs8'.extBut b o (Nat.ne_of_lt (Nat.lt_of_lt_of_le (Heap.lt_size e) (Nat.le_trans szle (Nat.le_of_lt hC')))) (hk7 b o (fun hm => hb (List.mem_singleton.mp hm)) (sk b o e))) jo jg ?_ (hs8'.extBut _ _ hEC hE2) jv
    cases e : s.heap.get? E' with
    | none => rfl
    | some o => exact absurd (Nat.lt_of_lt_of_le (Heap.lt_size e) szle) (Nat.not_lt.mpr (Nat.le_of_lt hE'))
end
section
def askM (x : Int) : Str := if x.fmod 6 = 0 then "a" else if x.fmod 6 = 1 then "a.b" else if x.fmod 6 = 2 then "a.c" else if x.fmod 6 = 3 then "ab" else if x.fmod 6 = 4 then "c" else "b.a.c"
def askF (x : Int) : Option Str := if (x.fdiv 6).fmod 5 = 0 then some "/p/x.py" else if (x.fdiv 6).fmod 5 = 1 then some "/p.py" else if (x.fdiv 6).fmod 5 = 2 then none else if (x.fdiv 6).fmod 5 = 3 then some "r/x.py" else some "q/x.py"
def mods : List Str := ["a", "a.b", "a.c", "ab", "c", "b.a.c"]
def files : List (Option Str) := [some "/p/x.py", some "/p.py", none, some "r/x.py", some "q/x.py"]
def names4 : List Str := ["a", "a.b", "b", "ab"]
theorem askM_mem (x : Int) : askM x ∈ mods := by unfold askM mods; (repeat' split) <;> simp
theorem askF_mem (x : Int) : askF x ∈ files := by unfold askF files; (repeat' split) <;> simp
theorem lawName_mem (x : Int) : lawName x ∈ names4 := by unfold lawName names4; (repeat' split) <;> simp
theorem name_mod : (names4.all fun k => mods.all fun m => leftP m k == ((k == m) || starts (k ++ Str.ofString ".") m)) = true := by decide +kernel
theorem files_ok : (files.all fun fo => (match fo with | none => true | some y => Txt.slice y none (some 3) == Str.ofString "/p/" || Txt.slice y none (some 2) == Str.ofString "r/") == (match fo with | none => true | some y => [Str.ofString "/p", Str.ofString "r"].any fun k => starts (k ++ Str.ofString "/") y)) = true := by decide +kernel
theorem any_or {xs : List Str} {p q : Str → Bool} : (xs.any p || xs.any q) = xs.any fun k => p k || q k := by
  induction xs with
  | nil => rfl
  | cons x r ih => simp only [List.any_cons, ← ih]; cases p x <;> cases q x <;> simp
theorem any_congr {xs : List Str} {p q : Str → Bool} (h : ∀ x ∈ xs, p x = q x) : xs.any p = xs.any q := by
  induction xs with
  | nil => rfl
  | cons x r ih => rw [List.any_cons, List.any_cons, h x (List.mem_cons_self ..), ih fun y hy => h y (List.mem_cons_of_mem _ hy)]
theorem left_ans {ns : List Str} {fo : Option Str} {m : Str} (hn : ∀ k ∈ ns, k ∈ names4) (hm : m ∈ mods) (hf : fo ∈ files) : leftV ns fo m = ansV ns [Str.ofString "/p", Str.ofString "r"] fo m := by
  have e : leftB ns fo m = ansB ns [Str.ofString "/p", Str.ofString "r"] fo m := by
    unfold leftB ansB
    rw [any_or]
    have e1 : ns.any (leftP m) = ns.any fun k => (k == m) || starts (k ++ Str.ofString ".") m := any_congr fun k hk => by
      have := List.all_eq_true.mp (List.all_eq_true.mp name_mod k (hn k hk)) m hm
      exact beq_iff_eq.mp this
    have e2 := beq_iff_eq.mp (List.all_eq_true.mp files_ok fo hf)
    rw [e1]
    exact congrArg (fun b => (ns.any fun k => (k == m) || starts (k ++ Str.ofString ".") m) || b) e2
  unfold leftV ansV
  rw [e]
theorem run_congr {a b : Option Str → Str → Int} : ∀ (l : List (Str × Option Str)) (f g : Str → Option Int), (∀ p ∈ l, a p.2 p.1 = b p.2 p.1) → (∀ p ∈ l, p.1 ∈ mods) → (∀ k ∈ mods, f k = g k) → run a f l = run b g l
  | [], _, _, _, _, _ => rfl
  | (m, fo) :: r, f, g, h1, h2, h3 => by
    have e1 := h1 _ (List.mem_cons_self ..)
    have e2 := h3 m (h2 _ (List.mem_cons_self ..))
    dsimp only at e1
    show (f m).getD (a fo m) :: run a _ r = (g m).getD (b fo m) :: run b _ r
    rw [e1, e2]
    congr 1
    refine run_congr r _ _ (fun p hp => h1 p (List.mem_cons_of_mem _ hp)) (fun p hp => h2 p (List.mem_cons_of_mem _ hp)) fun k hk => ?_
    split
    · rfl
    · exact h3 k hk
theorem told0_mods : (mods.all fun k => (told0 k).isNone) = true := by decide +kernel
theorem law_runs {ns : List Str} {asks : List (Str × Option Str)} (hn : ∀ k ∈ ns, k ∈ names4) (ha : ∀ p ∈ asks, p.1 ∈ mods ∧ p.2 ∈ files) :
    run (ansV ns [Str.ofString "/p", Str.ofString "r"]) told0 asks = run (leftV ns) (fun _ => none) asks :=
  run_congr asks _ _ (fun p hp => (left_ans hn (ha p hp).1 (ha p hp).2).symm) (fun p hp => (ha p hp).1) fun k hk => by
    have := List.all_eq_true.mp told0_mods k hk
    exact Option.isNone_iff_eq_none.mp this
theorem law_last : run (ansV [] []) told0 [(Str.ofString "<string>", some (Str.ofString "x.py")), (Str.ofString "c", some (Str.ofString "/p/x.py"))] = [1, 0] := by decide +kernel
end
section
/-- rows for the walk -/
theorem rows_M23b_1 : True := by
  w_top off
  k_with_none
  k_with "eval Name" => ((with_reducible show wpAny _ _ (eval (Expr.Name (Str.ofString "text") _) _) _ _ _); (with_reducible rename _ = compEnvC _ _ _ _ => kE); (with_reducible rename Fr _ _ _ _ => kF); (with_unfolding_all refine' comp_name kE kF ?k1 ?_ ?k4 ?k5 ?k6; (case k5 => with_unfolding_all exact rfl); (case k4 => with_unfolding_all exact rfl); (case k1 => with_unfolding_all exact rfl); (case k6 => with_unfolding_all decide)))
  k_with "eval Name" => ((with_reducible show wpAny _ _ (eval (Expr.Name (Str.ofString "x") _) _) _ _ _); (with_reducible rename _ = compEnvC _ _ _ _ => kE); (with_reducible rename Fr _ _ _ _ => kF); (with_unfolding_all refine' comp_name kE kF ?k1 ?_ ?k4 ?k5 ?k6; (case k5 => with_unfolding_all exact rfl); (case k4 => with_unfolding_all exact rfl); (case k1 => with_unfolding_all exact rfl); (case k6 => with_unfolding_all decide)))
  k_with "eval Call" => refine hold ?_
  trivial
/-- what a comprehension's turn must do (comp_listR, comp_assign) -/
def Turn (prog : Program) (w : World) (A : Around) (elt target : Expr) (ifs : List Expr) (scope : Scope) (cl : List (Str × Addr)) (env : Env) (l : Addr) (items : List Value) (wr : List Addr) (s₁ : Shared) (J : Nat → List Value → Shared → Prop) : Prop :=
  ∀ (i : Nat) v ys I C (s₃ : Shared) m₃ E' b B, b = compEnvC scope cl C env → items[i]? = some v → J i ys s₃ → (∀ b o, b ∉ wr → s₁.heap.get? b = some o → B.get? b = some o) → (∀ b o, b < C → b ∉ wr → s₃.heap.get? b = some o → B.get? b = some o) → (∀ b ∈ wr, B.get? b = none) → Fr B C s₃.heap m₃ → s₃.heap.IsListIter I l (i + 1) → s₁.heap.objs.size < C →
      wpAny (model prog w) A (letOwnedTupleGo target (.ref I) v) (fun _ s₃' => wpAny (model prog w) A (assign target b v) (fun _ s₄ => wpAny (model prog w) A (testsOf ifs b) (fun ok s₅ =>
        if ok = true then wpAny (model prog w) A (eval elt b) (fun y s₆ => CompStep C wr (J (i + 1)) ys s₃ (some y) s₆) E' s₅
        else CompStep C wr (J (i + 1)) ys s₃ none s₅) E' s₄) E' s₃') E' s₃
/-- texts so far -/
def StrJ (f : Nat → List Str) (s₁ : Shared) (i : Nat) (ys : List Value) (s : Shared) : Prop := StrsAre ys (f i) ∧ s.os = s₁.os ∧ (AllBare s₁.gens → AllBare s.gens)
theorem StrJ.grow {f : Nat → List Str} {s₁ : Shared} {n : Nat} : ∀ i ys (s s' : Shared), StrJ f s₁ i ys s → (∀ b o, b < n → s.heap.get? b = some o → s'.heap.get? b = some o) → s'.os = s.os → s'.gens = s.gens → StrJ f s₁ i ys s' :=
  fun _ _ _ _ ⟨a, b, c⟩ _ ho hg => ⟨a, ho.trans b, fun x => hg ▸ c x⟩
theorem ints_get {vs : List Value} {ys : List Int} (h : IntsAre vs ys) : ∀ (j : Nat) (v : Value), vs[j]? = some v → ∃ y t, ys[j]? = some y ∧ v = .int y t := by
  induction h with
  | nil => intro j v h; cases h
  | cons y t _ ih =>
    intro j v hv
    cases j with
    | zero => exact ⟨y, t, rfl, (Option.some.inj hv).symm⟩
    | succ j => exact ih j v hv

abbrev scX (f : String) : Scope := { kind := .function, names := [(Str.ofString ".0", .local), (Str.ofString "x", .local), (Str.ofString f, .globalImplicit)], isGenerator := false, isCoroutine := false }
abbrev scT (f : String) : Scope := { kind := .function, names := [(Str.ofString ".0", .local), (Str.ofString "text", .local), (Str.ofString f, .globalImplicit)], isGenerator := false, isCoroutine := false }

section
variable {w : World} {mean : ExcName → Option Value} {mg mb : Str → Option Value} {s₁ : Shared} {l : Addr} {items : List Value} {xs : List Int} {nm : Str} {sc : Scope} {L : Addr} {p1 p2 p3 p4 : Pos} {cd : Value} {fa : Addr}
theorem texts_turn (G : Gr w mean mg mb s₁.heap) (hi : IntsAre items xs) :
    Turn PySem.Challenge.rw_mr0159_01.row.prog w (Rm 600 400) (.Call (.Name (Str.ofString "_law_text") p1) [.Name (Str.ofString "x") p2] [] p3) (.Name (Str.ofString "x") p4) [] (scX "_law_text") [] (envOfC nm sc L fa cd) l items [] s₁
      (StrJ (fun i => (xs.take i).map lawText) s₁) := by
  intro i v ys I C s₃ m₃ E' be B hbe hv hJ hB1 hB2 hB3 F3 hit hC
  replace hB1 := fun b o e => hB1 b o List.not_mem_nil e
  have N3 := nilOf F3
  obtain ⟨X3, T3⟩ := G.keeps hB1
  obtain ⟨x, tx, hx, rfl⟩ := ints_get hi i v hv
  obtain ⟨j1, j2, j3⟩ := hJ
  refine wpAny_of_eq (rfl : letOwnedTupleGo (.Name _ _) (.ref I) _ = pure ()) ?_
  refine comp_set hbe F3 N3 (fun h5 F5 N5 hs5 => ?_) rfl rfl
  refine wpAny_pure ?_
  rw [if_pos rfl]
  revert X3; k_fill; intro X3
  refine call1 (a := 125) X3 (by k_is) (X3.keeps F5.keep) (fun Q h => comp_glob hbe F5 X3 (topRead_of T3) (by k_is) h rfl rfl rfl (by decide)) (fun Q h => comp_name hbe F5 rfl h rfl rfl (by decide)) ?_
  refine law_text_call (Gr.fr X3 T3 F5) rfl (Nat.le_of_ble_eq_true rfl) (Nat.le_of_ble_eq_true rfl) ?_
  intro s6 t6 k6
  refine ⟨⟨_, (F5.keeps k6.heap).ns⟩, fun b o hb _ e => k6.heap b o (hs5.extBut b o (Nat.ne_of_lt hb) e), ?_, k6.os.trans j2, fun x => k6.gens (j3 x)⟩
  show StrsAre (ys ++ [_]) ((xs.take (i + 1)).map lawText)
  rw [take_snoc hx, List.map_append]
  exact strs_snoc j1

theorem lawText_ne (x : Int) : (lawText x == Str.ofString "('', '')") = false := by
  unfold lawText lawName
  (repeat' split) <;> decide +kernel
theorem names_turn {p5 p6 p7 : Pos} (G : Gr w mean mg mb s₁.heap) (hi : StrsAre items (xs.map keptText)) :
    Turn PySem.Challenge.rw_mr0159_01.row.prog w (Rm 600 400) (.Call (.Name (Str.ofString "_strip_quoted_realnames") p1) [.Name (Str.ofString "text") p2] [] p3) (.Name (Str.ofString "text") p4)
      [.Compare (.Name (Str.ofString "text") p5) [.NotEq] [.Constant (.str (Str.ofString "('', '')")) 0 p6] p7] (scT "_strip_quoted_realnames") [] (envOfC nm sc L fa cd) l items [] s₁
      (StrJ (fun i => ((xs.take i).filter (fun x => !bad x)).map lawName) s₁) := by
  intro i v ys I C s₃ m₃ E' be B hbe hv hJ hB1 hB2 hB3 F3 hit hC
  replace hB1 := fun b o e => hB1 b o List.not_mem_nil e
  have N3 := nilOf F3
  obtain ⟨X3, T3⟩ := G.keeps hB1
  obtain ⟨y, tx, hy, rfl⟩ := strs_get hi i v hv
  rw [List.getElem?_map] at hy
  obtain ⟨x, hx, rfl⟩ := Option.map_eq_some_iff.mp hy
  obtain ⟨j1, j2, j3⟩ := hJ
  refine wpAny_of_eq (rfl : letOwnedTupleGo (.Name _ _) (.ref I) _ = pure ()) ?_
  refine comp_set hbe F3 N3 (fun h5 F5 N5 hs5 => ?_) rfl rfl
  clear F3 N3
  refine tests1 ?_
  revert X3; k_fill; intro X3
  cases hb : bad x with
  | true =>
    have e : keptText x = Str.ofString "('', '')" := by unfold keptText; rw [hb]; rfl
    rw [e] at F5
    clear e hv hy hi
    k_steps
    rename Fr _ _ _ _ => F
    refine ⟨⟨_, F.ns⟩, fun b o hb _ e => F.keep b o (hB2 b o hb List.not_mem_nil e), ?_, j2, j3⟩
    show StrsAre (ys ++ []) (((xs.take (i + 1)).filter (fun x => !bad x)).map lawName)
    rw [take_snoc hx, List.filter_append, List.append_nil]
    simp only [List.filter_cons, hb, Bool.not_true, Bool.false_eq_true, if_false, List.filter_nil, List.append_nil]
    exact j1
  | false =>
    have e : keptText x = lawText x := by unfold keptText; rw [hb]; rfl
    rw [e] at F5
    clear e hv hy hi
    have hne := lawText_ne x
    k_steps
    rotate_left
    · exfalso
      simp_all
    rename Fr _ _ _ _ => F
    rename _ = compEnvC _ _ _ _ => hbe
    refine Hold.mk ?_
    refine call1 (a := 97) X3 (by k_is) (X3.keeps F.keep) (fun Q h => comp_glob hbe F X3 (topRead_of T3) (by k_is) h rfl rfl rfl (by decide)) (fun Q h => comp_name hbe F rfl h rfl rfl (by decide)) ?_
    refine strip_text hb (Gr.fr X3 T3 F) rfl (Nat.le_of_ble_eq_true rfl) (Nat.le_of_ble_eq_true rfl) ?_
    intro s6 t6 k6
    refine ⟨⟨_, (F.keeps k6.heap).ns⟩, fun b o hb _ e => k6.heap b o (hs5.extBut b o (Nat.ne_of_lt hb) e), ?_, k6.os.trans j2, fun x => k6.gens (j3 x)⟩
    show StrsAre (ys ++ [_]) (((xs.take (i + 1)).filter (fun x => !bad x)).map lawName)
    rw [take_snoc hx, List.filter_append, List.map_append]
    simp only [List.filter_cons, hb, Bool.not_false, if_true, List.filter_nil, List.map_cons, List.map_nil]
    exact strs_snoc j1

theorem names2_turn {p5 p6 p7 p8 p9 q1 q2 : Pos} (G : Gr w mean mg mb s₁.heap) (hi : IntsAre items xs) :
    Turn PySem.Challenge.rw_mr0159_01.row.prog w (Rm 600 400) (.Call (.Name (Str.ofString "_law_name") p1) [.Name (Str.ofString "x") p2] [] p3) (.Name (Str.ofString "x") p4)
      [.Compare (.BinOp (.BinOp (.Name (Str.ofString "x") p5) .FloorDiv (.Constant (.int 4) 0 p6) p7) .Mod (.Constant (.int 4) 0 p8) p9) [.NotEq] [.Constant (.int 2) 0 q1] q2] (scX "_law_name") [] (envOfC nm sc L fa cd) l items [] s₁
      (StrJ (fun i => ((xs.take i).filter (fun x => !bad x)).map lawName) s₁) := by
  intro i v ys I C s₃ m₃ E' be B hbe hv hJ hB1 hB2 hB3 F3 hit hC
  replace hB1 := fun b o e => hB1 b o List.not_mem_nil e
  have N3 := nilOf F3
  obtain ⟨X3, T3⟩ := G.keeps hB1
  obtain ⟨x, tx, hx, rfl⟩ := ints_get hi i v hv
  obtain ⟨j1, j2, j3⟩ := hJ
  refine wpAny_of_eq (rfl : letOwnedTupleGo (.Name _ _) (.ref I) _ = pure ()) ?_
  refine comp_set hbe F3 N3 (fun h5 F5 N5 hs5 => ?_) rfl rfl
  clear F3 N3 hv hi
  refine tests1 ?_
  revert X3; k_fill; intro X3
  k_steps
  · have hb : bad x = false := by simp_all [bad]
    rename Fr _ _ _ _ => F
    rename _ = compEnvC _ _ _ _ => hbe
    refine Hold.mk ?_
    refine call1 (a := 118) X3 (by k_is) (X3.keeps F.keep) (fun Q h => comp_glob hbe F X3 (topRead_of T3) (by k_is) h rfl rfl rfl (by decide)) (fun Q h => comp_name hbe F rfl h rfl rfl (by decide)) ?_
    refine law_name_call (Gr.fr X3 T3 F) rfl (Nat.le_of_ble_eq_true rfl) (Nat.le_of_ble_eq_true rfl) ?_
    intro s6 t6 k6
    refine ⟨⟨_, (F.keeps k6.heap).ns⟩, fun b o hb _ e => k6.heap b o (hs5.extBut b o (Nat.ne_of_lt hb) e), ?_, k6.os.trans j2, fun x => k6.gens (j3 x)⟩
    show StrsAre (ys ++ [_]) (((xs.take (i + 1)).filter (fun x => !bad x)).map lawName)
    rw [take_snoc hx, List.filter_append, List.map_append]
    simp only [List.filter_cons, hb, Bool.not_false, if_true, List.filter_nil, List.map_cons, List.map_nil]
    exact strs_snoc j1
  · have hb : bad x = true := by simp_all [bad]
    rename Fr _ _ _ _ => F
    refine ⟨⟨_, F.ns⟩, fun b o hb _ e => F.keep b o (hB2 b o hb List.not_mem_nil e), ?_, j2, j3⟩
    show StrsAre (ys ++ []) (((xs.take (i + 1)).filter (fun x => !bad x)).map lawName)
    rw [take_snoc hx, List.filter_append, List.append_nil]
    simp only [List.filter_cons, hb, Bool.not_true, Bool.false_eq_true, if_false, List.filter_nil, List.append_nil]
    exact j1
end
end
section
section
variable {prog : Program} {w : World} {A : Around} {E : Value → Shared → Prop} {env : Env}
theorem comp_rangeR {elt target iter : Expr} {ifs : List Expr} {scope : Scope} {cl : List (Str × Addr)} {pos : Pos} {s₁ : Shared} {r : Addr} {n : Nat} {t u v : Tok} {wr : List Addr} {RR : Value → Addr → Result → Shared → Prop}
    (hh : A.handled = none) (hr : IsRange s₁.heap r 0 n 1 t u v) (hsz : n < 1000) (hcell : ∀ y ∈ scope.names, y.2 ≠ .cell) (hkind : scope.kind = .function) (hwr : ∀ b ∈ wr, b < s₁.heap.objs.size)
    (J : Nat → List Value → Shared → Prop) (h0 : J 0 [] s₁)
    (hJ : ∀ i ys (s s' : Shared), J i ys s → (∀ b o, b < s₁.heap.objs.size → s.heap.get? b = some o → s'.heap.get? b = some o) → s'.os = s.os → s'.gens = s.gens → J i ys s')
    (turn : ∀ (i : Nat) v ys I C (s₃ : Shared) m₃ E' b B, b = compEnvC scope cl C env → i < n → (∃ t, v = .int i t) → J i ys s₃ → (∀ b o, b ∉ wr → s₁.heap.get? b = some o → B.get? b = some o) → (∀ b o, b < C → b ∉ wr → s₃.heap.get? b = some o → B.get? b = some o) → (∀ b ∈ wr, B.get? b = none) → Fr B C s₃.heap m₃ → s₁.heap.objs.size < C →
      wpAny (model prog w) A (letOwnedTupleGo target (.ref I) v) (fun _ s₃' => wpAny (model prog w) A (assign target b v) (fun _ s₄ => wpAny (model prog w) A (testsOf ifs b) (fun ok s₅ =>
        if ok = true then wpAny (model prog w) A (eval elt b) (fun y s₆ => CompStep C wr (J (i + 1)) ys s₃ (some y) s₆) E' s₅
        else CompStep C wr (J (i + 1)) ys s₃ none s₅) E' s₄) E' s₃') E' s₃)
    (done : ∀ D C (s' : Shared) m' ys k, J n ys s' → s₁.heap.objs.size < D → s₁.heap.objs.size < C → D ≠ C → s'.heap.Ns C m' → s'.heap.get? D = some (W.listOf ys.toArray k) → (∀ b o, b ∉ wr → s₁.heap.get? b = some o → s'.heap.get? b = some o) → RR (.ref D) C (.ok .next) s') :
    wpAny (model prog w) A (pyIter (.ref r)) (fun it s₂ => wpAny (model prog w) A (newList []) (fun acc s₃ => wpAny (model prog w) A (newFunctionEnv scope env.globals cl [] env.qual none .none (some env)) (fun cenv s₄ =>
      codeAny (model prog w) A (.compStart (.ListComp elt [⟨target, iter, ifs, 0⟩] scope pos) 0 it acc { cenv with scope := relabel scope env }) (RR acc cenv.locals) s₄) E s₃) E s₂) E s₁ := by
  have hsm : Builtin.Range.small 0 n 1 = true := small_one (by decide) (by decide) (by omega) (by omega)
  have hrs : Builtin.Range.rangeSize 0 (n : Int) 1 = (n : Int) := by rw [rangeSize_one]; split <;> omega
  refine wpAny_pyIter_range hr hsm ?_
  have WK := Walks.range (prog := prog) (w := w) (A := A) hh s₁.heap.objs.size 0 1 n
  have hz : (s₁.heap.push { cls := .type "range_iterator", data := .fields #[rawInt 0, rawInt (Builtin.Range.rangeSize 0 n 1), rawInt 1] }).objs.size = s₁.heap.objs.size + 1 := Heap.size_push ..
  have up : ∀ b o, s₁.heap.get? b = some o → (s₁.heap.push { cls := .type "range_iterator", data := .fields #[rawInt 0, rawInt (Builtin.Range.rangeSize 0 n 1), rawInt 1] }).get? b = some o := fun b o e => Heap.get?_push_of_some _ e
  refine comp_block (wr := wr) WK (by unfold sizeLine; omega) hcell hkind ?hst ?_ (by dsimp only; rw [hz]; exact Nat.lt_succ_self _) ?_ ?_ J ?_ ?_ ?_ ?_
  case hst =>
    rw [hrs]
    show IsRangeIter _ _ (0 + ((0 : Nat) : Int) * 1) ((n : Int) - ((0 : Nat) : Int)) 1
    have h2 : ((0 : Int) + ((0 : Nat) : Int) * 1) = 0 := by omega
    have h3 : ((n : Int) - ((0 : Nat) : Int)) = n := by omega
    rw [h2, h3]
    exact Heap.get?_push_size _ rfl
  · intro b hb
    dsimp only; rw [hz]
    rw [List.mem_singleton.mp hb]
    exact Nat.lt_succ_self _
  · intro b hb hm
    rw [List.mem_singleton.mp hm] at hb
    exact Nat.lt_irrefl _ (hwr _ hb)
  · intro b hb
    dsimp only; rw [hz]; exact Nat.lt_succ_of_lt (hwr b hb)
  · exact hJ 0 [] s₁ _ h0 (fun b o _ e => up b o e) rfl rfl
  · intro i ys s s' hj hk ho hg
    refine hJ i ys s s' hj (fun b o hb e => hk b o ?_ (Nat.ne_of_lt hb) e) ho hg
    dsimp only; rw [hz]; exact Nat.lt_succ_of_lt hb
  · intro i v ys C s₃ m₃ E' hi hP hj hC hn hk hst
    dsimp only at hC
    rw [hz] at hC
    have kk : ∀ b o, b ∉ wr → s₁.heap.get? b = some o → s₃.heap.get? b = some o := fun b o hb e => hk b o (fun hm => by
      rcases List.mem_cons.mp hm with rfl | hm
      · exact absurd (Heap.lt_size e) (Nat.lt_irrefl _)
      · exact hb hm) (up b o e)
    refine turn i v ys _ C s₃ m₃ E' _ (low s₃.heap C wr) rfl hi (by obtain ⟨t, rfl⟩ := hP; exact ⟨t, by simp⟩) hj (fun b o hb e => low_get (Nat.lt_trans (Heap.lt_size e) hC) hb (kk b o hb e)) (fun b o h1 h2 e => low_get h1 h2 e) (fun b hb => low_none hb) ⟨hn, fun b o e => (low_of e).2.2, low_size⟩ hC
  · intro D C s' m' ys k hj hD hC hDC hn hd hk
    dsimp only at hD hC
    rw [hz] at hD hC
    refine done D C s' m' ys k hj hD hC hDC hn hd fun b o hb e => ?_
    have hb' : b < s₁.heap.objs.size := Heap.lt_size e
    refine hk b o (fun hm => ?_) (up b o e)
    rcases List.mem_cons.mp hm with rfl | hm
    · exact Nat.lt_irrefl _ hb'
    · exact hb hm
end
/-- what a turn over a range must do (comp_rangeR) -/
def TurnR (prog : Program) (w : World) (A : Around) (elt target : Expr) (ifs : List Expr) (scope : Scope) (cl : List (Str × Addr)) (env : Env) (n : Nat) (wr : List Addr) (s₁ : Shared) (J : Nat → List Value → Shared → Prop) : Prop :=
  ∀ (i : Nat) v ys I C (s₃ : Shared) m₃ E' b B, b = compEnvC scope cl C env → i < n → (∃ t, v = .int i t) → J i ys s₃ → (∀ b o, b ∉ wr → s₁.heap.get? b = some o → B.get? b = some o) → (∀ b o, b < C → b ∉ wr → s₃.heap.get? b = some o → B.get? b = some o) → (∀ b ∈ wr, B.get? b = none) → Fr B C s₃.heap m₃ → s₁.heap.objs.size < C →
      wpAny (model prog w) A (letOwnedTupleGo target (.ref I) v) (fun _ s₃' => wpAny (model prog w) A (assign target b v) (fun _ s₄ => wpAny (model prog w) A (testsOf ifs b) (fun ok s₅ =>
        if ok = true then wpAny (model prog w) A (eval elt b) (fun y s₆ => CompStep C wr (J (i + 1)) ys s₃ (some y) s₆) E' s₅
        else CompStep C wr (J (i + 1)) ys s₃ none s₅) E' s₄) E' s₃') E' s₃
end
section
/-- what a turn of a for over a list leaves, the ledger may grow -/
def ForPostG (h₀ : Heap) (L : Addr) (J' : (Str → Option Value) → List (Addr × Obj) → Prop) (own : List (Addr × Obj)) (s₁ : Shared) (RR : Value → Shared → Prop) (f : Flow) (s₂ : Shared) : Prop :=
  match f with
  | .ret v => RR v s₂
  | .brk => False
  | _ => s₂.os = s₁.os ∧ (AllBare s₁.gens → AllBare s₂.gens) ∧ ∃ m2 news2, Fr h₀ L s₂.heap m2 ∧ News h₀ L s₂.heap (news2 ++ own) ∧ J' m2 news2
section
variable {prog : Program} {w : World} {A : Around} {E : Value → Shared → Prop} {R : Result → Shared → Prop} {s : Shared}
theorem for_listG {nm x : Str} {sc : Scope} {L fa : Addr} {cd : Value} {h₀ : Heap} {l : Addr} {items : List Value} {m₀ : Str → Option Value} {news₀ : List (Addr × Obj)} {px : Pos} {body : List Stmt}
    (hh : A.handled = none) (hk : sc.kind = .function) (kx : (envOfC nm sc L fa cd).kindOf x = some .local)
    (hls : s.heap.IsList l items.toArray) (F : Fr h₀ L s.heap m₀) (N : News h₀ L s.heap news₀)
    (J : Nat → (Str → Option Value) → List (Addr × Obj) → Prop) (h0 : J 0 m₀ news₀)
    (hl : ∀ j m' news' h, J j m' news' → News h₀ L h news' → h.IsList l items.toArray)
    (hnf : ∀ j m' news', J j m' news' → ∀ q ∈ news', ∀ a, q.2.data ≠ .fields a)
    (turn : ∀ (j : Nat) v m' news' own (s₁ : Shared) E', items[j]? = some v → J j m' news' → OwnOff own (news'.map (·.1)) → s₁.os = s.os → (AllBare s.gens → AllBare s₁.gens) →
      Fr h₀ L s₁.heap (fun y => if y = x then some v else m' y) → News h₀ L s₁.heap (news' ++ own) →
      wpAny (model prog w) A (execs body (envOfC nm sc L fa cd)) (ForPostG h₀ L (J (j + 1)) own s₁ (fun v s' => R (.ok (.ret v)) s')) E' s₁)
    (done : ∀ m' news' (s₂ : Shared), J items.length m' news' → Fr h₀ L s₂.heap m' → News h₀ L s₂.heap news' → s₂.os = s.os → (AllBare s.gens → AllBare s₂.gens) → R (.ok .next) s₂) :
    wpAny (model prog w) A (pyIter (.ref l)) (fun it s₂ => codeAny (model prog w) A (.forLoop (.Name x px) it body [] (envOfC nm sc L fa cd)) R s₂) E s := by
  obtain ⟨ol, hol, _⟩ := id hls
  have hlt₀ : l < s.heap.objs.size := Heap.lt_size hol
  have hLlt := F.ns.lt
  have hne : l ≠ s.heap.objs.size := Nat.ne_of_lt hlt₀
  refine wpAny_pyIter_list hls ?_
  have WK := Walks.list (prog := prog) (w := w) (A := A) hh s.heap.objs.size l hne items.toArray
  have hlen : items.toArray.size = items.length := by simp
  rw [hlen] at WK
  generalize hIt : s.heap.objs.size = It at *
  have hI0 : h₀.get? It = none := by
    cases e : h₀.get? It with
    | none => rfl
    | some o => exact absurd (Heap.lt_size (F.keep _ _ e)) (by rw [hIt]; exact Nat.lt_irrefl _)
  have hIL : It ≠ L := fun e => absurd hLlt (e ▸ Nat.lt_irrefl _)
  refine codeAny_forLoop_any (fun k s' => ∃ j m' news', j ≤ items.length ∧ k = items.length - j ∧ Fr h₀ L s'.heap m' ∧ News h₀ L s'.heap news' ∧ J j m' news' ∧ s'.heap.IsListIter It l j ∧ s'.os = s.os ∧ (AllBare s.gens → AllBare s'.gens)) ?_ items.length
    ⟨0, m₀, news₀, Nat.zero_le _, (Nat.sub_zero _).symm, F.push _, N.grown fun b o e => Heap.get?_push_of_some _ e, h0, ⟨_, hIt ▸ Heap.get?_push_size _ rfl, rfl, rfl⟩, rfl, id⟩
  rintro k s' ⟨j, m', news', hj, rfl, F', N', hJ, hit, hos, hg⟩
  have hl' : s'.heap.IsList l items.toArray := hl _ _ _ _ hJ N'
  have adr : ∀ p ∈ news', p.1 ≠ It := fun p hp e => by
    obtain ⟨oI, hoI, _, hI2⟩ := id hit
    have h1 := (N' p hp).1
    rw [e, hoI] at h1
    cases h1
    exact hnf _ _ _ hJ p hp _ hI2
  rcases Nat.lt_or_ge j items.length with hlt | hge
  · refine WK.item j s' _ _ hlt ⟨hit, hl'⟩ fun v h₂ tk₂ hP hst₂ hk₂ => ?_
    have hk₂' : ∀ b o, b ≠ It → s'.heap.get? b = some o → h₂.get? b = some o := fun b o hb e => hk₂ b o (fun hm => hb (List.mem_singleton.mp hm)) e
    have F₂ : Fr h₀ L h₂ m' := by
      obtain ⟨oL, es, ep, hL, r⟩ := F'.ns
      exact ⟨⟨oL, es, ep, hk₂' L oL (Ne.symm hIL) hL, r⟩, fun b o e => hk₂' b o (by rintro rfl; rw [e] at hI0; cases hI0) (F'.keep b o e), F'.above⟩
    have N₂ : News h₀ L h₂ news' := fun p hp => ⟨hk₂' _ _ (adr p hp) (N' p hp).1, (N' p hp).2⟩
    refine wpAny_of_eq (rfl : letOwnedTupleGo (.Name x px) (.ref It) v = pure ()) ?_
    refine wpAny_assign_Name (stLocNk F₂ N₂ (fun h₃ F₃ N₃ hs₃ _ => ?_) hk kx)
    replace hs₃ : Heap.SameBut L h₂ h₃ := hs₃
    obtain ⟨oI, hoI, hI2⟩ := hst₂.1
    have hoI₃ : h₃.get? It = some oI := hs₃.extBut _ _ hIL hoI
    have NO : News h₀ L h₃ (news' ++ [(It, oI)]) := fun q hq => by
      rcases List.mem_append.mp hq with hq | hq
      · exact N₃ q hq
      · rw [List.mem_singleton.mp hq]; exact ⟨hoI₃, hIL, hI0⟩
    have hoff : OwnOff [(It, oI)] (news'.map (·.1)) := fun q hq b hb => by
      rw [List.mem_singleton.mp hq]
      obtain ⟨p, hp, rfl⟩ := List.mem_map.mp hb
      exact Ne.symm (adr p hp)
    refine wpAny_mono (turn j v m' news' [(It, oI)] _ _ (by simpa using hP) hJ hoff hos hg F₃ NO) (fun f s₂ hf => ?_) fun _ _ e => e
    have go : (s₂.os = s'.os ∧ (AllBare s'.gens → AllBare s₂.gens) ∧ ∃ m2 news2, Fr h₀ L s₂.heap m2 ∧ News h₀ L s₂.heap (news2 ++ [(It, oI)]) ∧ J (j + 1) m2 news2) →
        ∃ m, m < items.length - j ∧ ∃ j m' news', j ≤ items.length ∧ m = items.length - j ∧ Fr h₀ L s₂.heap m' ∧ News h₀ L s₂.heap news' ∧ J j m' news' ∧ s₂.heap.IsListIter It l j ∧ s₂.os = s.os ∧ (AllBare s.gens → AllBare s₂.gens) := by
      rintro ⟨ho, hgg, m2, news2, F5, N5, hJ5⟩
      exact ⟨items.length - (j + 1), by omega, j + 1, m2, news2, hlt, rfl, F5, fun q hq => N5 q (List.mem_append.mpr (.inl hq)), hJ5,
        ⟨oI, (N5 _ (List.mem_append.mpr (.inr (List.mem_singleton.mpr rfl)))).1, hI2⟩, ho.trans hos, fun x => hgg (hg x)⟩
    cases f with
    | next => exact go hf
    | cont => exact go hf
    | brk => exact hf.elim
    | ret v => exact hf
  · have hin : j = items.length := Nat.le_antisymm hj hge
    subst hin
    refine WK.done s' _ _ ⟨hit, hl'⟩ fun h₂ tk₂ hk₂ => ?_
    have hk₂' : ∀ b o, b ≠ It → s'.heap.get? b = some o → h₂.get? b = some o := fun b o hb e => hk₂ b o (fun hm => hb (List.mem_singleton.mp hm)) e
    show wpAny _ _ (execs [] _) _ _ _
    refine wpAny_pure (done m' news' _ hJ ?_ (fun p hp => ⟨hk₂' _ _ (adr p hp) (N' p hp).1, (N' p hp).2⟩) hos hg)
    obtain ⟨oL, es, ep, hL, r⟩ := F'.ns
    exact ⟨⟨oL, es, ep, hk₂' L oL (Ne.symm hIL) hL, r⟩, fun b o e => hk₂' b o (by rintro rfl; rw [e] at hI0; cases hI0) (F'.keep b o e), F'.above⟩
end

/-- the asks as they lie among the objects made -/
def AsksIn (rest : List (Addr × Obj)) (vs : List Value) (asks : List (Str × Option Str)) : Prop :=
  vs.length = asks.length ∧ ∀ (j : Nat) v, vs[j]? = some v → ∃ p m fo t fv k, v = .ref p ∧ asks[j]? = some (m, fo) ∧ (p, W.listOf #[.str m t, fv] k) ∈ rest ∧ FileIs fv fo ∧ m.length < 1000
theorem AsksIn.snoc {rest rest' : List (Addr × Obj)} {vs : List Value} {asks : List (Str × Option Str)} {p : Addr} {m : Str} {fo : Option Str} {t : Tok} {fv : Value} {k : Nat} (h : AsksIn rest vs asks) (hr : ∀ q ∈ rest, q ∈ rest') (hp : (p, W.listOf #[.str m t, fv] k) ∈ rest') (hf : FileIs fv fo) (hm : m.length < 1000) :
    AsksIn rest' (vs ++ [.ref p]) (asks ++ [(m, fo)]) := by
  refine ⟨by simp [h.1], fun j v hv => ?_⟩
  rcases Nat.lt_or_ge j vs.length with hj | hj
  · rw [List.getElem?_append_left hj] at hv
    obtain ⟨p, m, fo, t, fv, k, a, b, c, d⟩ := h.2 j v hv
    exact ⟨p, m, fo, t, fv, k, a, by rw [List.getElem?_append_left (h.1 ▸ hj)]; exact b, hr _ c, d⟩
  · have hj' : j = vs.length := by
      have := (List.getElem?_eq_some_iff.mp hv).1
      simp at this; omega
    subst hj'
    rw [List.getElem?_append_right (Nat.le_refl _), Nat.sub_self] at hv
    cases hv
    exact ⟨p, m, fo, t, fv, k, rfl, by rw [h.1, List.getElem?_append_right (Nat.le_refl _), Nat.sub_self]; rfl, hp, hf, hm⟩
theorem AsksIn.are {g h : Heap} {L : Addr} {news rest : List (Addr × Obj)} {vs : List Value} {asks : List (Str × Option Str)} (x : AsksIn rest vs asks) (N : News g L h news) (hr : ∀ q ∈ rest, q ∈ news) : AsksAre h vs asks :=
  ⟨x.1, fun j v e => by obtain ⟨p, m, fo, t, fv, k, a, b, c, d⟩ := x.2 j v e; exact ⟨p, m, fo, t, fv, a, b, ⟨_, (N _ (hr _ c)).1, rfl, _, rfl⟩, d⟩⟩
def lmap (av nv : Value) (m : Str → Option Value) : Str → Option Value := fun y =>
  if y = Str.ofString "asks" then some av else if y = Str.ofString "names" then some nv else m y
theorem lmap_self {av nv : Value} {m : Str → Option Value} (h1 : m (Str.ofString "asks") = some av) (h2 : m (Str.ofString "names") = some nv) : ∃ m₁, m = lmap av nv m₁ := ⟨m, by
  funext y
  unfold lmap
  split
  · rename_i e; rw [e, h1]
  split
  · rename_i e; rw [e, h2]
  · rfl⟩
def askOf (x : Int) : Str × Option Str := (askM x, askF x)
def LawJ (nums : List Int) (ra D7 : Addr) (fixed : List (Addr × Obj)) (j : Nat) (m' : Str → Option Value) (news' : List (Addr × Obj)) : Prop :=
  m' (Str.ofString "asks") = some (.ref ra) ∧ m' (Str.ofString "names") = some (.ref D7) ∧
    ∃ vs k rest, news' = (ra, W.listOf (List.toArray vs) k) :: rest ∧ (∀ q ∈ fixed, q ∈ rest) ∧ OwnOff rest [ra] ∧ (∀ q ∈ rest, ∀ a, q.2.data ≠ .fields a) ∧ AsksIn rest vs ((nums.take j).map askOf)
theorem News.sub {g h : Heap} {L : Addr} {news news' : List (Addr × Obj)} (N : News g L h news) (hs : ∀ q ∈ news', q ∈ news) : News g L h news' := fun q hq => N q (hs q hq)
theorem law_step {nums : List Int} {ra D7 p : Addr} {fixed rest : List (Addr × Obj)} {j : Nat} {m2 : Str → Option Value} {vs : List Value} {k k' : Nat} {x : Int} {M : Str} {fo : Option Str} {fv : Value} {t : Tok}
    (hask : AsksIn rest vs ((nums.take j).map askOf)) (hx : nums[j]? = some x) (hfix : ∀ q ∈ fixed, q ∈ rest) (hoff : OwnOff rest [ra]) (hnf : ∀ q ∈ rest, ∀ a, q.2.data ≠ .fields a) (hp : ra < p)
    (e1 : askM x = M) (e2 : askF x = fo) (hf : FileIs fv fo) (hM : M.length < 1000)
    (h1 : m2 (Str.ofString "asks") = some (.ref ra)) (h2 : m2 (Str.ofString "names") = some (.ref D7)) :
    LawJ nums ra D7 fixed (j + 1) m2 ((ra, W.listOf (List.toArray (vs ++ [.ref p])) k) :: (p, W.listOf #[.str M t, fv] k') :: rest) := by
  refine ⟨h1, h2, _, _, _, rfl, fun q hq => List.mem_cons_of_mem _ (hfix q hq), ?_, ?_, ?_⟩
  · intro q hq b hb
    rcases List.mem_cons.mp hq with rfl | hq
    · rw [List.mem_singleton.mp hb]; exact Ne.symm (Nat.ne_of_lt hp)
    · exact hoff q hq b hb
  · intro q hq a e
    rcases List.mem_cons.mp hq with rfl | hq
    · cases e
    · exact hnf q hq a e
  · rw [take_snoc hx, List.map_append]
    refine hask.snoc (fun q hq => List.mem_cons_of_mem _ hq) (t := t) (fv := fv) (k := k') ?_ ?_ ?_
    · show (p, W.listOf #[.str (askM x) t, fv] k') ∈ _
      rw [e1]; exact List.mem_cons_self ..
    · show FileIs fv (askF x)
      rw [e2]; exact hf
    · show (askM x).length < 1000
      rw [e1]; exact hM
theorem News.three {g h : Heap} {L a b c : Addr} {oa ob oc : Obj} (x : h.get? a = some oa ∧ a ≠ L ∧ g.get? a = none) (y : h.get? b = some ob ∧ b ≠ L ∧ g.get? b = none) (z : h.get? c = some oc ∧ c ≠ L ∧ g.get? c = none) : News g L h [(a, oa), (b, ob), (c, oc)] := by
  intro p hp
  rcases List.mem_cons.mp hp with rfl | hp
  · exact x
  · exact News.two y z p hp
theorem off3 {a b c : Addr} {ob oc : Obj} (h1 : a ≠ b) (h2 : a ≠ c) : OwnOff [(b, ob), (c, oc)] [a] := fun q hq x hx => by
  rw [List.mem_singleton.mp hx]
  rcases List.mem_cons.mp hq with rfl | hq
  · exact Ne.symm h1
  · rw [List.mem_singleton.mp hq]; exact Ne.symm h2
theorem nof2 {b c : Addr} {vb vc : Array Value} {kb kc : Nat} : ∀ q ∈ [(b, W.listOf vb kb), (c, W.listOf vc kc)], ∀ a, q.2.data ≠ .fields a := fun q hq a e => by
  rcases List.mem_cons.mp hq with rfl | hq
  · cases e
  · rw [List.mem_singleton.mp hq] at e; cases e
theorem offs {rest own : List (Addr × Obj)} {ra : Addr} {o : Obj} (h1 : OwnOff rest [ra]) (h2 : OwnOff own (((ra, o) :: rest).map (·.1))) : OwnOff (rest ++ own) [ra] := fun q hq b hb => by
  rcases List.mem_append.mp hq with hq | hq
  · exact h1 q hq b hb
  · rw [List.mem_singleton.mp hb]; exact h2 q hq _ (List.mem_cons_self ..)
theorem mod6 (x : Int) : x.fmod 6 = 0 ∨ x.fmod 6 = 1 ∨ x.fmod 6 = 2 ∨ x.fmod 6 = 3 ∨ x.fmod 6 = 4 ∨ x.fmod 6 = 5 := by
  have := Int.fmod_eq_emod_of_nonneg x (b := 6) (by decide); omega
theorem mod5 (x : Int) : x.fmod 5 = 0 ∨ x.fmod 5 = 1 ∨ x.fmod 5 = 2 ∨ x.fmod 5 = 3 ∨ x.fmod 5 = 4 := by
  have := Int.fmod_eq_emod_of_nonneg x (b := 5) (by decide); omega
theorem mod_item (x : Int) (t0 t1 t2 t3 t4 t5 : Tok) : ∃ t, [Value.str (Str.ofString "a") t0, .str (Str.ofString "a.b") t1, .str (Str.ofString "a.c") t2, .str (Str.ofString "ab") t3, .str (Str.ofString "c") t4, .str (Str.ofString "b.a.c") t5][(x.fmod 6).toNat]? = some (.str (askM x) t) := by
  unfold askM
  rcases mod6 x with e | e | e | e | e | e <;> rw [e] <;> exact ⟨_, rfl⟩
theorem file_item (x : Int) (t0 t1 t3 t4 : Tok) : ∃ fv, [Value.str (Str.ofString "/p/x.py") t0, .str (Str.ofString "/p.py") t1, .none, .str (Str.ofString "r/x.py") t3, .str (Str.ofString "q/x.py") t4][((x.fdiv 6).fmod 5).toNat]? = some fv ∧ FileIs fv (askF x) := by
  unfold askF
  rcases mod5 (x.fdiv 6) with e | e | e | e | e <;> rw [e]
  · exact ⟨_, rfl, .inr ⟨_, _, rfl, rfl, by decide +kernel⟩⟩
  · exact ⟨_, rfl, .inr ⟨_, _, rfl, rfl, by decide +kernel⟩⟩
  · exact ⟨_, rfl, .inl ⟨rfl, rfl⟩⟩
  · exact ⟨_, rfl, .inr ⟨_, _, rfl, rfl, by decide +kernel⟩⟩
  · exact ⟨_, rfl, .inr ⟨_, _, rfl, rfl, by decide +kernel⟩⟩
theorem askM_len (x : Int) : (askM x).length < 1000 := by
  unfold askM
  (repeat' split) <;> decide +kernel
theorem law_turn_end {g h : Heap} {L ra p : Addr} {q1 q2 : Addr × Obj} {inner : Obj} {vs : List Value} {k : Nat} {tl rest own : List (Addr × Obj)} (N : News g L h ((p, inner) :: q1 :: q2 :: (ra, W.listOf (vs.toArray.push (.ref p)) k) :: tl)) (htl : tl = rest ++ own) :
    News g L h (((ra, W.listOf (List.toArray (vs ++ [.ref p])) k) :: (p, inner) :: rest) ++ own) := by
  subst htl
  rw [List.push_toArray] at N
  refine News.sub N fun q hq => ?_
  rcases List.mem_cons.mp hq with rfl | hq
  · exact .tail _ (.tail _ (.tail _ (.head _)))
  rcases List.mem_cons.mp hq with rfl | hq
  · exact .head _
  · exact .tail _ (.tail _ (.tail _ (.tail _ hq)))
end
section
theorem comp_tail {h h' h8 : Heap} {C : Addr} (hk : ∀ b o, b ∉ ([] : List Addr) → h.get? b = some o → h'.get? b = some o) (hC : h.objs.size < C) (hs : Heap.SameBut C h' h8) : ∀ b o, h.get? b = some o → h8.get? b = some o :=
  fun b o e => hs.extBut b o (Nat.ne_of_lt (Nat.lt_trans (Heap.lt_size e) hC)) (hk b o List.not_mem_nil e)
theorem none_above {h : Heap} {D : Addr} (hD : h.objs.size < D) : h.get? D = none := by
  cases e : h.get? D with
  | none => rfl
  | some o => exact absurd (Heap.lt_size e) (Nat.not_lt.mpr (Nat.le_of_lt hD))
theorem news_assign {g h6 h7 h' : Heap} {L D : Addr} {o : Obj} {m : Str → Option Value} {news : List (Addr × Obj)} (F : Fr g L h6 m) (N : News g L h6 news) (hDn : h6.get? D = none) (hD : h7.get? D = some o)
    (ha : ∀ b o, b ≠ L → b < h6.objs.size → h'.get? b = some o → h7.get? b = some o) (hb : ∀ b o, b ∉ ([] : List Addr) → h6.get? b = some o → h'.get? b = some o) : News g L h7 ((D, o) :: news) := fun p hp => by
  rcases List.mem_cons.mp hp with rfl | hp
  · refine ⟨hD, ?_, ?_⟩
    · rintro rfl
      obtain ⟨oL, _, _, hL, _⟩ := F.ns
      rw [hL] at hDn; cases hDn
    · cases e : g.get? D with
      | none => rfl
      | some o => have := F.keep _ _ e; rw [hDn] at this; cases this
  · exact ⟨ha _ _ (N p hp).2.1 (Heap.lt_size (N p hp).1) (hb _ _ List.not_mem_nil (N p hp).1), (N p hp).2⟩
theorem kept_ok (x : Int) : PyData.strOk (keptText x) = true := by
  unfold keptText lawText lawName
  (repeat' split) <;> decide +kernel
theorem name_ok (x : Int) : PyData.strOk (lawName x) = true ∧ (lawName x).length < 100 := by
  unfold lawName
  (repeat' split) <;> decide +kernel
theorem get_lt {vs : List Value} {i : Nat} (h : i < vs.length) : ∃ v, vs[i]? = some v := ⟨vs[i], by simp [h]⟩
theorem take_len (ns l : List Int) : (List.take 5 ns ++ l).length ≤ 5 + l.length := by
  rw [List.length_append, List.length_take]; exact Nat.add_le_add_right (Nat.min_le_left _ _) _
/-- the names that are left of the numbers -/
def nmOf (xs : List Int) : List Str := (xs.filter (fun x => !bad x)).map lawName
theorem nm_any {ns xs : List Int} {k : Str} (hxs : List.take 5 ns ++ [4, 9, 14, 11] = xs) (hk : (nmOf [4, 9, 14, 11]).any (· == k) = true) : (nmOf xs).any (· == k) = true := by
  subst hxs
  unfold nmOf at *
  rw [List.filter_append, List.map_append, List.any_append, hk, Bool.or_true]
theorem nm_two {ns xs : List Int} (hxs : List.take 5 ns ++ [4, 9, 14, 11] = xs) : (∃ k1 k2, k1 ≠ k2 ∧ (nmOf xs).any (· == k1) = true ∧ (nmOf xs).any (· == k2) = true) ∨ nmOf xs = [] :=
  .inl ⟨Str.ofString "a", Str.ofString "b", by decide +kernel, nm_any hxs (by decide +kernel), nm_any hxs (by decide +kernel)⟩
theorem nm_ne {ns xs : List Int} (hxs : List.take 5 ns ++ [4, 9, 14, 11] = xs) {vs : List Value} (h : StrsAre vs (nmOf xs)) : vs.toArray.isEmpty = false := by
  have h1 := nm_any (k := Str.ofString "a") hxs (by decide +kernel)
  have h2 := strs_length h
  cases vs with
  | nil =>
    cases e : nmOf xs with
    | nil => rw [e] at h1; cases h1
    | cons a r => rw [e] at h2; cases h2
  | cons v r => simp
theorem nm_len {xs : List Int} : ∀ k ∈ nmOf xs, k.length < 100 := fun k hk => by
  obtain ⟨x, _, rfl⟩ := List.mem_map.mp hk
  exact (name_ok x).2
theorem nm_ok {xs : List Int} : AllOk (nmOf xs) := fun k hk => by
  obtain ⟨x, _, rfl⟩ := List.mem_map.mp hk
  exact (name_ok x).1
theorem nm_mem {xs : List Int} : ∀ k ∈ nmOf xs, k ∈ names4 := fun k hk => by
  obtain ⟨x, _, rfl⟩ := List.mem_map.mp hk
  exact lawName_mem x
theorem nm_size {xs : List Int} {vs : List Value} (h : StrsAre vs (nmOf xs)) : vs.length ≤ xs.length := by
  rw [strs_length h, nmOf, List.length_map]; exact List.length_filter_le ..
theorem ds_len : ∀ k ∈ [Str.ofString "/p", Str.ofString "r"], k.length < 100 := by decide +kernel
theorem asks_mem {xs : List Int} : ∀ p ∈ xs.map askOf, p.1 ∈ mods ∧ p.2 ∈ files := fun p hp => by
  obtain ⟨x, _, rfl⟩ := List.mem_map.mp hp
  exact ⟨askM_mem x, askF_mem x⟩
theorem asks_rev {l : List (Str × Option Str)} (h : ∀ p ∈ l, p.1 ∈ mods ∧ p.2 ∈ files) : ∀ p ∈ l.reverse, p.1 ∈ mods ∧ p.2 ∈ files := fun p hp => h p (List.mem_reverse.mp hp)
theorem AsksIn.rev {rest : List (Addr × Obj)} {vs : List Value} {asks : List (Str × Option Str)} (x : AsksIn rest vs asks) : AsksIn rest vs.reverse asks.reverse := by
  refine ⟨by simp [x.1], fun j v hv => ?_⟩
  have hj : j < vs.length := by
    have := (List.getElem?_eq_some_iff.mp hv).1
    simpa using this
  rw [List.getElem?_reverse hj] at hv
  obtain ⟨p, m, fo, t, fv, k, a, b, c⟩ := x.2 _ _ hv
  refine ⟨p, m, fo, t, fv, k, a, ?_, c⟩
  rw [List.getElem?_reverse (x.1 ▸ hj), ← x.1]
  exact b
/-- two asks that lie as they were made -/
theorem asks_two {h : Heap} {p q : Addr} {m1 m2 f1 f2 : Str} {t1 t2 u1 u2 : Tok} (h1 : h.IsList p #[.str m1 t1, .str f1 u1]) (h2 : h.IsList q #[.str m2 t2, .str f2 u2]) (a1 : m1.length < 1000) (a2 : m2.length < 1000) (b1 : f1.length < 1000) (b2 : f2.length < 1000) :
    AsksAre h [.ref p, .ref q] [(m1, some f1), (m2, some f2)] := by
  refine ⟨rfl, fun j v hv => ?_⟩
  match j, hv with
  | 0, hv => cases hv; exact ⟨p, m1, _, t1, _, rfl, rfl, h1, .inr ⟨_, _, rfl, rfl, b1⟩, a1⟩
  | 1, hv => cases hv; exact ⟨q, m2, _, t2, _, rfl, rfl, h2, .inr ⟨_, _, rfl, rfl, b2⟩, a2⟩
theorem ask_kept {h hI hE : Heap} {d : Addr} (k1 : ∀ b o, h.get? b = some o → hI.get? b = some o) (hd : h.get? d = none) (k2 : ∀ b o, b ≠ d → hI.get? b = some o → hE.get? b = some o) : ∀ b o, h.get? b = some o → hE.get? b = some o :=
  fun b o e => k2 b o (by rintro rfl; rw [hd] at e; cases e) (k1 b o e)
theorem none_back {h hI : Heap} {a : Addr} (k1 : ∀ b o, h.get? b = some o → hI.get? b = some o) (ha : hI.get? a = none) : h.get? a = none := by
  cases e : h.get? a with
  | none => rfl
  | some o => rw [k1 _ _ e] at ha; cases ha
end
section
/-- rows for the walk -/
theorem rows_M24_1 : True := by
  w_top off
  k_with_none
  k_with "mine enterC" => ( (refine' fn_callC (by assumption) (by assumption) (by assumption) ?k6 ?k7 ?k8 ?k9 ?kB ?kD ?c2 ?c3 ?c4 ?_); (case k6 => k_is); (case k7 => k_is); (case k8 => decide); (case k9 => exact BindsTo.of_eq rfl); (case kB => exact rfl); (case kD => decide +kernel); (case c2 => exact rfl); (case c3 => exact rfl); (case c4 => exact rfl))
  k_with "eval ListComp" => refine hold ?_
  k_with "eval Name" => ((with_reducible show wpAny _ _ (eval (Expr.Name (Str.ofString "k") _) _) _ _ _); (with_reducible rename _ = compEnvC _ _ _ _ => kE); (with_reducible rename Fr _ _ _ _ => kF); (with_unfolding_all refine' comp_name kE kF ?k1 ?_ ?k4 ?k5 ?k6; (case k5 => with_unfolding_all exact rfl); (case k4 => with_unfolding_all exact rfl); (case k1 => with_unfolding_all exact rfl); (case k6 => with_unfolding_all decide)))
  k_with "eval Name" => ((with_reducible show wpAny _ _ (eval (Expr.Name (Str.ofString "numbers") _) _) _ _ _); (with_reducible rename _ = compEnvC _ _ _ _ => kE); (with_reducible rename Fr _ _ _ _ => kF); (with_unfolding_all refine' comp_cell kE kF ?k0 ?k1 ?k2 ?_ ?k4 ?k5 ?k6; (case k5 => with_unfolding_all exact rfl); (case k4 => with_unfolding_all exact rfl); (case k0 => with_unfolding_all exact rfl); (case k1 => assumption); (case k2 => assumption); (case k6 => with_unfolding_all decide)))
  k_with "eval Name" => ((with_reducible show wpAny _ _ (eval (Expr.Name (Str.ofString "texts") _) _) _ _ _); (with_reducible rename _ = compEnvC _ _ _ _ => kE); (with_reducible rename Fr _ _ _ _ => kF); (with_unfolding_all refine' comp_cell kE kF ?k0 ?k1 ?k2 ?_ ?k4 ?k5 ?k6; (case k5 => with_unfolding_all exact rfl); (case k4 => with_unfolding_all exact rfl); (case k0 => with_unfolding_all exact rfl); (case k1 => assumption); (case k2 => assumption); (case k6 => with_unfolding_all decide)))
  k_with "call ref" => ((with_reducible show wpAny _ _ (call (Value.ref 79) _ _) _ _ _); refine hold ?_)
  k_with "call ref" => ((with_reducible show wpAny _ _ (call (Value.ref 135) _ _) _ _ _); refine hold ?_)
  k_with "call ref" => ((with_reducible show wpAny _ _ (call (Value.ref 142) _ _) _ _ _); refine hold ?_)
  k_with "compareOp NotEq ref ref" => refine hold ?_
  k_with "compareOp Eq ref ref" => refine hold ?_
  k_with "subscriptTail Name Slice ref ref" => ((with_reducible show wpAny _ _ (subscriptTail _ (PySem.Expr.Slice none none (some _) _) (Value.ref _) (Value.ref _)) _ _ _); refine hold ?_)
  k_with "exec For Name BinOp cons nil" => refine hold ?_
  k_with "pyIter ref" => refine hold ?_
  k_with "exec Assign cons ListComp" => ((with_reducible show wpAny _ _ (exec (Stmt.Assign [Expr.Name (Str.ofString "names") _] _ _) _) _ _ _); refine hold ?_)
  trivial
theorem law_call {w : World} {mean mg mb} {s : Shared} {l : Addr} {vs : List Value} {ns : List Int} {R : Result → Shared → Prop}
    (G : Gr w mean mg mb s.heap) (hl : s.heap.IsList l vs.toArray) (hi : IntsAre vs ns) (hlen : ns.length ≤ 63)
    (h : ∀ s', Kept s s' → R (.ok (.ret (.bool true))) s') :
    codeAny (model PySem.Challenge.rw_mr0159_01.row.prog w) callerA (.call (.ref 147) ⟨[.ref l], []⟩) R s := by
  have hkb : ∀ b o, s.heap.get? b = some o → s.heap.get? b = some o := fun _ _ e => e
  have hn : ∀ p ∈ ([] : List (Addr × Obj)), s.heap.get? p.1 = some p.2 ∧ s.heap.get? p.1 = none := fun _ h => by cases h
  have X := G.X
  revert X; k_fill; intro X
  walk_at "mine enterC"
  clear X
  intro g L h₁ tk cells hg X T hlt F N Y
  have hg' : g = s.heap := hg
  clear hg
  subst hg'
  refine lower (d := 600) (u := 400) rfl (Nat.le_of_ble_eq_true rfl) (Nat.le_of_ble_eq_true rfl) ?_
  k_cells Y
  try simp only [List.cons_append, List.nil_append] at N
  try dsimp only
  try k_fold
  k_steps
  rename Fr _ _ _ _ => F
  rename News _ _ _ _ => N
  rename IntsAre _ (_ ++ [4, 9, 14, 11]) => hnum
  rename _ = Data.cell (some (Value.ref _)) => hdN
  generalize hxs : List.take 5 ns ++ [4, 9, 14, 11] = xs at hnum
  have hxl : xs.length < 10 := by rw [← hxs]; exact Nat.lt_of_le_of_lt (take_len ns _) (Nat.le_of_ble_eq_true rfl)
  refine Hold.mk ?_
  rw [eval_ListComp]
  refine wpAny_comprehension_free (use := none) rfl (fun _ => rfl) rfl rfl (by decide) ?_
  have NL := N _ (.tail _ (.tail _ (.tail _ (.tail _ (.head _)))))
  refine wpAny_Name (wpAny_loadName_cell rfl rfl rfl ⟨_, NL.1, hdN⟩ ?_) (by decide)
  refine comp_listR (wr := []) rfl ⟨_, (N _ (.head _)).1, rfl, _, rfl⟩ (by have := ints_length hnum; unfold sizeLine; omega) (by decide) rfl (fun _ hb => by cases hb) (StrJ (fun i => (xs.take i).map lawText) _) ⟨.nil, rfl, id⟩ StrJ.grow (texts_turn (Gr.fr X T F) hnum) ?_
  rintro D C s2 m' ys k ⟨jv, jo, jg⟩ hD hC hDC hnC hD2 hk7
  refine ⟨m', hnC, fun h8 hs8 => ?_⟩
  have kk := comp_tail hk7 hC hs8
  have hDn := none_above hD
  dsimp only at jv
  rw [show xs.take _ = xs from List.take_of_length_le (by rw [ints_length hnum]; exact Nat.le_refl _)] at jv
  have F8 := F.keeps kk
  have N8 := news_new F (N.grown kk) kk hDn (hs8.extBut _ _ hDC hD2)
  have l8 := allNe_of (news_ne N hDn)
  simp only [AllNe, and_true] at l8
  clear F N NL
  k_steps
  rename Fr _ _ _ _ => F
  rename News _ _ _ _ => N
  refine pre_call (Gr.fr X T F) (vs := ys) ⟨_, (N _ (.head _)).1, rfl, _, rfl⟩ jv (by omega) rfl (Nat.le_of_ble_eq_true rfl) (Nat.le_of_ble_eq_true rfl) ?_
  intro s3 r ws n3 k3 hr0 hr1 hws
  have F3 := F.keeps k3.heap
  have N3 := news_new F (N.grown k3.heap) k3.heap hr0 hr1
  have l3 := allNe_of (news_ne N hr0)
  simp only [AllNe, and_true] at l3
  clear F N
  k_steps
  rename Fr _ _ _ _ => F
  rename News _ _ _ _ => N
  refine Hold.mk ?_
  rw [eval_ListComp]
  refine wpAny_comprehension_free (use := none) rfl (fun _ => rfl) rfl rfl (by decide) ?_
  show wpAny _ _ (eval _ _) _ _ _
  k_steps
  have hyl : ys.length = xs.length := by rw [strs_length jv, List.length_map]
  refine len_list (items := ys.toArray) ⟨_, (N _ (.tail _ (.head _))).1, rfl, _, rfl⟩ (by simp; omega) ?_
  refine args_nil ?_
  refine call_range_1 ?_
  dsimp only
  have hcT := (N _ (.tail _ (.tail _ (.tail _ (.tail _ (.tail _ (.head _))))))).1
  have hcN := (N _ (.tail _ (.tail _ (.tail _ (.tail _ (.tail _ (.tail _ (.head _)))))))).1
  have hLD := (N _ (.tail _ (.head _))).1
  have hLN := (N _ (.tail _ (.tail _ (.head _)))).1
  refine comp_rangeR (n := ys.toArray.size) (wr := []) rfl (IsRange.new ..) (by simp; omega) (by decide) rfl (fun _ hb => by cases hb) (StrJ (fun i => (xs.take i).map keptText) _) ⟨.nil, rfl, id⟩ StrJ.grow ?_ ?_
  · intro i v zs I C s₄ m₄ E' be B hbe hin hv hJ hB1 hB2 hB3 F4 hC
    replace hB1 := fun b o e => hB1 b o List.not_mem_nil (Heap.get?_push_of_some _ e)
    obtain ⟨tv, rfl⟩ := hv
    have N4 := nilOf F4
    obtain ⟨X4, T4⟩ := (Gr.fr X T F).keeps hB1
    replace hcT := hB1 _ _ hcT
    replace hcN := hB1 _ _ hcN
    replace hLD := hB1 _ _ hLD
    replace hLN := hB1 _ _ hLN
    dsimp only at hcT hcN hLD hLN
    clear F N
    refine wpAny_of_eq (rfl : letOwnedTupleGo (.Name _ _) (.ref I) _ = pure ()) ?_
    refine comp_set hbe F4 N4 (fun h5 F5 N5 hs5 => ?_) rfl rfl
    clear F4 N4
    refine wpAny_pure ?_
    rw [if_pos rfl]
    clear X T
    have hil : i < ys.length := by simpa using hin
    obtain ⟨vn, hvn⟩ := get_lt (vs := _) (show i < List.length _ by rw [ints_length hnum, ← hyl]; exact hil)
    obtain ⟨x, tx, hx, rfl⟩ := ints_get hnum i vn hvn
    obtain ⟨vt, hvt⟩ := get_lt hil
    obtain ⟨y, ty, hy, rfl⟩ := strs_get jv i vt hvt
    rw [List.getElem?_map, hx] at hy
    cases hy
    obtain ⟨j1, j2, j3⟩ := hJ
    k_steps
    rename Fr _ _ _ _ => F5
    refine item_listL ⟨_, F5.keep _ _ hLN, rfl, _, rfl⟩ (Int.natCast_nonneg _) (by omega) (by simpa using hvn) ?_
    k_steps
    · have hb : bad x = false := by simp_all [bad]
      rename Fr _ _ _ _ => F5
      refine item_listL (l := ys) ⟨_, F5.keep _ _ hLD, rfl, _, rfl⟩ (Int.natCast_nonneg _) (by omega) (by simpa using hvt) ?_
      refine ⟨⟨_, F5.ns⟩, fun b o hb _ e => F5.keep b o (hB2 b o hb List.not_mem_nil e), ?_, j2, j3⟩
      show StrsAre (zs ++ [_]) ((xs.take (i + 1)).map keptText)
      rw [take_snoc hx, List.map_append]
      simp only [List.map_cons, List.map_nil, keptText, hb, Bool.false_eq_true, if_false]
      exact strs_snoc j1
    · have hb : bad x = true := by simp_all [bad]
      rename Fr _ _ _ _ => F5
      refine ⟨⟨_, F5.ns⟩, fun b o hb _ e => F5.keep b o (hB2 b o hb List.not_mem_nil e), ?_, j2, j3⟩
      show StrsAre (zs ++ [_]) ((xs.take (i + 1)).map keptText)
      rw [take_snoc hx, List.map_append]
      simp only [List.map_cons, List.map_nil, keptText, hb, if_true]
      exact strs_snoc j1
  · rintro D2 C2 s5 m5 zs k5 ⟨jz, jo5, jg5⟩ hD5 hC5 hDC5 hnC5 hD52 hk5
    refine ⟨m5, hnC5, fun h6 hs6 => ?_⟩
    have kk5 := comp_tail hk5 hC5 hs6
    have hDn5 := none_above hD5
    dsimp only at jz
    rw [show xs.take _ = xs from List.take_of_length_le (by rw [List.size_toArray, hyl]; exact Nat.le_refl _)] at jz
    replace kk5 := fun b o e => kk5 b o (Heap.get?_push_of_some _ e)
    have F6 := F.keeps kk5
    have N6 : News s.heap L h6 _ := N.grown kk5
    have hD6 : h6.get? D2 = some (W.listOf zs.toArray k5) := hs6.extBut _ _ hDC5 hD52
    have hok : AllOk (xs.map keptText) := by
      intro y hy
      obtain ⟨x, _, rfl⟩ := List.mem_map.mp hy
      exact kept_ok x
    clear F N
    dsimp only
    refine ne_strs (vs := ws.toList) (us := zs) ⟨_, (N6 _ (.head _)).1, rfl, _, rfl⟩ hws ⟨_, hD6, rfl, _, rfl⟩ jz hok hok (Nat.le_of_ble_eq_true rfl) ?_
    simp only [decide_true, Bool.not_true]
    k_steps
    rename Fr _ _ _ _ => F
    rename News _ _ _ _ => N
    refine Hold.mk ?_
    have hwl : ws.toList.length ≤ 1000 := by rw [strs_length hws, List.length_map]; omega
    refine comp_assign (items := ws.toList) (wr := []) rfl rfl (by decide) rfl (by decide) rfl rfl (fun _ => rfl) rfl rfl (fun Q' hq => ldLoc F rfl hq) F ⟨_, (N _ (.head _)).1, rfl, _, rfl⟩ (by unfold sizeLine; omega) (fun _ hb => by cases hb) (by simp) (StrJ (fun i => ((xs.take i).filter (fun x => !bad x)).map lawName) _) ⟨.nil, rfl, id⟩ StrJ.grow (names_turn (Gr.fr X T F) hws) ?_
    rintro D7 s7 ns7 k7 h7 tk7 ⟨jn, jo7, jg7⟩ hDn7 hD7 F7 hk7a hk7b
    replace F7 : Fr s.heap L h7 _ := F7
    dsimp only at jn
    rw [show xs.take _ = xs from List.take_of_length_le (by rw [strs_length hws, List.length_map]; exact Nat.le_refl _)] at jn
    have N7 := news_assign F N hDn7 hD7 hk7a hk7b
    have l7 := allNe_of (news_ne N hDn7)
    simp only [AllNe, and_true] at l7
    clear F N
    dsimp only
    k_steps
    rename Fr _ _ _ _ => F
    rename News _ _ _ _ => N
    refine Hold.mk ?_
    rw [eval_ListComp]
    refine wpAny_comprehension_free (use := none) rfl (fun _ => rfl) rfl rfl (by decide) ?_
    have hcN := (N _ (.tail _ (.tail _ (.tail _ (.tail _ (.tail _ (.tail _ (.tail _ (.head _))))))))).1
    refine wpAny_Name (wpAny_loadName_cell rfl rfl rfl ⟨_, hcN, hdN⟩ ?_) (by decide)
    refine comp_listR (wr := []) rfl ⟨_, (N _ (.tail _ (.tail _ (.tail _ (.head _))))).1, rfl, _, rfl⟩ (by have := ints_length hnum; unfold sizeLine; omega) (by decide) rfl (fun _ hb => by cases hb) (StrJ (fun i => ((xs.take i).filter (fun x => !bad x)).map lawName) _) ⟨.nil, rfl, id⟩ StrJ.grow (names2_turn (Gr.fr X T F) hnum) ?_
    rintro D9 C9 s9 m9 ns9 k9 ⟨jn9, jo9, jg9⟩ hD9 hC9 hDC9 hnC9 hD92 hk9
    refine ⟨m9, hnC9, fun hA hsA => ?_⟩
    have kkA := comp_tail hk9 hC9 hsA
    have hDnA := none_above hD9
    dsimp only at jn9
    rw [show xs.take _ = xs from List.take_of_length_le (by rw [ints_length hnum]; exact Nat.le_refl _)] at jn9
    have FA := F.keeps kkA
    have NA : News s.heap L hA _ := N.grown kkA
    have hDA : hA.get? D9 = some (W.listOf ns9.toArray k9) := hsA.extBut _ _ hDC9 hD92
    have hokn : AllOk ((xs.filter (fun x => !bad x)).map lawName) := by
      intro y hy
      obtain ⟨x, _, rfl⟩ := List.mem_map.mp hy
      exact (name_ok x).1
    clear F N
    dsimp only
    refine ne_strs (vs := ns7) (us := ns9) ⟨_, (NA _ (.head _)).1, rfl, _, rfl⟩ jn ⟨_, hDA, rfl, _, rfl⟩ jn9 hokn hokn (Nat.le_of_ble_eq_true rfl) ?_
    simp only [decide_true, Bool.not_true]
    k_steps
    refine Hold.mk ?_
    refine wpAny_For ?_
    k_steps
    rename Fr _ _ _ _ => F
    rename News _ _ _ _ => N
    rename IntsAre _ (_ ++ [10, 4, 9, 0, 26, 13, 2, 29]) => hnumA
    generalize hxsA : List.take 5 ns ++ [10, 4, 9, 0, 26, 13, 2, 29] = xsA at hnumA
    have hxlA : xsA.length < 20 := by rw [← hxsA]; exact Nat.lt_of_le_of_lt (take_len ns _) (Nat.le_of_ble_eq_true rfl)
    have os9 : s9.os = s.os := jo9.trans (jo7.trans (jo5.trans (k3.os.trans jo)))
    have gens9 : AllBare s.gens → AllBare s9.gens := fun x => jg9 (jg7 (jg5 (k3.gens (jg x))))
    have hitems := (N _ (.head _)).1
    have NJ := News.three (N _ (.tail _ (.tail _ (.tail _ (.head _))))) (N _ (.head _)) (N _ (.tail _ (.tail _ (.tail _ (.tail _ (.head _))))))
    refine Hold.mk ?_
    clear hk9 kkA hDnA hDA hsA hD92 hnC9 hC9 hD9 hDC9 jn9 jo9 jg9 hcN
    clear hk7a hk7b hDn7 hD7 l7 jo7 jg7 l8 l3
    clear hD6 kk5 hDn5 hs6 hk5 hD52 hnC5 hDC5 hC5 hD5 jo5 jg5
    refine for_listG rfl rfl rfl ⟨_, hitems, rfl, _, rfl⟩ F NJ (LawJ xsA _ D7 _) ⟨rfl, rfl, [], 0, _, rfl, fun _ h => h, ?h1, ?h2, ⟨rfl, fun j v e => by cases e⟩⟩ ?hl ?hnf ?turn ?done
    case h1 => exact off3 (show @Ne Nat _ _ by omega) (show @Ne Nat _ _ by omega)
    case h2 => exact nof2
    case hl =>
      rintro j m' news' h ⟨a1, a2, vs, k, rest, rfl, hfix, hoffR, hnf, hask⟩ N
      exact ⟨_, (N _ (List.mem_cons_of_mem _ (hfix _ (List.mem_cons_self ..)))).1, rfl, _, rfl⟩
    case hnf =>
      rintro j m' news' ⟨a1, a2, vs, k, rest, rfl, hfix, hoffR, hnf, hask⟩ q hq a e
      rcases List.mem_cons.mp hq with rfl | hq
      · cases e
      · exact hnf q hq a e
    case turn =>
      clear F N NJ hitems
      rintro j v m' news' own s₁ E' hv ⟨a1, a2, vs, k, rest, rfl, hfix, hoffR, hnf, hask⟩ hoff hos hg F N
      obtain ⟨m₁, rfl⟩ := lmap_self a1 a2
      obtain ⟨x, tx, hx, rfl⟩ := ints_get hnumA j v hv
      clear a1 a2 hv
      have hoffT := offs hoffR hoff
      rw [List.cons_append] at N
      clear hoff
      have hvz : vs.length ≤ 1000 := by
        have := hask.1
        rw [List.length_map, List.length_take] at this
        omega
      generalize htl : rest ++ own = tl at N hoffT
      obtain ⟨hp1, gens1, drawn1, toks1, os1⟩ := s₁
      dsimp only at F N hos hg
      k_steps
      rename Fr _ _ _ _ => F
      rename News _ _ _ _ => N
      obtain ⟨tm, htm⟩ := mod_item x _ _ _ _ _ _
      refine item_listL ⟨_, (N _ (.head _)).1, rfl, _, rfl⟩ (by have := mod6 x; omega) (by have := mod6 x; omega) htm ?_
      k_steps
      rename Fr _ _ _ _ => F
      rename News _ _ _ _ => N
      obtain ⟨fv, hfv, hfi⟩ := file_item x _ _ _ _
      refine item_listL ⟨_, (N _ (.head _)).1, rfl, _, rfl⟩ (by have := mod5 (x.fdiv 6); omega) (by have := mod5 (x.fdiv 6); omega) hfv ?_
      k_steps
      rename Fr _ _ _ _ => F
      rename News _ _ _ _ => N
      exact ⟨rfl, id, _, _, F, law_turn_end N htl.symm, law_step hask hx hfix hoffR hnf (show @LT.lt Nat _ _ _ by omega) rfl rfl hfi (askM_len x) rfl rfl⟩
    case done =>
      clear F N NJ hitems
      rintro m' news' s₂ ⟨a1, a2, vs, k, rest, rfl, hfix, hoffR, hnf, hask⟩ F N hos hg
      obtain ⟨m₁, rfl⟩ := lmap_self a1 a2
      clear a1 a2 hnf
      obtain ⟨hp1, gens1, drawn1, toks1, os1⟩ := s₂
      dsimp only at F N hos hg
      dsimp only
      have hD7r := hfix _ (.tail _ (.head _))
      rw [show xsA.take _ = xsA from List.take_of_length_le (by rw [ints_length hnumA]; exact Nat.le_refl _)] at hask
      clear hfix
      have hsz7 := nm_size jn
      have halen : (xsA.map askOf).length < 20 := by rw [List.length_map]; exact hxlA
      change StrsAre ns7 (nmOf xs) at jn
      k_steps
      rename Fr _ _ _ _ => F
      rename News _ _ _ _ => N
      refine Hold.mk ?_
      refine ignore_call2 (Gr.fr X T F) (items := ns7.toArray) ⟨_, (N _ (.tail _ (.tail _ hD7r))).1, rfl, _, rfl⟩ jn (nm_ne hxs jn) (by rw [List.size_toArray]; omega) ⟨_, (N _ (.head _)).1, rfl, _, rfl⟩ (Nat.le_of_ble_eq_true rfl) (Nat.le_of_ble_eq_true rfl) rfl ?_
      intro sI x dx S DD d kI hI hfr
      have FI := F.keeps kI.heap
      have NI := N.grown kI.heap
      k_steps
      refine Hold.mk ?_
      refine asks_call (Gr.fr X T F) kI.heap ⟨hfr.1, hfr.2.1, hfr.2.2.2.2⟩ hI (by rw [List.size_toArray]; omega) (by omega) (nm_two hxs) nm_len ds_len ⟨_, (NI _ (.tail _ (.head _))).1, rfl, _, rfl⟩ (hask.are NI (fun q hq => .tail _ (.tail _ hq))) (Nat.le_of_ble_eq_true rfl) (Nat.le_of_ble_eq_true rfl) rfl ?_
      intro sE E1 v1 k1 kE oE gE hE0 hE1 hEi
      have KE1 := ask_kept kI.heap hfr.2.2.2.2 kE
      have F3 := F.keeps KE1
      have N3 := news_new F (N.grown KE1) KE1 (none_back kI.heap hE0) hE1
      have hosE : sE.os = s.os := oE.trans (kI.os.trans (hos.trans os9))
      have hgE : AllBare s.gens → AllBare sE.gens := fun x => gE (kI.gens (hg (gens9 x)))
      rw [law_runs nm_mem asks_mem] at hEi
      clear F N FI NI kI hI hfr KE1 kE oE gE hE0 hE1
      k_steps
      refine Hold.mk ?_
      refine due_call (Gr.fr X T F3) ⟨_, (N3 _ (.tail _ (.tail _ (.head _)))).1, rfl, _, rfl⟩ (hask.are N3 (fun q hq => .tail _ (.tail _ (.tail _ hq)))) (by omega) (nitems := ns7) ⟨_, (N3 _ (.tail _ (.tail _ (.tail _ hD7r)))).1, rfl, _, rfl⟩ jn (by omega) nm_len nm_ok (Nat.le_of_ble_eq_true rfl) (Nat.le_of_ble_eq_true rfl) rfl ?_
      intro sU U vU kU KU hU0 hU1 hUi
      have F4 := F3.keeps KU.heap
      have N4 := news_new F3 (N3.grown KU.heap) KU.heap hU0 hU1
      have hosU : sU.os = s.os := KU.os.trans hosE
      have hgU : AllBare s.gens → AllBare sU.gens := fun x => KU.gens (hgE x)
      clear F3 N3 KU hU0 hU1
      k_steps
      refine Hold.mk ?_
      refine ne_intsK ⟨_, (N4 _ (.tail _ (.head _))).1, rfl, _, rfl⟩ hEi ⟨_, (N4 _ (.head _)).1, rfl, _, rfl⟩ hUi (Nat.le_of_ble_eq_true rfl) ?_
      simp only [decide_true, Bool.not_true]
      clear hEi hUi
      k_steps
      have hvz : vs.toArray.size ≤ sizeLine := by rw [List.size_toArray, hask.1]; unfold sizeLine; omega
      refine Hold.mk ?_
      refine' krv_lit (its := vs.toArray) (zs := vs.reverse) ?F ?N ?l ?k ?e ?_ ?s ?t ?z
      case F => exact F4
      case N => exact N4
      case l => exact ⟨_, (N4 _ (.tail _ (.tail _ (.tail _ (.head _))))).1, rfl, _, rfl⟩
      case k => exact IsPart.int _ _
      case e => rfl
      case s => with_unfolding_all rfl
      case t => intro _; with_unfolding_all rfl
      case z => exact hvz
      intro ra2 h5 F5 N5 _
      clear F4 N4
      k_steps
      refine Hold.mk ?_
      show wpAny _ _ (call (.ref 79) [] [(Str.ofString "modules", .ref _), (Str.ofString "dirs", .ref _)]) _ _ _
      refine ignore_callK (Gr.fr X T F5) (items := ns7.toArray) ⟨_, (N5 _ (.tail _ (.tail _ (.tail _ (.tail _ (.tail _ hD7r)))))).1, rfl, _, rfl⟩ jn (nm_ne hxs jn) (by rw [List.size_toArray]; omega) ⟨_, (N5 _ (.tail _ (.tail _ (.tail _ (.head _))))).1, rfl, _, rfl⟩ (Nat.le_of_ble_eq_true rfl) (Nat.le_of_ble_eq_true rfl) rfl ?_
      intro sJ x2 dx2 S2 D2' d2 kJ hJ hfr2
      have FJ := F5.keeps kJ.heap
      have NJ := N5.grown kJ.heap
      k_steps
      refine Hold.mk ?_
      refine asks_call (Gr.fr X T F5) kJ.heap ⟨hfr2.1, hfr2.2.1, hfr2.2.2.2.2⟩ hJ (by rw [List.size_toArray]; omega) (by rw [List.length_reverse]; omega) (nm_two hxs) nm_len ds_len ⟨_, (NJ _ (.head _)).1, rfl, _, rfl⟩ (hask.rev.are NJ (fun q hq => .tail _ (.tail _ (.tail _ (.tail _ (.tail _ hq)))))) (Nat.le_of_ble_eq_true rfl) (Nat.le_of_ble_eq_true rfl) rfl ?_
      intro sV E2 v2 k2 kV oV gV hV0 hV1 hVi
      have KV1 := ask_kept kJ.heap hfr2.2.2.2.2 kV
      have F6 := F5.keeps KV1
      have N6 := news_new F5 (N5.grown KV1) KV1 (none_back kJ.heap hV0) hV1
      have hosV : sV.os = s.os := oV.trans (kJ.os.trans hosU)
      have hgV : AllBare s.gens → AllBare sV.gens := fun x => gV (kJ.gens (hgU x))
      rw [law_runs nm_mem (asks_rev asks_mem)] at hVi
      clear F5 N5 FJ NJ kJ hJ hfr2 KV1 kV oV gV hV0 hV1
      k_steps
      refine Hold.mk ?_
      refine' krv_lit (its := vs.toArray) (zs := vs.reverse) ?F ?N ?l ?k ?e ?_ ?s ?t ?z
      case F => exact F6
      case N => exact N6
      case l => exact ⟨_, (N6 _ (.tail _ (.tail _ (.tail _ (.tail _ (.tail _ (.head _))))))).1, rfl, _, rfl⟩
      case k => exact IsPart.int _ _
      case e => rfl
      case s => with_unfolding_all rfl
      case t => intro _; with_unfolding_all rfl
      case z => exact hvz
      intro ra3 h7' F7 N7 _
      clear F6 N6
      k_steps
      refine Hold.mk ?_
      refine due_call (Gr.fr X T F7) ⟨_, (N7 _ (.head _)).1, rfl, _, rfl⟩ (hask.rev.are N7 (fun q hq => .tail _ (.tail _ (.tail _ (.tail _ (.tail _ (.tail _ (.tail _ hq)))))))) (by rw [List.length_reverse]; omega) (nitems := ns7) ⟨_, (N7 _ (.tail _ (.tail _ (.tail _ (.tail _ (.tail _ (.tail _ (.tail _ hD7r)))))))).1, rfl, _, rfl⟩ jn (by omega) nm_len nm_ok (Nat.le_of_ble_eq_true rfl) (Nat.le_of_ble_eq_true rfl) rfl ?_
      intro sW U2 vU2 kU2 KW hW0 hW1 hWi
      have F8 := F7.keeps KW.heap
      have N8 := news_new F7 (N7.grown KW.heap) KW.heap hW0 hW1
      have hosW : sW.os = s.os := KW.os.trans hosV
      have hgW : AllBare s.gens → AllBare sW.gens := fun x => KW.gens (hgV x)
      clear F7 N7 KW hW0 hW1
      k_steps
      refine Hold.mk ?_
      refine ne_intsK ⟨_, (N8 _ (.tail _ (.tail _ (.head _)))).1, rfl, _, rfl⟩ hVi ⟨_, (N8 _ (.head _)).1, rfl, _, rfl⟩ hWi (Nat.le_of_ble_eq_true rfl) ?_
      simp only [decide_true, Bool.not_true]
      clear hVi hWi
      replace N8 := News.sub (news' := []) N8 (fun q hq => by cases hq)
      k_steps
      rename Fr _ _ _ _ => F
      rename News _ _ _ _ => N
      refine Hold.mk ?_
      show wpAny _ _ (call (.ref 79) []) _ _ _
      refine ignore_call0 (Gr.fr X T F) (Nat.le_of_ble_eq_true rfl) (Nat.le_of_ble_eq_true rfl) rfl ?_
      intro sX x3 dx3 S3 D3' d3 kX hX hfr3
      have FX := F.keeps kX.heap
      have NX := N.grown kX.heap
      k_steps
      refine Hold.mk ?_
      refine asks_call (Gr.fr X T F) kX.heap ⟨hfr3.1, hfr3.2.1, hfr3.2.2.2.2⟩ hX (Nat.zero_le _) (Nat.le_of_ble_eq_true rfl) (.inr rfl) (fun _ h => by cases h) (fun _ h => by cases h) (items := [.ref _, .ref _]) (asks := [(Str.ofString "<string>", some (Str.ofString "x.py")), (Str.ofString "c", some (Str.ofString "/p/x.py"))]) ⟨_, (NX _ (.head _)).1, rfl, _, rfl⟩ (asks_two ⟨_, (NX _ (.tail _ (.tail _ (.head _)))).1, rfl, _, rfl⟩ ⟨_, (NX _ (.tail _ (.head _))).1, rfl, _, rfl⟩ (by decide +kernel) (by decide +kernel) (by decide +kernel) (by decide +kernel)) (Nat.le_of_ble_eq_true rfl) (Nat.le_of_ble_eq_true rfl) rfl ?_
      intro sY E3 v3 k3' kY oY gY hY0 hY1 hYi
      have KY1 := ask_kept kX.heap hfr3.2.2.2.2 kY
      have F9 := F.keeps KY1
      have N9 := news_new F (N.grown KY1) KY1 (none_back kX.heap hY0) hY1
      have hosY : sY.os = s.os := oY.trans (kX.os.trans hosW)
      have hgY : AllBare s.gens → AllBare sY.gens := fun x => gY (kX.gens (hgW x))
      rw [law_last] at hYi
      clear F N FX NX kX hX hfr3 KY1 kY oY gY hY0 hY1
      k_steps
      rename Fr _ _ _ _ => F
      rename News _ _ _ _ => N
      refine Hold.mk ?_
      refine eq_intsK (ns := [1, 0]) (ms := [1, 0]) (us := [_, _]) ⟨_, (N _ (.tail _ (.head _))).1, rfl, _, rfl⟩ hYi ⟨_, (N _ (.head _)).1, rfl, _, rfl⟩ (.cons _ _ (.cons _ _ .nil)) (Nat.le_of_ble_eq_true rfl) ?_
      simp only [decide_true]
      k_steps
      exact h _ ⟨F.keep, hosY, hgY⟩
end
section
/-- the top, then the call of law -/
theorem main : PySem.Challenge.rw_mr0159_01.Holds := hd (by
  k_fill
  intro w s₀ s₁ mg mb G Y fa o pm cd doc dV kV ho hdd hcd hD hmg hg args vals as hpre hlay hrd hwl hlo
  have KX := kIn_of Y
  refine Ground.open G ?_
  intro T B D TE TW
  clear B D TE TW
  have h2 := mg_of KX T.g (n := Str.ofString "law") (v := .ref 147) (by k_is)
  have h3 : (some (Value.ref fa) : Option Value) = some (.ref 147) := hmg.symm.trans h2
  obtain rfl : fa = 147 := by
    injection h3 with h3
    injection h3
  clear hmg h2 h3 ho hdd hcd hD
  wrow_args hpre hlay hrd hwl hlo
  refine enter_call ?_
  rename Heap.IsList _ _ _ => hL
  rename IntsAre _ _ => hI
  rename ¬ _ < _ => hc
  refine law_call ⟨KX, T⟩ hL hI (by omega) fun s' hk => ?_
  exact ⟨.inl ⟨.bool true, .bool true, [], rfl, raisesW_false (by wrow_none_raised), .bool true, (by wrow_post), unshared_nil⟩, .of_keep hk.heap, hk.os, hk.gens (.of_eq hg)⟩)
end
end Mine
set_option maxRecDepth 100000 in
set_option maxHeartbeats 8000000 in
theorem PySem.Challenge.cw_mr0159_01_holds : PySem.Challenge.rw_mr0159_01.Holds := by
  exact Mine.main
