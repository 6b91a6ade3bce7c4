import PyProof.Rows.All
import Wide.All
import OpenK.AllK
import Wide.FinOn
import PySem.Challenge.RW_wk0014_01
set_option Elab.async false
section
open PySem PySem.W PyProof.Rows
set_option maxRecDepth 100000
set_option maxHeartbeats 0
namespace Mine
noncomputable def view : Program := { PySem.Challenge.rw_wk0014_01.row.toRowW.prog with main := { PySem.Challenge.rw_wk0014_01.row.toRowW.prog.main with body := ((((PySem.Challenge.rw_wk0014_01.row.toRowW.prog.main.body.eraseIdx 20).eraseIdx 12).eraseIdx 3).eraseIdx 1) } }
theorem saidF : Fast.tw9446332074065402090 PySem.Challenge.rw_wk0014_01 = true := by kernel_rfl
theorem said : PySem.Challenge.rw_wk0014_01.wellSaid = true := (congrFun Fast.te9446332074065402090 PySem.Challenge.rw_wk0014_01).trans saidF
/-- the head, its letters filled in -/
theorem headOpen (H : Hook) {d : DefRec} {kwd : List (Str × Expr)}
    (hl : LeftO PySem.Challenge.rw_wk0014_01.row.prog view [Str.ofString "_twin_re_1", Str.ofString "_twin_re_2"] (fun s => xlAt view [] s && recOk (RowW.records PySem.Challenge.rw_wk0014_01.row.toRowW) s) H.obs H.val 3120)
    (hdef : defOf view PySem.Challenge.rw_wk0014_01.row.name = some (d, kwd)) (hp : PySem.Challenge.rw_wk0014_01.row.prog.theDef PySem.Challenge.rw_wk0014_01.row.name = some (d.params, d.body, d.scope)) (hk : kwWritten? d.params.kwonlyargs d.params.kw_defaults = some kwd)
    (hwr : (!PySem.Challenge.rw_wk0014_01.row.writes || PySem.Challenge.rw_wk0014_01.row.records.isEmpty) = true) (k1 : PySem.Challenge.rw_wk0014_01.row.wellSaid = true)
    (ok : (chainsOk view && opensWell PySem.Challenge.rw_wk0014_01.row.prog && (frees PySem.Challenge.rw_wk0014_01.row.toRowW && PySem.Challenge.rw_wk0014_01.row.within.isEmpty)) = true) (hb : PySem.Challenge.rw_wk0014_01.row.prog.bare) (hw : PySem.Challenge.rw_wk0014_01.row.toRowW.promised)
    (hc : WalkO view [Str.ofString "_twin_re_1", Str.ofString "_twin_re_2"] (XL view []) H.says PySem.Challenge.rw_wk0014_01.row.toRowW d kwd fun f vs => PySem.call f vs) : PySem.Challenge.rw_wk0014_01.row.Holds :=
  holds_open (Xt := fun s => xlAt view [] s && recOk (RowW.records PySem.Challenge.rw_wk0014_01.row.toRowW) s) hl H.of H.keeps (fun s e => xl_of s (Bool.and_eq_true_iff.mp e).1) XL.keeps hdef hp hk (fun s e => recFacts_of (Bool.and_eq_true_iff.mp e).2) hwr k1 ok hb hw hc
end Mine
local macro_rules | `(tactic| o_head $H) => `(tactic| (
   refine Mine.headOpen $H ?hl (by rfl) (by rfl) (by rfl) (by rfl) (by first | assumption | decide +kernel) (by decide +kernel) ⟨rfl, rfl, rfl, rfl, rfl, by decide +kernel⟩ ?hw ?hc
   (case hl => (intro w; unfold openEnds fencedOpening topFrom; rewrite [Fast.te10274390034422433532, Fast.te14364793385576792824, Fast.te1435165496053646825, Fast.te14289696077712309145, Fast.te14082659384304107361, Fast.te8920871248978507458, Fast.te5923862056798008813, Fast.te4187177175401517315]; kernel_rfl))
   all_goals (rename_i x9; clear x9)))
local macro_rules | `(tactic| o_law) => `(tactic| refine holds_law Mine.said fun said => ?_)
local macro_rules | `(tactic| k_qdec) => `(tactic| decide +kernel)
open_top Mine.hd for PySem.Challenge.rw_wk0014_01
end
set_option linter.unusedVariables false
set_option linter.unusedSimpArgs false
set_option compiler.extract_closed false
namespace Mine
section
set_option maxRecDepth 100000
set_option maxHeartbeats 8000000
local macro_rules | `(tactic| omega) => `(tactic| first | (with_reducible assumption) | (with_reducible exact Int.natCast_nonneg _) | (with_reducible exact Ne.symm (by assumption)) | decide | lia)
section
open PySem PySem.W PySem.Calls PySem.Spec PyProof.Rows

noncomputable abbrev PR : Program := PySem.Challenge.rw_wk0014_01.row.prog
noncomputable abbrev VW : Program := Mine.view
noncomputable abbrev LO : List Str := looseW Mine.view [Str.ofString "_twin_re_1", Str.ofString "_twin_re_2"]
noncomputable abbrev ar (dp un : Nat) (gd : Option (List Code)) (outer : List Env) : Around := { handled := none, depth := dp, frames := some outer, guards := gd, units := un }

/-- the made objects, off a kept part -/
noncomputable def NewsG (g h : Heap) (need : List (Addr × Obj)) : Prop := ∀ p ∈ need, h.get? p.1 = some p.2 ∧ g.get? p.1 = none

theorem NewsG.nil {g h : Heap} : NewsG g h [] := fun _ hp => nomatch hp
theorem newsG_of {g h : Heap} {L : Addr} {news : List (Addr × Obj)} (N : News g L h news) : NewsG g h news := fun p hp => ⟨(N p hp).1, (N p hp).2.2⟩
theorem NewsG.sub {g h : Heap} {news news' : List (Addr × Obj)} (N : NewsG g h news) (hs : ∀ p ∈ news', p ∈ news) : NewsG g h news' := fun p hp => N p (hs p hp)
theorem news_sub {g h : Heap} {L : Addr} {news news' : List (Addr × Obj)} (N : News g L h news) (hs : ∀ p ∈ news', p ∈ news) : News g L h news' := fun p hp => N p (hs p hp)

/-- what a call of a def needs of its surroundings -/
structure Site (w : World) (mean : ExcName → Option Value) (mg mb : Str → Option Value) (dp un : Nat) (gd : Option (List Code)) (outer : List Env) (base g h : Heap) : Prop where
  below : Below (ar dp un gd outer) base outer g
  stays : g.StaysIn h
  size : g.objs.size ≤ h.objs.size
  frag0 : (hd.heap_1 w.params).In base
  top0 : Top VW LO mean mg mb base
theorem Site.frag {w : World} {mean : ExcName → Option Value} {mg mb : Str → Option Value} {dp un : Nat} {gd : Option (List Code)} {outer : List Env} {base g h : Heap} (S : Site w mean mg mb dp un gd outer base g h) : (hd.heap_1 w.params).In g := S.frag0.keeps S.below.stays
theorem Site.top {w : World} {mean : ExcName → Option Value} {mg mb : Str → Option Value} {dp un : Nat} {gd : Option (List Code)} {outer : List Env} {base g h : Heap} (S : Site w mean mg mb dp un gd outer base g h) : Top VW LO mean mg mb g := S.top0.keeps S.below.stays

/-- entering a def of the text -/
theorem enter {w : World} {mean : ExcName → Option Value} {mg mb : Str → Option Value} {dp un : Nat} {gd : Option (List Code)} {outer : List Env} {base g : Heap} {s : Shared}
    {R : Result → Shared → Prop} {need : List (Addr × Obj)} {name qual : Str} {params : Arguments} {body : List Stmt} {scope : Scope} {dV kV doc pm cdv ct oc : Value} {an od : Option Addr} {osl : Array (Option Value)} {f : Addr} {args : Args} {binds : List (Str × Value)}
    (S : Site w mean mg mb dp un gd outer base g s.heap) (N : NewsG g s.heap need)
    (ho : (hd.heap_1 w.params).lookup f = some ⟨oc, od, .func (fnOf name qual params body scope dV kV doc pm an cdv ct), osl⟩) (hcd : codeIn (hd.heap_1 w.params) cdv qual = true) (hroom : dp < recursionLimit)
    (hbind : BindsTo s (fnOf name qual params body scope dV kV doc pm an cdv ct) args binds) (hloc : ∀ y ∈ binds, scope.names.lookup y.1 = some .local)
    (h : ∀ L' h₁, Fr g L' h₁ (fun y => binds.reverse.lookup y) → News g L' h₁ need →
      wpAny (model PR w) ((ar dp un gd outer).deeper (envOf qual scope L' f cdv)) (execs body (envOf qual scope L' f cdv))
        (fun fl s' => R (.ok (.ret (match fl with | .ret v => v | _ => .none))) s')
        (fun e s' => wpAny (model PR w) ((ar dp un gd outer).deeper (envOf qual scope L' f cdv)) (leaving (envOf qual scope L' f cdv) e) (fun _ s'' => R (.error e) s'') (fun e' s'' => R (.error e') s'') s')
        { s with heap := h₁, toks := s.toks + binds.length })
    (hco : scope.isCoroutine = false) (hgen : scope.isGenerator = false) (hk : scope.kind = .function)
    (hcell : ∀ x ∈ scope.names, x.2 ≠ .cell) : codeAny (model PR w) (ar dp un gd outer) (.call (.ref f) args) R s := by
  refine codeAny_call_def (fd := fnOf name qual params body scope dV kV doc pm an cdv ct) (body := body) (binds := binds) hroom ((S.frag.keeps S.stays) _ _ ho) rfl (S.top.nolimit.keeps S.stays) (codeRec_of (S.frag.keeps S.stays) hcd) rfl hbind hcell hloc (fun h₁ hns hk₁ => ?_) hco hgen hk
  exact h s.heap.objs.size h₁ ⟨hns, fun b o e => hk₁ b o (S.stays b o e), S.size⟩ fun p hp => ⟨hk₁ _ _ (N p hp).1, Nat.ne_of_lt (Heap.lt_size (N p hp).1), (N p hp).2⟩

/-- the frame of a caller: what a callee's kept part gives back -/
theorem site_of {w : World} {mean : ExcName → Option Value} {mg mb : Str → Option Value} {dp un : Nat} {gd : Option (List Code)} {outer : List Env} {A₀ : Around} {base h₀ h : Heap} {L : Addr} {m : Str → Option Value} {env : Env} {need rest : List (Addr × Obj)}
    (B : Below A₀ base outer h₀) (F : Fr h₀ L h m) (X : (hd.heap_1 w.params).In base) (T : Top VW LO mean mg mb base) (N : News h₀ L h need) (NR : News h₀ L h rest) (sep : ∀ p ∈ rest, ∀ q ∈ need, p.1 ≠ q.1) (hf : env.frame = some L) (hke : env.scope.kind = .function) :
    ∃ g, Site w mean mg mb dp un gd (env :: outer) base g h ∧ NewsG g h need ∧ h₀.StaysIn g ∧ (∀ p ∈ rest, g.get? p.1 = some p.2) ∧ Fr h₀ L g m ∧
      ∀ h' need', g.StaysIn h' → NewsG g h' need' → Fr h₀ L h' m ∧ News h₀ L h' (need' ++ rest) := by
  obtain ⟨FG, BG, st, _⟩ := groundX (A := ar dp un gd (env :: outer)) (s := ⟨h, #[], ⟨0, 0, 0, 0⟩, 0, {}⟩) (R := fun _ _ => True) B F N rfl hf hke
  have hrest : ∀ p ∈ rest, (hideAll h (need.map (·.1))).get? p.1 = some p.2 := fun p hp => hideAll_get _ (NR p hp).1 fun q => by
    obtain ⟨x, hx, e⟩ := List.mem_map.mp q
    exact sep p hp x hx e.symm
  have hL : ∃ oL, (hideAll h (need.map (·.1))).get? L = some oL := by
    obtain ⟨oL, _, _, hL, _⟩ := FG.ns
    exact ⟨oL, hL⟩
  obtain ⟨oL, hL⟩ := hL
  refine ⟨_, ⟨BG, fun b o e => of_hideAll _ e, Nat.le_of_eq (hideAll_size _ _), X, T⟩, fun p hp => ⟨(N p hp).1, hideAll_none _ (List.mem_map_of_mem hp)⟩, st, hrest, FG, fun h' need' k N' => ?_⟩
  refine ⟨FG.after k, fun p hp => ?_⟩
  rcases List.mem_append.mp hp with hp | hp
  · refine ⟨(N' p hp).1, fun q => ?_, ?_⟩
    · have := (N' p hp).2; rw [q, hL] at this; cases this
    · cases q : h₀.get? p.1 with
      | none => rfl
      | some o => have := (N' p hp).2; rw [st _ _ q] at this; cases this
  · exact ⟨k _ _ (hrest p hp), (NR p hp).2⟩


end
section
open PySem PySem.W PySem.Calls PySem.Spec PyProof.Rows
/-! a nest of ∃ and ∧ opened in one step: small terms -/
theorem ex2 {α0 α1 : Type} {R : α0 → α1 → Prop} {P : Prop} (H : ∃ x0 x1, R x0 x1) (k : ∀ x0 x1, R x0 x1 → P) : P := by
  obtain ⟨x0, x1, h⟩ := H
  exact k x0 x1 h
theorem ex3 {α0 α1 α2 : Type} {R : α0 → α1 → α2 → Prop} {P : Prop} (H : ∃ x0 x1 x2, R x0 x1 x2) (k : ∀ x0 x1 x2, R x0 x1 x2 → P) : P := by
  obtain ⟨x0, x1, x2, h⟩ := H
  exact k x0 x1 x2 h
theorem ex4 {α0 α1 α2 α3 : Type} {R : α0 → α1 → α2 → α3 → Prop} {P : Prop} (H : ∃ x0 x1 x2 x3, R x0 x1 x2 x3) (k : ∀ x0 x1 x2 x3, R x0 x1 x2 x3 → P) : P := by
  obtain ⟨x0, x1, x2, x3, h⟩ := H
  exact k x0 x1 x2 x3 h
theorem ex6 {α0 α1 α2 α3 α4 α5 : Type} {R : α0 → α1 → α2 → α3 → α4 → α5 → Prop} {P : Prop} (H : ∃ x0 x1 x2 x3 x4 x5, R x0 x1 x2 x3 x4 x5) (k : ∀ x0 x1 x2 x3 x4 x5, R x0 x1 x2 x3 x4 x5 → P) : P := by
  obtain ⟨x0, x1, x2, x3, x4, x5, h⟩ := H
  exact k x0 x1 x2 x3 x4 x5 h
theorem ex7 {α0 α1 α2 α3 α4 α5 α6 : Type} {R : α0 → α1 → α2 → α3 → α4 → α5 → α6 → Prop} {P : Prop} (H : ∃ x0 x1 x2 x3 x4 x5 x6, R x0 x1 x2 x3 x4 x5 x6) (k : ∀ x0 x1 x2 x3 x4 x5 x6, R x0 x1 x2 x3 x4 x5 x6 → P) : P := by
  obtain ⟨x0, x1, x2, x3, x4, x5, x6, h⟩ := H
  exact k x0 x1 x2 x3 x4 x5 x6 h
theorem an3 {A0 A1 A2 P : Prop} (H : A0 ∧ A1 ∧ A2) (k : A0 → A1 → A2 → P) : P := by
  obtain ⟨h0, h1, h2⟩ := H
  exact k h0 h1 h2
theorem an4 {A0 A1 A2 A3 P : Prop} (H : A0 ∧ A1 ∧ A2 ∧ A3) (k : A0 → A1 → A2 → A3 → P) : P := by
  obtain ⟨h0, h1, h2, h3⟩ := H
  exact k h0 h1 h2 h3
theorem an5 {A0 A1 A2 A3 A4 P : Prop} (H : A0 ∧ A1 ∧ A2 ∧ A3 ∧ A4) (k : A0 → A1 → A2 → A3 → A4 → P) : P := by
  obtain ⟨h0, h1, h2, h3, h4⟩ := H
  exact k h0 h1 h2 h3 h4
theorem an7 {A0 A1 A2 A3 A4 A5 A6 P : Prop} (H : A0 ∧ A1 ∧ A2 ∧ A3 ∧ A4 ∧ A5 ∧ A6) (k : A0 → A1 → A2 → A3 → A4 → A5 → A6 → P) : P := by
  obtain ⟨h0, h1, h2, h3, h4, h5, h6⟩ := H
  exact k h0 h1 h2 h3 h4 h5 h6
theorem an8 {A0 A1 A2 A3 A4 A5 A6 A7 P : Prop} (H : A0 ∧ A1 ∧ A2 ∧ A3 ∧ A4 ∧ A5 ∧ A6 ∧ A7) (k : A0 → A1 → A2 → A3 → A4 → A5 → A6 → A7 → P) : P := by
  obtain ⟨h0, h1, h2, h3, h4, h5, h6, h7⟩ := H
  exact k h0 h1 h2 h3 h4 h5 h6 h7
theorem an9 {A0 A1 A2 A3 A4 A5 A6 A7 A8 P : Prop} (H : A0 ∧ A1 ∧ A2 ∧ A3 ∧ A4 ∧ A5 ∧ A6 ∧ A7 ∧ A8) (k : A0 → A1 → A2 → A3 → A4 → A5 → A6 → A7 → A8 → P) : P := by
  obtain ⟨h0, h1, h2, h3, h4, h5, h6, h7, h8⟩ := H
  exact k h0 h1 h2 h3 h4 h5 h6 h7 h8
theorem an10 {A0 A1 A2 A3 A4 A5 A6 A7 A8 A9 P : Prop} (H : A0 ∧ A1 ∧ A2 ∧ A3 ∧ A4 ∧ A5 ∧ A6 ∧ A7 ∧ A8 ∧ A9) (k : A0 → A1 → A2 → A3 → A4 → A5 → A6 → A7 → A8 → A9 → P) : P := by
  obtain ⟨h0, h1, h2, h3, h4, h5, h6, h7, h8, h9⟩ := H
  exact k h0 h1 h2 h3 h4 h5 h6 h7 h8 h9

/-- what a call of the def at f gives, at any site with room: Pre of the kept part and the tokens so far; Post of the tokens before and behind, the value, the made objects -/
noncomputable def Says (w : World) (d u : Nat) (f : Addr) (vs : List Value) (Pre : Heap → Nat → Prop) (need : List (Addr × Obj)) (Post : Nat → Nat → Value → List (Addr × Obj) → Prop) : Prop :=
  ∀ (mean : ExcName → Option Value) (mg mb : Str → Option Value) (dp un : Nat) (gd : Option (List Code)) (outer : List Env) (base g : Heap) (s : Shared) (R : Result → Shared → Prop),
    Site w mean mg mb dp un gd outer base g s.heap → NewsG g s.heap need → Pre g s.toks → dp + d < recursionLimit → un + u < cLine →
    (∀ v need' h' tk', s.toks ≤ tk' → Post s.toks tk' v need' → g.StaysIn h' → NewsG g h' need' → R (.ok (.ret v)) { s with heap := h', toks := tk' }) →
    codeAny (model PR w) (ar dp un gd outer) (.call (.ref f) ⟨vs, []⟩) R s

/-- its use by a caller -/
theorem Says.call {w : World} {d u : Nat} {f : Addr} {vs : List Value} {Pre : Heap → Nat → Prop} {need : List (Addr × Obj)} {Post : Nat → Nat → Value → List (Addr × Obj) → Prop} (C : Says w d u f vs Pre need Post)
    {mean : ExcName → Option Value} {mg mb : Str → Option Value} {dp un : Nat} {gd : Option (List Code)} {outer : List Env} {A₀ : Around} {base h₀ : Heap} {L : Addr} {m : Str → Option Value} {news : List (Addr × Obj)}
    {cn : Str} {cs : Scope} {a : Addr} {ccd : Value} {cl : List (Str × Addr)} {s : Shared} {Q E : Value → Shared → Prop} (rest : List (Addr × Obj))
    (B : Below A₀ base outer h₀) (F : Fr h₀ L s.heap m) (X : (hd.heap_1 w.params).In base) (N : News h₀ L s.heap news) (T : Top VW LO mean mg mb base) (hk : cs.kind = .function)
    (hn : ∀ p ∈ need, p ∈ news) (hr : ∀ p ∈ rest, p ∈ news) (sep : ∀ p ∈ rest, ∀ q ∈ need, p.1 ≠ q.1)
    (hpre : ∀ g, h₀.StaysIn g → (∀ p ∈ rest, g.get? p.1 = some p.2) → Pre g s.toks) (hd : dp + d < recursionLimit) (hu : un + u < cLine)
    (h : ∀ v need' h' tk', s.toks ≤ tk' → Post s.toks tk' v need' → Fr h₀ L h' m → News h₀ L h' (need' ++ rest) → Q v { s with heap := h', toks := tk' }) :
    wpAny (model PR w) (ar dp un gd (envX cn cs L a ccd cl :: outer)) (call (.ref f) vs) Q E s := by
  obtain ⟨g, S, NG, st, hrest, _, back⟩ := site_of (dp := dp) (un := un) (gd := gd) (env := envX cn cs L a ccd cl) B F X T (news_sub N hn) (news_sub N hr) sep rfl hk
  refine wpAny_call (C mean mg mb dp un gd _ base g s _ S NG (hpre g st hrest) hd hu fun v need' h' tk' ht hp k N' => ?_)
  obtain ⟨F', N''⟩ := back h' need' k N'
  exact h v need' h' tk' ht hp F' N''

/-- a stop of my own for the walk -/
noncomputable def Hold (P : Prop) : Prop := P
theorem hold_of {P : Prop} (h : Hold P) : P := h
theorem Hold.out {P : Prop} (h : P) : Hold P := h

theorem codeAny_hold_toks {M : Model} {A : Around} {c : Code} {R : Result → Shared → Prop} {s : Shared} (h : codeAny M A c (fun r s' => Hold (s.toks ≤ s'.toks → R r s')) s) : codeAny M A c R s := codeAny_with_toks (Nat.le_refl _) h

theorem gen_toks {α : Type} {M : Model} {A : Around} {t : Sem α} {Q : α → Shared → Prop} {E : Value → Shared → Prop} {h : Heap} {g : Array GenState} {d : Drawn} {o : OsState} {a b : Nat}
    (k : ∀ tk, a + b ≤ tk → wpAny M A t Q E ⟨h, g, d, tk, o⟩) : wpAny M A t Q E ⟨h, g, d, a + b, o⟩ := k _ (Nat.le_refl _)

theorem isList_of {g h : Heap} {l : Addr} {vs : List Value} {n : Nat} (hl : g.get? l = some (listOf vs.toArray n)) (k : g.StaysIn h) : h.IsList l vs.toArray := ⟨_, k _ _ hl, rfl, _, rfl⟩

theorem item_list {prog : Program} {w : World} {A : Around} {E : Value → Shared → Prop} {s : Shared} {value slice : PySem.Expr} {l : Addr} {vs : List Value} {k : Int} {u : Tok} {v : Value} {Q : Value → Shared → Prop}
    (hl : s.heap.IsList l vs.toArray) (h0 : 0 ≤ k) (hhi : k < 2 ^ 63) (hx : vs[k.toNat]? = some v) (h : Q v s)
    (hs : subscripted slice false (.ref l) (.int k u) = operate [.ref l, .int k u] (getItem (.ref l) (.int k u)) := by with_unfolding_all rfl) :
    wpAny (model prog w) A (subscriptTail value slice (.ref l) (.int k u)) Q E s :=
  tail_any hl.typeIs slot_list_getitem.lookup (wpAny_getItem_list hl h0 hhi (by simpa using hx) h) hs

theorem set_list {prog : Program} {w : World} {A : Around} {E : Value → Shared → Prop} {s : Shared} {h₀ : Heap} {L D : Addr} {m : Str → Option Value} {news news' : List (Addr × Obj)} {vs : List Value} {n : Nat} {k : Int} {t : Tok} {x : Value} {Q : Unit → Shared → Prop}
    (F : Fr h₀ L s.heap m) (N : News h₀ L s.heap news) (U : Upd D (listOf vs.toArray n) (listOf (vs.set k.toNat x).toArray n) news news') (h0 : 0 ≤ k) (h1 : k.toNat < vs.length) (hfit : k < 2 ^ 63)
    (h : ∀ h', Fr h₀ L h' m → News h₀ L h' news' → Q () { s with heap := h' }) :
    wpAny (model prog w) A (setItem (.ref D) (.int k t) x) Q E s := by
  obtain ⟨pre, post, rfl, rfl, a, b⟩ := U.split
  have z := N (D, listOf vs.toArray n) (List.mem_append.mpr (.inr (.head _)))
  refine ki_setAt z.1 h0 hfit (by rw [List.size_toArray]; omega) (h _ (F.change (Heap.SameBut.update ..) z.2.1 z.2.2) (ki_turn _ N a b ?_ ?_))
  · show vs.toArray.setIfInBounds k.toNat x = (vs.set k.toNat x).toArray
    apply Array.toList_inj.mp
    simp
  · simp


end
section
open PySem PySem.W PySem.Calls PySem.Spec PyProof.Rows

theorem upd_ne {x y : Str} {u v : Option Value} {m : Str → Option Value} (h : y ≠ x) (e : m y = v) : (if y = x then u else m y) = v := by rw [if_neg h]; exact e

theorem fr_eq {g : Heap} {L : Addr} {h : Heap} {m m' : Str → Option Value} (F : Fr g L h m) (e : m = m') : Fr g L h m' := e ▸ F

section
variable {prog : Program} {w : World} {A : Around} {E : Value → Shared → Prop} {s : Shared}

theorem wpAny_isSame_int {p q : Int} {t u : Nat} {R : Bool → Shared → Prop} (ht : t ≠ 0) (hu : u ≠ 0) (hn : t = u → p = q) (hs : smallInt p = true) (h : R (p == q) s) :
    wpAny (model prog w) A (isSame (.int p t) (.int q u)) R E s := by
  have ht' : (t == 0) = false := by simpa using ht
  have hu' : (u == 0) = false := by simpa using hu
  show wpAny _ A (if (p == q && smallInt p) = true then isSame.cachedInt t u else isSame.created (p == q) t u) R E s
  by_cases e : p = q
  · subst e
    rw [beq_self_eq_true] at h ⊢
    rw [hs, Bool.true_and, if_pos rfl]
    show wpAny _ A (if (t == 0 || u == 0) = true then _ else _) R E s
    rw [ht', hu']
    exact wpAny_bind (wpAny_rule (wpAny_pure h))
  · have e' : (p == q) = false := by simpa using e
    rw [e'] at h ⊢
    rw [Bool.false_and, if_neg Bool.false_ne_true]
    have hne : (t == u) = false := by simpa using fun x => e (hn x)
    unfold isSame.created
    rw [ht', hu', hne]
    exact wpAny_pure h

theorem wpAny_is_int {p q : Int} {t u : Nat} {Q : Value → Shared → Prop} (ht : t ≠ 0) (hu : u ≠ 0) (hn : t = u → p = q) (hs : smallInt p = true) (h : Q (.bool (p == q)) s) :
    wpAny (model prog w) A (compareOp .Is (.int p t) (.int q u)) Q E s := by
  show wpAny _ A (do return .bool (← isSame (.int p t) (.int q u))) Q E s
  exact wpAny_bind (wpAny_isSame_int ht hu hn hs (wpAny_pure h))

theorem wpAny_isSame_str {p q : Str} {t u : Nat} {R : Bool → Shared → Prop} (hm : Looks (model prog w) s.heap (nsGet cStatics sharingNotToldKey) none) (ht : t ≠ 0) (hu : u ≠ 0) (hn : t ≠ u) (h : ∀ r, (r = true → p = q) → R r s) :
    wpAny (model prog w) A (isSame (.str p t) (.str q u)) R E s := by
  have ht' : (t == 0) = false := by simpa using ht
  have hu' : (u == 0) = false := by simpa using hu
  have hne : (t == u) = false := by simpa using hn
  have hsh : ∀ {t : Nat} {R : Bool → Shared → Prop}, R false s → wpAny (model prog w) A (sharingNotTold t) R E s := fun k => by
    unfold sharingNotTold
    exact wpAny_bind (hm.here (wpAny_pure k))
  show wpAny _ A (isSame.created (p == q) t u) R E s
  unfold isSame.created
  rw [ht', hu', hne]
  by_cases e : p = q
  · subst e
    rw [beq_self_eq_true]
    refine wpAny_bind (hsh (wpAny_bind (hsh (wpAny_bind (wpAny_rule (wpAny_bind (wpAny_askSetting (wpAny_pure (h _ fun _ => rfl)))))))))
  · have e' : (p == q) = false := by simpa using e
    rw [e']
    exact wpAny_pure (h _ fun x => by cases x)

theorem wpAny_is_str {p q : Str} {t u : Nat} {Q : Value → Shared → Prop} (hm : Looks (model prog w) s.heap (nsGet cStatics sharingNotToldKey) none) (ht : t ≠ 0) (hu : u ≠ 0) (hn : t ≠ u) (h : ∀ r, (r = true → p = q) → Q (.bool r) s) :
    wpAny (model prog w) A (compareOp .Is (.str p t) (.str q u)) Q E s := by
  show wpAny _ A (do return .bool (← isSame (.str p t) (.str q u))) Q E s
  exact wpAny_bind (wpAny_isSame_str hm ht hu hn fun r hr => wpAny_pure (h r hr))

/-- a for over one name, by a measured invariant over the state -/
theorem for_inv {env : Env} {x : Str} {px pos : Pos} {iter : Expr} {body : List Stmt} {Q : Flow → Shared → Prop} (hx : env.kindOf x = some .local)
    (hp : (env.scope.kind == .class || (env.scope.kind == .module && env.locals != env.globals)) = false)
    (hE : PassesOwn (model prog w) A env E) (hs : ∀ x, foldedSetIterable iter env x = pure x)
    (h : wpAny (model prog w) A (eval iter env) (fun xv s₁ => wpAny (model prog w) A (pyIter xv) (fun it s₂ => ∃ (Inv : Nat → Shared → Prop) (n : Nat), Inv n s₂ ∧
      ∀ k s', Inv k s' → wpAny (model prog w) A (pyNext it) (fun r s₁ => match r with
        | none => Q .next s₁
        | some v => wpAny (model prog w) A (storeName env x v) (fun _ s₂ => wpAny (model prog w) A (execs body env) (fun f s₃ => match f with
          | .next | .cont => ∃ k', k' < k ∧ Inv k' s₃
          | .brk => Q .next s₃
          | .ret v => Q (.ret v) s₃) E s₂) E s₁) E s') E s₁) E s) :
    wpAny (model prog w) A (exec (.For (.Name x px) iter body [] pos) env) Q E s := by
  refine wpAny_For (wpAny_mono h (fun xv s₁ h₁ => wpAny_mono h₁ (fun it s₂ h₂ => ?_) fun _ _ e => e) fun _ _ e => e) hs
  obtain ⟨Inv, n, h0, step⟩ := h₂
  refine codeAny_forLoop Inv (fun k s' hI => wpAny_passesOwn hE (wpAny_mono (step k s' hI) (fun r s₃ h₃ => ?_) fun _ _ e => e)) n h0
  cases r with
  | none => exact wpAny_execs_nil h₃
  | some v => exact wpAny_assign_Name (wpAny_passesOwn hE (wpAny_mono h₃ (fun _ s₄ h₄ => wpAny_passesOwn hE (wpAny_mono h₄ (fun f s₅ h₅ => by cases f <;> exact h₅) fun _ _ e => e)) fun _ _ e => e))

theorem News.pushed {g h : Heap} {L : Addr} {m : Str → Option Value} {news : List (Addr × Obj)} (F : Fr g L h m) (N : News g L h news) (o : Obj) (hf : o.isFreed = false) :
    Fr g L (h.push o) m ∧ News g L (h.push o) ((h.objs.size, o) :: news) ∧ (∀ p ∈ news, p.1 ≠ h.objs.size) :=
  ⟨F.push o, N.push F o hf, fun p hp => Nat.ne_of_lt (Heap.lt_size (N p hp).1)⟩

/-- a for over the signs of a text: an invariant over the number of turns, the tokens and the frame -/
theorem str_loop {env : Env} {g : Heap} {m : Str → Option Value} {news : List (Addr × Obj)} {x : Str} {t : Tok} {y : Str} {body : List Stmt} {Q : Flow → Shared → Prop} (J : Nat → Nat → (Str → Option Value) → Prop)
    (hh : A.handled = none) (hx : env.kindOf y = some .local) (hp : (env.scope.kind == .class || (env.scope.kind == .module && env.locals != env.globals)) = false)
    (ha : x.cps.all (· < 128) = true) (F : Fr g env.locals s.heap m) (N : News g env.locals s.heap news) (hJ : J 0 s.toks m)
    (turn : ∀ i c m₁ h tk it o, x.cps[i]? = some c → J i tk m₁ → Fr g env.locals h (fun z => if z = y then some (.str ⟨#[c]⟩ tk) else m₁ z) → News g env.locals h ((it, o) :: news) →
      wpAny (model prog w) A (execs body env) (fun f s₃ => match f with
        | .next | .cont => Hold (∃ h' tk' m', s₃ = { s with heap := h', toks := tk' } ∧ Fr g env.locals h' m' ∧ News g env.locals h' ((it, o) :: news) ∧ J (i + 1) tk' m')
        | .brk => Q .next s₃
        | .ret v => Q (.ret v) s₃) E { s with heap := h, toks := tk + 1 + 1 })
    (done : ∀ m₁ h tk, J x.cps.size tk m₁ → Fr g env.locals h m₁ → News g env.locals h news → Q .next { s with heap := h, toks := tk }) :
    wpAny (model prog w) A (pyIter (.str x t)) (fun it s₂ => ∃ (Inv : Nat → Shared → Prop) (n : Nat), Inv n s₂ ∧
      ∀ k s', Inv k s' → wpAny (model prog w) A (pyNext it) (fun r s₁ => match r with
        | none => Q .next s₁
        | some v => wpAny (model prog w) A (storeName env y v) (fun _ s₂ => wpAny (model prog w) A (execs body env) (fun f s₃ => match f with
          | .next | .cont => ∃ k', k' < k ∧ Inv k' s₃
          | .brk => Q .next s₃
          | .ret v => Q (.ret v) s₃) E s₂) E s₁) E s') E s := by
  refine wpAny_pyIter_ascii ha ?_
  obtain ⟨F0, N0, hne⟩ := News.pushed F N { cls := .type "str_ascii_iterator", data := .fields #[.str x t, .int 0 0] } rfl
  generalize s.heap.objs.size = it at N0 hne
  refine ⟨fun k s' => ∃ (h' : Heap) (tk' : Nat) (m' : Str → Option Value) (i : Nat), s' = { s with heap := h', toks := tk' } ∧ i ≤ x.cps.size ∧ k = x.cps.size - i ∧ h'.IsStrIter it "str_ascii_iterator" x t i ∧ Fr g env.locals h' m' ∧
    (∃ o, News g env.locals h' ((it, o) :: news)) ∧ J i tk' m', x.cps.size, ⟨_, s.toks, m, 0, rfl, Nat.zero_le _, rfl, ⟨_, (N0 _ (.head _)).1, rfl, rfl⟩, F0, ⟨_, N0⟩, hJ⟩, ?_⟩
  rintro k s' ⟨h', tk', m', i, rfl, hi, rfl, hit, F', ⟨o, N'⟩, hJ'⟩
  have hitL : it ≠ env.locals := (N' _ (.head _)).2.1
  have hitg : g.get? it = none := (N' _ (.head _)).2.2
  by_cases hlt : i < x.cps.size
  · refine wpAny_pyNext_ascii_item hit (c := x.cps[i]) (by simp [hlt]) fun h₁ hit₁ hs₁ => ?_
    have F₁ : Fr g env.locals h₁ m' := F'.change hs₁ hitL hitg
    obtain ⟨o₁, ho₁, hc₁, hd₁⟩ := id hit₁
    have N₁ : News g env.locals h₁ ((it, o₁) :: news) := by
      intro p hp
      rcases List.mem_cons.mp hp with rfl | hp
      · exact ⟨ho₁, hitL, hitg⟩
      · exact ⟨(hs₁.2 p.1 (hne p hp)).trans (N' p (.tail _ hp)).1, (N' p (.tail _ hp)).2⟩
    refine wpAny_storeName_local hx F₁.ns (fun h₂ hn₂ hs₂ => ?_) hp
    refine wpAny_mono (turn i x.cps[i] m' h₂ tk' it o₁ (by simp [hlt]) hJ' (F₁.set hn₂ hs₂) (N₁.set hs₂)) (fun f s₃ h₃ => ?_) fun _ _ e => e
    have fin : (∃ h' tk' m', s₃ = { s with heap := h', toks := tk' } ∧ Fr g env.locals h' m' ∧ News g env.locals h' ((it, o₁) :: news) ∧ J (i + 1) tk' m') → ∃ k', k' < x.cps.size - i ∧ (∃ (h' : Heap) (tk' : Nat) (m' : Str → Option Value) (i : Nat), s₃ = { s with heap := h', toks := tk' } ∧ i ≤ x.cps.size ∧ k' = x.cps.size - i ∧ h'.IsStrIter it "str_ascii_iterator" x t i ∧ Fr g env.locals h' m' ∧
        (∃ o, News g env.locals h' ((it, o) :: news)) ∧ J i tk' m') := by
      rintro ⟨h₄, tk₄, m₄, rfl, F₄, N₄, hJ₄⟩
      exact ⟨x.cps.size - (i + 1), by omega, h₄, tk₄, m₄, i + 1, rfl, hlt, rfl, ⟨o₁, (N₄ _ (.head _)).1, hc₁, hd₁⟩, F₄, ⟨o₁, N₄⟩, hJ₄⟩
    cases f with
    | ret v => exact h₃
    | brk => exact h₃
    | next => exact fin h₃
    | cont => exact fin h₃
  · have hin : i = x.cps.size := by omega
    subst hin
    refine wpAny_pyNext_ascii_end hh hit (by simp) fun h₁ he₁ => ?_
    have N₁ : News g env.locals h₁ news := fun p hp => ⟨he₁ _ _ (hne p hp) (N' p (.tail _ hp)).1, (N' p (.tail _ hp)).2⟩
    refine done m' h₁ _ hJ' ⟨F'.ns.at' fun o e => he₁ _ o (Ne.symm hitL) e, fun b o e => he₁ b o (fun q => by rw [q, hitg] at e; cases e) (F'.keep b o e), F'.above⟩ N₁

theorem for_str {env : Env} {g : Heap} {m : Str → Option Value} {news : List (Addr × Obj)} {x : Str} {t : Tok} {y : Str} {px pos : Pos} {iter : Expr} {body : List Stmt} {Q : Flow → Shared → Prop} (J : Nat → Nat → (Str → Option Value) → Prop)
    (hh : A.handled = none) (hx : env.kindOf y = some .local) (hp : (env.scope.kind == .class || (env.scope.kind == .module && env.locals != env.globals)) = false)
    (hE : PassesOwn (model prog w) A env E) (hs : ∀ x, foldedSetIterable iter env x = pure x)
    (he : ∀ (Q' : Value → Shared → Prop), Q' (.str x t) s → wpAny (model prog w) A (eval iter env) Q' E s)
    (ha : x.cps.all (· < 128) = true) (F : Fr g env.locals s.heap m) (N : News g env.locals s.heap news) (hJ : J 0 s.toks m)
    (turn : ∀ i c m₁ h tk it o, x.cps[i]? = some c → J i tk m₁ → Fr g env.locals h (fun z => if z = y then some (.str ⟨#[c]⟩ tk) else m₁ z) → News g env.locals h ((it, o) :: news) →
      wpAny (model prog w) A (execs body env) (fun f s₃ => match f with
        | .next | .cont => Hold (∃ h' tk' m', s₃ = { s with heap := h', toks := tk' } ∧ Fr g env.locals h' m' ∧ News g env.locals h' ((it, o) :: news) ∧ J (i + 1) tk' m')
        | .brk => Q .next s₃
        | .ret v => Q (.ret v) s₃) E { s with heap := h, toks := tk + 1 + 1 })
    (done : ∀ m₁ h tk, J x.cps.size tk m₁ → Fr g env.locals h m₁ → News g env.locals h news → Q .next { s with heap := h, toks := tk }) :
    wpAny (model prog w) A (exec (.For (.Name y px) iter body [] pos) env) Q E s :=
  for_inv hx hp hE hs (he _ (str_loop J hh hx hp ha F N hJ turn done))
end

end
section
open PySem PySem.W PySem.Calls PySem.Spec PyProof.Rows

/-- a tree that calls nothing and leaves each object's dict as it is -/
noncomputable def Still {α : Type} : Sem α → Prop
  | .pure _ => True
  | .raise _ => True
  | .unsupported _ => True
  | .finish _ => True
  | .rule _ k => Still (k ())
  | .at _ k => Still (k ())
  | .load _ _ k => ∀ o, Still (k o)
  | .update _ _ f k => (∀ o, (f o).dict = o.dict ∧ (o.isFreed = false → (f o).isFreed = false)) ∧ Still (k ())
  | .alloc _ k => ∀ a, Still (k a)
  | .loadIfAlive _ k => ∀ o, Still (k o)
  | .point _ k => Still (k ())
  | .fresh k => ∀ t, Still (k t)
  | .ask k => ∀ s, Still (k s)
  | .handled _ k => ∀ v, Still (k v)
  | .stack k => ∀ st, Still (k st)
  | _ => False

theorem Still.bind {α β : Type} {m : Sem α} {f : α → Sem β} (hm : Still m) (hf : ∀ a, Still (f a)) : Still (m >>= f) := by
  show Still (m.bind f)
  induction m with
  | pure a => exact hf a
  | raise _ => trivial
  | unsupported _ => trivial
  | finish _ => trivial
  | rule _ k ih => exact ih () hm
  | «at» _ k ih => exact ih () hm
  | load _ _ k ih => exact fun o => ih o (hm o)
  | update _ _ g k ih => exact ⟨hm.1, ih () hm.2⟩
  | alloc _ k ih => exact fun o => ih o (hm o)
  | loadIfAlive _ k ih => exact fun o => ih o (hm o)
  | point _ k ih => exact ih () hm
  | fresh k ih => exact fun o => ih o (hm o)
  | ask k ih => exact fun o => ih o (hm o)
  | handled _ k ih => exact fun o => ih o (hm o)
  | stack k ih => exact fun o => ih o (hm o)
  | _ => exact hm.elim

theorem Still.ite {α : Type} {c : Prop} [Decidable c] {a b : Sem α} (ha : Still a) (hb : Still b) : Still (if c then a else b) := by
  split
  · exact ha
  · exact hb

theorem still_wp {α : Type} {M : Model} {Γ : PySem.Ctx} {e : Addr} {d : Option Addr} {t : Sem α} (h : Still t) : ∀ {Q : α → Pos → Shared → Prop} {E : Value → Pos → Shared → Prop} {p : Pos} {s : Shared},
    (∃ o, s.heap.get? e = some o ∧ o.dict = d) → Sem.wp M Γ t Q E p s → Sem.wp M Γ t (fun a p' s' => (∃ o, s'.heap.get? e = some o ∧ o.dict = d) ∧ Q a p' s') E p s := by
  induction t with
  | pure a => intro Q E p s he H; exact ⟨he, H⟩
  | raise _ => intro Q E p s he H; exact H
  | unsupported _ => intro Q E p s he H; exact H
  | finish _ => intro Q E p s he H; exact H
  | rule _ k ih => intro Q E p s he H; exact ih () h he H
  | «at» p' k ih => intro Q E p s he H; exact ih () h he H
  | load a _ k ih => intro Q E p s he H; obtain ⟨o, ho, H⟩ := H; exact ⟨o, ho, ih o (h o) he H⟩
  | update a _ f k ih =>
    intro Q E p s he H
    refine ⟨H.1, ih () h.2 ?_ H.2⟩
    obtain ⟨o, ho, hd⟩ := he
    by_cases q : a = e
    · subst q
      exact ⟨f o, Heap.get?_update_self f ho ((h.1 o).2 (Heap.get?_some_iff.mp ho).2), (h.1 o).1.trans hd⟩
    · exact ⟨o, (Heap.get?_update_other _ _ q).trans ho, hd⟩
  | alloc o k ih =>
    intro Q E p s he H
    obtain ⟨o', ho, hd⟩ := he
    exact ih _ (h _) ⟨o', Heap.get?_push_of_some _ ho, hd⟩ H
  | loadIfAlive a k ih => intro Q E p s he H; exact ih _ (h _) he H
  | point _ k ih => intro Q E p s he H; exact ih () h he H
  | fresh k ih => intro Q E p s he H; exact ih _ (h _) he H
  | ask k ih => intro Q E p s he H; exact ih _ (h _) he H
  | handled _ k ih => intro Q E p s he H; exact ih _ (h _) he H
  | stack k ih => intro Q E p s he H; exact ih _ (h _) he H
  | _ => exact h.elim

theorem still_any {α : Type} {M : Model} {A : Around} {e : Addr} {d : Option Addr} {t : Sem α} (h : Still t) {Q : α → Shared → Prop} {E : Value → Shared → Prop} {s : Shared}
    (he : ∃ o, s.heap.get? e = some o ∧ o.dict = d) (H : wpAny M A t Q E s) : wpAny M A t (fun a s' => (∃ o, s'.heap.get? e = some o ∧ o.dict = d) ∧ Q a s') E s :=
  fun Γ p hΓ => still_wp h he (H Γ p hΓ)

theorem still_any' {α : Type} {M : Model} {A : Around} {e : Addr} {d : Option Addr} {t : Sem α} (h : Still t) {Q : α → Shared → Prop} {E : Value → Shared → Prop} {s : Shared}
    (he : ∃ o, s.heap.get? e = some o ∧ o.dict = d) (H : wpAny M A t (fun a s' => (∃ o, s'.heap.get? e = some o ∧ o.dict = d) → Q a s') E s) : wpAny M A t Q E s :=
  wpAny_mono (still_any h he H) (fun _ _ x => x.2 x.1) fun _ _ x => x

theorem mapFields_still (f : Array Value → Array Value) (o : Obj) : (Obj.mapFields f o).dict = o.dict ∧ (o.isFreed = false → (Obj.mapFields f o).isFreed = false) := by
  obtain ⟨c, d, dt, sl⟩ := o
  cases dt <;> exact ⟨rfl, fun h => h⟩

theorem still_fieldsOf (v : Value) : Still (fieldsOf v) := by
  unfold fieldsOf
  split
  · refine Still.bind (fun o => trivial) fun o => ?_
    split <;> trivial
  · trivial
theorem still_field (v : Value) (i : Nat) : Still (field v i) := by
  unfold field
  refine Still.bind (still_fieldsOf v) fun a => ?_
  split <;> trivial
theorem still_setField (v : Value) (i : Nat) (x : Value) : Still (setField v i x) := by
  unfold setField
  split
  · unfold updateField
    refine Still.bind (fun o => trivial) fun o => ?_
    split
    · exact Still.ite ⟨mapFields_still _, trivial⟩ trivial
    · trivial
  · trivial
theorem still_setFlight (e : Value) (f : Option Addr) : Still (setFlight e f) := by
  unfold setFlight
  refine Still.bind (still_field e 1) fun tb => ?_
  exact Still.ite (still_setField _ _ _) trivial
theorem still_newFields (ty : String) (vs : List Value) : Still (newFields ty vs) := by
  unfold newFields newObj newObjAsIs
  dsimp only
  repeat' (first | exact trivial | exact (fun _ => trivial) | (refine Still.bind ?_ (fun _ => ?_)) | split)
theorem still_behindIsImport (env : Env) (outer : List Env) : Still (behindIsImport env outer) := by
  unfold behindIsImport
  refine Still.ite trivial (Still.ite trivial ?_)
  exact Still.bind (still_field _ _) fun _ => trivial
theorem still_keptBack (env : Env) (i : Bool) (l : List Env) : Still (keptBack env i l) := by
  cases l with
  | nil =>
    unfold keptBack
    refine Still.ite trivial ?_
    unfold underTheClaimsCaller
    exact Still.bind (Still.bind (m := stack) (fun st => trivial) fun _ => trivial) fun _ => trivial
  | cons a l => exact trivial
theorem still_readyFrames : ∀ l : List Env, Still (readyFrames l)
  | [] => trivial
  | env :: outer => by
    unfold readyFrames
    split
    · refine Still.bind (fun o => trivial) fun o => ?_
      refine Still.ite trivial ?_
      refine Still.bind (still_behindIsImport _ _) fun i => Still.bind (still_keptBack _ _ _) fun b => ?_
      refine Still.bind ⟨fun o => ⟨rfl, fun h => (kts_isFreed o _).trans h⟩, trivial⟩ fun _ => still_readyFrames outer
    · trivial
theorem still_frameOf (env : Env) : Still (PySem.frameOf env) := by
  unfold PySem.frameOf
  refine Still.bind (m := frameEnvs) (fun st => trivial) fun l => ?_
  refine Still.bind ?_ fun r => ?_
  · unfold frameObject
    split
    · trivial
    · exact Still.bind (still_readyFrames _) fun _ => trivial
  · split <;> trivial
theorem still_entryPlaceOf (f : Addr) (b : Bool) : Still (entryPlaceOf f b) := by
  unfold entryPlaceOf
  refine Still.bind (m := stack) (fun st => trivial) fun l => ?_
  split <;> trivial
theorem still_noteFrame (e : Value) (env : Env) : Still (noteFrame e env) := by
  unfold noteFrame
  split
  · refine Still.bind (still_field _ _) fun h => ?_
    repeat' (first | exact trivial | exact still_field _ _ | exact still_setField _ _ _ | exact still_frameOf _ | exact still_entryPlaceOf _ _ | exact still_newFields _ _ | (refine Still.bind ?_ (fun _ => ?_)) | split)
  · trivial
theorem still_leaving (e : Value) (env : Env) : Still (leaving env e) := by
  unfold leaving
  exact Still.bind (still_noteFrame _ _) fun _ => still_setFlight _ _

end
section
open PySem hiding Frame Outcome
open PySem.Sre

namespace Rx

theorem runFor_add (a b : Nat) : ∀ m : M, M.runFor (a + b) m = M.runFor b (M.runFor a m) := by
  induction a with
  | zero => intro m; rw [Nat.zero_add]; rfl
  | succ a ih =>
    intro m
    rw [Nat.succ_add]
    show (if m.outcome.isSome then m else M.runFor (a + b) m.step) = M.runFor b (if m.outcome.isSome then m else M.runFor a m.step)
    split
    · rename_i h
      cases b with
      | zero => rfl
      | succ b => show m = (if m.outcome.isSome then m else _); rw [if_pos h]
    · exact ih _

theorem runFor_done {m : M} (h : m.outcome.isSome = true) (k : Nat) : M.runFor k m = m := by
  cases k with
  | zero => rfl
  | succ k => show (if m.outcome.isSome then m else _) = m; rw [if_pos h]

noncomputable def Goes (m m' : M) (n : Nat) : Prop := M.runFor n m = m'
theorem Goes.trans {a b c : M} {n k : Nat} (h : Goes a b n) (h' : Goes b c k) : Goes a c (n + k) := by
  unfold Goes at *
  rw [runFor_add, h, h']
theorem Goes.refl (m : M) : Goes m m 0 := rfl
theorem Goes.step {m m' : M} (h0 : m.outcome = none) (h : m.step = m') : Goes m m' 1 := by
  show (if m.outcome.isSome then m else M.runFor 0 m.step) = m'
  rw [h0]
  exact h

noncomputable abbrev c1 : Array Nat := #[14, 4, 0, 1, 1, 6, 1, 16, 46, 1]
noncomputable abbrev c2 : Array Nat := #[14, 9, 4, 1, 2, 16, 10, 16, 13, 0, 7, 7, 16, 13, 16, 10, 15, 18, 5, 16, 10, 15, 13, 11, 16, 13, 5, 5, 0, 16, 10, 1, 15, 2, 0, 1]

/-- the machine over pattern and text, nothing kept -/
noncomputable abbrev mk (c T : Array Nat) (last s pc pos handed : Nat) (out : Bool) (fs : List Frame) (wt : Nat) (ans : Option Bool) (sn : Seen) (oc : Option Outcome) : M :=
  { code := c, text := T, lim := T.size, start := s, lastStart := last, pc, pos, handed, outermost := out, marks := #[], frames := fs, weight := wt, answer := ans, seen := sn, outcome := oc }

noncomputable abbrev fStart (pc s : Nat) (out : Bool) : Frame := { wait := .nextStart, pc, pos := s, outermost := out }
noncomputable abbrev fBranch (pc s : Nat) (out : Bool) : Frame := { wait := .nextBranch, pc, pos := s, outermost := out }

variable {T : Array Nat} {last s : Nat} {out : Bool} {fs : List Frame} {wt : Nat} {sn : Seen}

theorem lit_yes {c : Array Nat} {pc pos h k : Nat} (h0 : c.getD pc 0 = 16) (hpc : pc < c.size) (h1 : c.getD (pc + 1) 0 = k) (ht : T[pos]? = some k) :
    Goes (mk c T last s pc pos h out fs wt none sn none) (mk c T last s (pc + 2) (pos + 1) h out fs wt none (sn.add 16) none) 1 := by
  have hlt : pos < T.size := (Array.getElem?_eq_some_iff.mp ht).1
  have hg : T.getD pos 0 = k := by rw [Array.getD_eq_getD_getElem?, ht]; rfl
  refine Goes.step rfl ?_
  simp only [M.step, M.exec, M.word, Option.isSome_none, Bool.false_eq_true, if_false, if_pos hpc, Nat.add_zero, h0, ops, List.getElem?_toArray]
  simp [accepts, itemWidth, h0, h1, hg, ops, Nat.not_le.mpr hlt]

theorem lit_no {c : Array Nat} {pc pos h k : Nat} (h0 : c.getD pc 0 = 16) (hpc : pc < c.size) (h1 : c.getD (pc + 1) 0 = k) (ht : T[pos]? ≠ some k) :
    Goes (mk c T last s pc pos h out fs wt none sn none) (mk c T last s pc pos h out fs wt (some false) (sn.add 16) none) 1 := by
  refine Goes.step rfl ?_
  simp only [M.step, M.exec, M.word, Option.isSome_none, Bool.false_eq_true, if_false, if_pos hpc, Nat.add_zero, h0, ops, List.getElem?_toArray]
  by_cases hlt : pos < T.size
  · have hg : (T[pos]?.getD 0 == k) = false := by
      rw [beq_eq_false_iff_ne]
      intro q
      apply ht
      rw [← q, Array.getElem?_eq_getElem hlt]
      rfl
    simp [accepts, itemWidth, h0, h1, ops, Nat.not_le.mpr hlt, M.say, hg]
  · simp [Nat.not_lt.mp hlt, M.say]

theorem jump {c : Array Nat} {pc pos h k : Nat} (h0 : c.getD pc 0 = 15) (hpc : pc < c.size) (h1 : pc + 1 + c.getD (pc + 1) 0 = k) :
    Goes (mk c T last s pc pos h out fs wt none sn none) (mk c T last s k pos h out fs wt none (sn.add 15) none) 1 := by
  subst h1
  refine Goes.step rfl ?_
  simp [M.step, M.exec, M.word, if_pos hpc, h0, ops]

theorem succ {c : Array Nat} {pc pos h : Nat} (h0 : c.getD pc 0 = 1) (hpc : pc < c.size) :
    Goes (mk c T last s pc pos h out fs wt none sn none) (mk c T last s pc pos pos out fs wt (some true) (sn.add 1) none) 1 := by
  refine Goes.step rfl ?_
  simp [M.step, M.exec, M.word, if_pos hpc, h0, ops, M.say]

theorem branch {c : Array Nat} {pc pos h : Nat} (h0 : c.getD pc 0 = 7) (hpc : pc < c.size) (h1 : c.getD (pc + 1) 0 ≠ 0) (hw : wt < 16777216) :
    Goes (mk c T last s pc pos h out fs wt none sn none) (mk c T last s (pc + 2) pos pos out (fBranch (pc + 1) pos out :: fs) (wt + 1) none (sn.add 7) none) 1 := by
  refine Goes.step rfl ?_
  have hw' : ¬ (16777216 < wt + 1) := by omega
  have h1' : ¬ c[pc + 1]?.getD 0 = 0 := by simpa using h1
  simp [M.step, M.exec, M.word, if_pos hpc, h0, ops, M.alternative, h1', M.attempt, M.frame, M.keep, hw']

theorem branch_yes {c : Array Nat} {p q pc pos h : Nat} {o o' : Bool} :
    Goes (mk c T last s pc pos h o (fBranch p q o' :: fs) (wt + 1) (some true) sn none) (mk c T last s p q h o' fs wt (some true) sn none) 1 := by
  refine Goes.step rfl ?_
  simp [M.step, M.resume, M.say]

theorem branch_no {c : Array Nat} {p q pc pos h : Nat} {o o' : Bool} (h1 : c.getD (p + c.getD p 0) 0 ≠ 0) (hw : wt < 16777216) :
    Goes (mk c T last s pc pos h o (fBranch p q o' :: fs) (wt + 1) (some false) sn none) (mk c T last s (p + c.getD p 0 + 1) q q o' (fBranch (p + c.getD p 0) q o' :: fs) (wt + 1) none sn none) 1 := by
  refine Goes.step rfl ?_
  have hw' : ¬ (16777216 < wt + 1) := by omega
  simp only [M.step, M.resume, Option.isSome_none, Bool.false_eq_true, if_false, M.alternative, M.putBack]
  have h1' : ¬ c[p + c[p]?.getD 0]?.getD 0 = 0 := by simpa using h1
  simp [h1', M.attempt, M.frame, hw']

theorem start_yes {c : Array Nat} {p q pc pos h : Nat} {o o' : Bool} :
    Goes (mk c T last s pc pos h o (fStart p q o' :: fs) (wt + 1) (some true) sn none) (mk c T last s p q h o' fs wt (some true) sn none) 1 := by
  refine Goes.step rfl ?_
  simp [M.step, M.resume, M.say]

theorem ends {c : Array Nat} {pc pos h : Nat} {o b : Bool} :
    Goes (mk c T last s pc pos h o [] wt (some b) sn none) (mk c T last s pc pos h o [] wt (some b) sn (some (if b then .matched else .failed))) 1 := by
  refine Goes.step rfl ?_
  simp [M.step]

noncomputable abbrev fNot (pc s : Nat) (out : Bool) : Frame := { wait := .lookNot, pc, pos := s, outermost := out }

theorem assert_not {c : Array Nat} {pc pos h : Nat} (h0 : c.getD pc 0 = 5) (hpc : pc < c.size) (h2 : c.getD (pc + 2) 0 = 0) (hw : wt < 16777216) :
    Goes (mk c T last s pc pos h out fs wt none sn none) (mk c T last s (pc + 3) pos pos false (fNot pc pos out :: fs) (wt + 1) none (sn.add 5) none) 1 := by
  refine Goes.step rfl ?_
  have hw' : ¬ (16777216 < wt + 1) := by omega
  simp [M.step, M.exec, M.word, if_pos hpc, h0, h2, ops, M.attempt, M.frame, M.keep, hw']

theorem not_no {c : Array Nat} {p q pc pos h : Nat} {o o' : Bool} :
    Goes (mk c T last s pc pos h o (fNot p q o' :: fs) (wt + 1) (some false) sn none) (mk c T last s (p + 1 + c.getD (p + 1) 0) q h o' fs wt none sn none) 1 := by
  refine Goes.step rfl ?_
  simp [M.step, M.resume, M.putBack, M.word]

/-- the search begins at s: the branch over the three ends -/
theorem c2_match {e : Nat} (hc : c2 = c2) (h : (T[s]? = some 13 ∧ T[s + 1]? = some 10 ∧ e = s + 2) ∨ (T[s]? = some 10 ∧ e = s + 1) ∨ (T[s]? = some 13 ∧ T[s + 1]? ≠ some 10 ∧ e = s + 1)) :
    ∃ n sn', n < 40 ∧ Goes (mk c2 T last s 10 s s true [fStart 10 s true] 1 none sn none) (mk c2 T last s 10 s e true [] 0 (some true) sn' (some .matched)) n := by
  have fin : ∀ {pc pos : Nat} {sn : Seen} {pp : Nat}, ∃ n sn', n ≤ 4 ∧ Goes (mk c2 T last s 35 pos pp true [fBranch pc s true, fStart 10 s true] 2 none sn none) (mk c2 T last s 10 s pos true [] 0 (some true) sn' (some .matched)) n := by
    intro pc pos sn pp
    exact ⟨_, _, Nat.le_refl _, (((succ rfl (by decide)).trans branch_yes).trans start_yes).trans ends⟩
  rcases h with ⟨h1, h2, rfl⟩ | ⟨h1, rfl⟩ | ⟨h1, h2, rfl⟩
  · obtain ⟨n, sn', hn, hf⟩ := fin (pc := 11) (pos := s + 2) (pp := s) (sn := (((sn.add 7).add 16).add 16).add 15)
    exact ⟨_, sn', by omega, (((branch rfl (by decide) (by decide) (by decide)).trans (lit_yes rfl (by decide) rfl h1)).trans (lit_yes rfl (by decide) rfl h2)).trans ((jump rfl (by decide) rfl).trans hf)⟩
  · obtain ⟨n, sn', hn, hf⟩ := fin (pc := 18) (pos := s + 1) (pp := s) (sn := (((sn.add 7).add 16).add 16).add 15)
    refine ⟨_, sn', ?_, (((branch rfl (by decide) (by decide) (by decide)).trans (lit_no rfl (by decide) rfl (by rw [h1]; decide))).trans (branch_no (by decide) (by decide))).trans ((lit_yes rfl (by decide) rfl h1).trans ((jump rfl (by decide) rfl).trans hf))⟩
    omega
  · obtain ⟨n, sn', hn, hf⟩ := fin (pc := 23) (pos := s + 1) (pp := s + 1) (sn := (((((((sn.add 7).add 16).add 16).add 16).add 16).add 5).add 16).add 15)
    refine ⟨_, sn', ?_, (((branch rfl (by decide) (by decide) (by decide)).trans ((lit_yes rfl (by decide) rfl h1).trans (lit_no rfl (by decide) rfl h2))).trans (branch_no (by decide) (by decide))).trans
      (((lit_no rfl (by decide) rfl (by rw [h1]; decide)).trans (branch_no (by decide) (by decide))).trans ((lit_yes rfl (by decide) rfl h1).trans ((assert_not rfl (by decide) rfl (by decide)).trans ((lit_no rfl (by decide) rfl h2).trans (not_no.trans ((jump rfl (by decide) rfl).trans hf))))))⟩
    omega


/-- what a run of the machine comes to -/
noncomputable def Comes (m : M) (oc : Outcome) (s e : Nat) (n : Nat) : Prop := ∃ k mf, k ≤ n ∧ Goes m mf k ∧ mf.outcome = some oc ∧ mf.start = s ∧ mf.handed = e

theorem Comes.after {m m' : M} {oc : Outcome} {s e n k : Nat} (h : Goes m m' k) (c : Comes m' oc s e n) : Comes m oc s e (k + n) := by
  obtain ⟨j, mf, hj, g, h1, h2, h3⟩ := c
  exact ⟨_, mf, by omega, h.trans g, h1, h2, h3⟩
theorem Comes.le {m : M} {oc : Outcome} {s e n k : Nat} (c : Comes m oc s e n) (h : n ≤ k) : Comes m oc s e k := by
  obtain ⟨j, mf, hj, g, r⟩ := c
  exact ⟨j, mf, Nat.le_trans hj h, g, r⟩

noncomputable def isEnd (c : Nat) : Bool := c == 10 || c == 13

theorem inSet2 (c : Nat) (sn : Seen) : ∃ sn', inSet c2 c c2.size 5 true sn = .ok (isEnd c, sn') := by
  show ∃ sn', inSet c2 c 36 5 true sn = _
  by_cases h1 : c = 10
  · subst h1; exact ⟨_, rfl⟩
  · by_cases h2 : c = 13
    · subst h2; exact ⟨_, rfl⟩
    · refine ⟨((sn.add 16).add 16).add 0, ?_⟩
      simp [inSet, ops, isEnd, h1, h2]

theorem admitted_some (m : M) (hc : m.code = c2) (i : Nat) : ∀ (k f s : Nat) (sn : Seen), i = s + k → k < f → i < m.lim → isEnd (m.text.getD i 0) = true → (∀ j, s ≤ j → j < i → isEnd (m.text.getD j 0) = false) →
    ∃ sn', M.admitted m f s sn = .ok (some i, sn') := by
  intro k
  induction k with
  | zero =>
    intro f s sn hi hf hl he hno
    obtain ⟨f, rfl⟩ : ∃ f', f = f' + 1 := ⟨f - 1, by omega⟩
    obtain ⟨sn', hs⟩ := inSet2 (m.text.getD s 0) sn
    have : i = s := by omega
    subst this
    refine ⟨sn', ?_⟩
    unfold M.admitted
    rw [if_neg (by omega), hc, hs, he]
  | succ k ih =>
    intro f s sn hi hf hl he hno
    obtain ⟨f, rfl⟩ : ∃ f', f = f' + 1 := ⟨f - 1, by omega⟩
    obtain ⟨sn', hs⟩ := inSet2 (m.text.getD s 0) sn
    obtain ⟨sn'', h⟩ := ih f (s + 1) sn' (by omega) (by omega) hl he (fun j h1 h2 => hno j (by omega) h2)
    refine ⟨sn'', ?_⟩
    unfold M.admitted
    rw [if_neg (by omega), hc, hs, hno s (Nat.le_refl _) (by omega)]
    exact h
theorem admitted_none (m : M) (hc : m.code = c2) : ∀ (f s : Nat) (sn : Seen), (∀ j, s ≤ j → j < m.lim → isEnd (m.text.getD j 0) = false) → ∃ sn', M.admitted m f s sn = .ok (none, sn') := by
  intro f
  induction f with
  | zero => intro s sn _; exact ⟨sn, rfl⟩
  | succ f ih =>
    intro s sn hno
    unfold M.admitted
    by_cases hl : s ≥ m.lim
    · rw [if_pos hl]; exact ⟨sn, rfl⟩
    · obtain ⟨sn', hs⟩ := inSet2 (m.text.getD s 0) sn
      obtain ⟨sn'', h⟩ := ih (s + 1) sn' (fun j h1 h2 => hno j (by omega) h2)
      refine ⟨sn'', ?_⟩
      rw [if_neg hl, hc, hs, hno s (Nat.le_refl _) (by omega)]
      exact h

theorem forSearch2 (T : Array Nat) (p : Nat) : forSearch c2 T 0 p T.size false =
    if (decide (p > T.size) || decide (T.size - p < 1)) = true then (mk c2 T 0 p 10 p p true [] 0 none (({} : Seen).add 14) none).say false
    else (mk c2 T T.size p 10 p p true [] 0 none (({} : Seen).add 14) none).attemptFrom p true := rfl

theorem say_fails {c : Array Nat} {pc pos h : Nat} {o : Bool} : Comes ((mk c T last s pc pos h o [] wt none sn none).say false) .failed s h 1 :=
  ⟨1, _, Nat.le_refl _, ends, rfl, rfl, rfl⟩

theorem getD_some {i c : Nat} (h : T[i]? = some c) : T.getD i 0 = c := by rw [Array.getD_eq_getD_getElem?, h]; rfl

/-- the first end at i, e behind it -/
theorem search2_some {p i e : Nat} (hp : p ≤ i) (hno : ∀ j, p ≤ j → j < i → isEnd (T.getD j 0) = false)
    (h : (T[i]? = some 13 ∧ T[i + 1]? = some 10 ∧ e = i + 2) ∨ (T[i]? = some 10 ∧ e = i + 1) ∨ (T[i]? = some 13 ∧ T[i + 1]? ≠ some 10 ∧ e = i + 1)) :
    Comes (forSearch c2 T 0 p T.size false) .matched i e 100 := by
  have hi : i < T.size ∧ isEnd (T.getD i 0) = true := by
    rcases h with ⟨h1, _⟩ | ⟨h1, _⟩ | ⟨h1, _⟩
    all_goals exact ⟨(Array.getElem?_eq_some_iff.mp h1).1, by rw [getD_some h1]; decide⟩
  rw [forSearch2, if_neg (by simp; omega)]
  obtain ⟨sn', hs⟩ := admitted_some (mk c2 T T.size p 10 p p true [] 0 none (({} : Seen).add 14) none) rfl i (i - p) (T.size + 1 - p) p (({} : Seen).add 14) (by omega) (by omega) hi.1 hi.2 hno
  unfold M.attemptFrom
  rw [if_neg (show ¬ (!M.hasFirstSet (mk c2 T T.size p 10 p p true [] 0 none (({} : Seen).add 14) none)) = true from fun q => nomatch q)]
  have hs' : M.admitted (mk c2 T T.size p 10 p p true [] 0 none (({} : Seen).add 14) none) (M.lim (mk c2 T T.size p 10 p p true [] 0 none (({} : Seen).add 14) none) + 1 - p) p (M.seen (mk c2 T T.size p 10 p p true [] 0 none (({} : Seen).add 14) none)) = .ok (some i, sn') := hs
  rw [hs']
  obtain ⟨n, sn'', hn, hg⟩ := c2_match (T := T) (last := T.size) (s := i) (sn := sn') (e := e) rfl h
  exact ⟨n, _, by omega, hg, rfl, rfl, rfl⟩

theorem search2_none {p : Nat} (hno : ∀ j, p ≤ j → j < T.size → isEnd (T.getD j 0) = false) : ∃ s e, Comes (forSearch c2 T 0 p T.size false) .failed s e 100 := by
  rw [forSearch2]
  by_cases h : (decide (p > T.size) || decide (T.size - p < 1)) = true
  · rw [if_pos h]
    exact ⟨_, _, say_fails.le (by omega)⟩
  · rw [if_neg h]
    obtain ⟨sn', hs⟩ := admitted_none (mk c2 T T.size p 10 p p true [] 0 none (({} : Seen).add 14) none) rfl (T.size + 1 - p) p (({} : Seen).add 14) hno
    unfold M.attemptFrom
    rw [if_neg (show ¬ (!M.hasFirstSet (mk c2 T T.size p 10 p p true [] 0 none (({} : Seen).add 14) none)) = true from fun q => nomatch q)]
    have hs' : M.admitted (mk c2 T T.size p 10 p p true [] 0 none (({} : Seen).add 14) none) (M.lim (mk c2 T T.size p 10 p p true [] 0 none (({} : Seen).add 14) none) + 1 - p) p (M.seen (mk c2 T T.size p 10 p p true [] 0 none (({} : Seen).add 14) none)) = .ok (none, sn') := hs
    rw [hs']
    exact ⟨_, _, say_fails.le (by omega)⟩

/-- a line's beginning with a dot -/
noncomputable def isHead (T : Array Nat) (i : Nat) : Prop := (i = 0 ∨ T.getD (i - 1) 0 = 10) ∧ T[i]? = some 46

theorem at_line {c : Array Nat} {pc pos h : Nat} (h0 : c.getD pc 0 = 6) (hpc : pc < c.size) (h1 : c.getD (pc + 1) 0 = 1) {b : Bool} (hb : (pos == 0 || T.getD (pos - 1) 0 == 10) = b) :
    Goes (mk c T last s pc pos h out fs wt none sn none) (if b = true then mk c T last s (pc + 2) pos h out fs wt none ((sn.add 6).add 44) none else mk c T last s pc pos h out fs wt (some false) ((sn.add 6).add 44) none) 1 := by
  refine Goes.step rfl ?_
  simp only [M.step, M.exec, M.word, Option.isSome_none, Bool.false_eq_true, if_false, if_pos hpc, Nat.add_zero, h0, h1, M.isAt, hb, ops, List.getElem?_toArray]
  cases b <;> rfl

theorem start_no {p pc pos h q : Nat} {o o' : Bool} (hq : q < last) :
    Goes (mk c1 T last s pc pos h o (fStart p q o' :: []) 1 (some false) sn none) (mk c1 T last (q + 1) p (q + 1) (q + 1) false (fStart p (q + 1) false :: []) 1 none sn none) 1 := by
  refine Goes.step rfl ?_
  simp [M.step, M.resume, hq, M.attemptFrom, M.hasFirstSet, ops, M.attemptAt, M.attempt]
theorem start_over {p pc pos h q : Nat} {o o' : Bool} (hq : ¬ q < last) :
    Goes (mk c1 T last s pc pos h o (fStart p q o' :: []) 1 (some false) sn none) (mk c1 T last s p q h o' [] 0 (some false) sn none) 1 := by
  refine Goes.step rfl ?_
  simp [M.step, M.resume, hq, M.say]

theorem c1_no (h : ¬ isHead T s) : ∃ n sn', n ≤ 2 ∧ ∃ pc, Goes (mk c1 T last s 5 s s out [fStart 5 s out] 1 none sn none) (mk c1 T last s pc s s out [fStart 5 s out] 1 (some false) sn' none) n := by
  cases hb : (s == 0 || T.getD (s - 1) 0 == 10) with
  | false => exact ⟨1, _, by omega, 5, at_line rfl (by decide) rfl hb⟩
  | true =>
    have hx : T[s]? ≠ some 46 := fun q => h ⟨by simpa using hb, q⟩
    exact ⟨_, _, by omega, 7, (at_line rfl (by decide) rfl hb).trans (lit_no rfl (by decide) rfl hx)⟩
theorem c1_yes (h : isHead T s) : Comes (mk c1 T last s 5 s s out [fStart 5 s out] 1 none sn none) .matched s (s + 1) 20 := by
  have hb : (s == 0 || T.getD (s - 1) 0 == 10) = true := by simpa using h.1
  exact ⟨_, _, by omega, (at_line rfl (by decide) rfl hb).trans ((lit_yes rfl (by decide) rfl h.2).trans ((succ rfl (by decide)).trans (start_yes.trans ends))), rfl, rfl, rfl⟩

theorem c1_some {i : Nat} (hi : i ≤ last) (hh : isHead T i) : ∀ (k s : Nat) (out : Bool) (sn : Seen), i = s + k → (∀ j, s ≤ j → j < i → ¬ isHead T j) →
    Comes (mk c1 T last s 5 s s out [fStart 5 s out] 1 none sn none) .matched i (i + 1) (20 + 3 * k) := by
  intro k
  induction k with
  | zero =>
    intro s out sn hs hno
    have : i = s := by omega
    subst this
    exact c1_yes hh
  | succ k ih =>
    intro s out sn hs hno
    obtain ⟨n, sn', hn, pc, hg⟩ := c1_no (T := T) (last := last) (out := out) (sn := sn) (hno s (Nat.le_refl _) (by omega))
    exact (((ih (s + 1) false sn' (by omega) (fun j h1 h2 => hno j (by omega) h2)).after (start_no (by omega))).after hg).le (by omega)
theorem c1_none : ∀ (k s : Nat) (out : Bool) (sn : Seen), last = s + k → (∀ j, s ≤ j → j ≤ last → ¬ isHead T j) →
    ∃ s' e, Comes (mk c1 T last s 5 s s out [fStart 5 s out] 1 none sn none) .failed s' e (20 + 3 * k) := by
  intro k
  induction k with
  | zero =>
    intro s out sn hs hno
    obtain ⟨n, sn', hn, pc, hg⟩ := c1_no (T := T) (last := last) (out := out) (sn := sn) (hno s (Nat.le_refl _) (by omega))
    exact ⟨_, _, _, _, by omega, hg.trans ((start_over (by omega)).trans ends), rfl, rfl, rfl⟩
  | succ k ih =>
    intro s out sn hs hno
    obtain ⟨n, sn', hn, pc, hg⟩ := c1_no (T := T) (last := last) (out := out) (sn := sn) (hno s (Nat.le_refl _) (by omega))
    obtain ⟨s', e, hc⟩ := ih (s + 1) false sn' (by omega) (fun j h1 h2 => hno j (by omega) h2)
    exact ⟨s', e, ((hc.after (start_no (by omega))).after hg).le (by omega)⟩

theorem forSearch1 (T : Array Nat) (p : Nat) : forSearch c1 T 0 p T.size false =
    if (decide (p > T.size) || decide (T.size - p < 1)) = true then (mk c1 T 0 p 5 p p true [] 0 none (({} : Seen).add 14) none).say false
    else (mk c1 T T.size p 5 p p true [] 0 none (({} : Seen).add 14) none).attemptFrom p true := rfl

theorem search1_some {p i : Nat} (hp : p ≤ i) (hno : ∀ j, p ≤ j → j < i → ¬ isHead T j) (h : isHead T i) : Comes (forSearch c1 T 0 p T.size false) .matched i (i + 1) (20 + 3 * T.size) := by
  have hi := (Array.getElem?_eq_some_iff.mp h.2).1
  rw [forSearch1, if_neg (by simp; omega)]
  exact (c1_some (T := T) (last := T.size) (by omega) h (i - p) p true _ (by omega) hno).le (by omega)
theorem search1_none {p : Nat} (hno : ∀ j, p ≤ j → j < T.size → ¬ isHead T j) : ∃ s e, Comes (forSearch c1 T 0 p T.size false) .failed s e (20 + 3 * T.size) := by
  rw [forSearch1]
  by_cases h : (decide (p > T.size) || decide (T.size - p < 1)) = true
  · rw [if_pos h]
    exact ⟨_, _, say_fails.le (by omega)⟩
  · rw [if_neg h]
    simp at h
    obtain ⟨s', e, hc⟩ := c1_none (T := T) (last := T.size) (T.size - p) p true (({} : Seen).add 14) (by omega) (fun j h1 h2 => by
      by_cases hj : j < T.size
      · exact hno j h1 hj
      · exact fun q => hj (Array.getElem?_eq_some_iff.mp q.2).1)
    exact ⟨s', e, hc.le (by omega)⟩


/-- the text with each hit put out and repl put in, from p on -/
inductive Subs (T : Array Nat) (hit : Nat → Nat → Prop) (clear : Nat → Prop) (repl : List Nat) : Nat → List Nat → Prop
  | stop {p : Nat} : (∀ j, p ≤ j → j < T.size → clear j) → Subs T hit clear repl p (T.toList.drop p)
  | go {p s e : Nat} {out : List Nat} : p ≤ s → s < e → e ≤ T.size → hit s e → (∀ j, p ≤ j → j < s → clear j) → Subs T hit clear repl e out → Subs T hit clear repl p ((T.toList.drop p).take (s - p) ++ repl ++ out)

theorem take_take_drop {l : List Nat} {p q s : Nat} (h : p ≤ q) (h' : q ≤ s) : (l.drop p).take (s - p) = (l.drop p).take (q - p) ++ (l.drop q).take (s - q) := by
  have h1 : s - p = (q - p) + (s - q) := by omega
  rw [h1, List.take_add, List.drop_drop, show p + (q - p) = q by omega]
theorem drop_take_drop {l : List Nat} {p q : Nat} (h : p ≤ q) : l.drop p = (l.drop p).take (q - p) ++ l.drop q := by
  conv => lhs; rw [← List.take_append_drop (q - p) (l.drop p)]
  rw [List.drop_drop, show p + (q - p) = q by omega]
theorem Subs.skip {T : Array Nat} {hit : Nat → Nat → Prop} {clear : Nat → Prop} {repl : List Nat} {p q : Nat} {out : List Nat} (h : Subs T hit clear repl q out) (hpq : p ≤ q) (hc : ∀ j, p ≤ j → j < q → clear j) :
    Subs T hit clear repl p ((T.toList.drop p).take (q - p) ++ out) := by
  cases h with
  | stop hs =>
    rw [← drop_take_drop hpq]
    exact .stop fun j h1 h2 => if h3 : j < q then hc j h1 h3 else hs j (by omega) h2
  | go h1 h2 h3 h4 h5 h6 =>
    rw [← List.append_assoc, ← List.append_assoc, ← take_take_drop hpq h1]
    exact .go (by omega) h2 h3 h4 (fun j k1 k2 => if k3 : j < q then hc j k1 k3 else h5 j (by omega) k2) h6

/-- the machine over this pattern finds the hits -/
structure Finder (T c : Array Nat) (hit : Nat → Nat → Prop) (clear : Nat → Prop) : Prop where
  yes : ∀ p s e, p ≤ s → hit s e → (∀ j, p ≤ j → j < s → clear j) → Comes (forSearch c T 0 p T.size false) .matched s e (100 + 3 * T.size)
  no : ∀ p, (∀ j, p ≤ j → j < T.size → clear j) → ∃ s e, Comes (forSearch c T 0 p T.size false) .failed s e (100 + 3 * T.size)

noncomputable def hit2 (T : Array Nat) (i e : Nat) : Prop := (T[i]? = some 13 ∧ T[i + 1]? = some 10 ∧ e = i + 2) ∨ (T[i]? = some 10 ∧ e = i + 1) ∨ (T[i]? = some 13 ∧ T[i + 1]? ≠ some 10 ∧ e = i + 1)
noncomputable def clear2 (T : Array Nat) (j : Nat) : Prop := isEnd (T.getD j 0) = false
noncomputable def hit1 (T : Array Nat) (i e : Nat) : Prop := isHead T i ∧ e = i + 1
noncomputable def clear1 (T : Array Nat) (j : Nat) : Prop := ¬ isHead T j
theorem finder2 (T : Array Nat) : Finder T c2 (hit2 T) (clear2 T) :=
  ⟨fun p s e hp hh hc => (search2_some hp hc hh).le (by omega), fun p hc => by obtain ⟨s, e, h⟩ := search2_none (T := T) hc; exact ⟨s, e, h.le (by omega)⟩⟩
theorem finder1 (T : Array Nat) : Finder T c1 (hit1 T) (clear1 T) :=
  ⟨fun p s e hp hh hc => by obtain ⟨h1, rfl⟩ := hh; exact (search1_some hp hc h1).le (by omega), fun p hc => by obtain ⟨s, e, h⟩ := search1_none (T := T) hc; exact ⟨s, e, h.le (by omega)⟩⟩

end Rx

end
section
open PySem PySem.W PySem.Calls PySem.Spec PyProof.Rows
namespace Rx
open PySem.Builtin PySem.Builtin.Re

theorem plainAttrs_pat : PlainAttrs "re.Pattern" :=
  ⟨⟨"object.__getattribute__", by rw [typeLookup_type, builtinLookup_eq_fast]; kernel_rfl, by decide +kernel⟩, by rw [typeLookup_type, builtinLookup_eq_fast]; kernel_rfl⟩
theorem owner_pat : Manifest.owners.lookup (String.ofList ['n', 'r', 'e', 't', 't', 'a', 'P', '.', 'e', 'r'].reverse) = some Manifest.sig_re_Pattern := by kernel_rfl
theorem slot_sub : Slot "re.Pattern" "sub" "re.Pattern.sub" :=
  .of (owner := "re.Pattern") (n := "sub") (by rw [typeLookup_type, builtinLookup_eq_fast]; kernel_rfl) (by decide +kernel) (by decide +kernel) (by decide +kernel)
    (by first | exact .inl (by decide +kernel) | exact .inr (by decide +kernel)) (by rw [isSubtype_type]; kernel_rfl)
theorem type_sub : typeOf (.builtin "re.Pattern.sub") = pure (.type "method_descriptor") := by show builtinType _ = _; rw [builtinType_eq_fast]; kernel_rfl
theorem entry_sub : entryFor table "re.Pattern.sub" = some Builtin.«re.Pattern.sub» := entryFor_of_tree (by kernel_rfl)
theorem args_sub_3 (a b c : Value) : argsOk "re.Pattern.sub" ⟨[a, b, c], []⟩ := by
  unfold argsOk; rw [signature?_of (id := "re.Pattern.sub") (n := ['b', 'u', 's']) (o := ['n', 'r', 'e', 't', 't', 'a', 'P', '.', 'e', 'r']) (by kernel_rfl) owner_pat]; kernel_rfl
theorem plain_sub_loop : plainId "re.Pattern.sub.loop" = true := by decide +kernel
theorem entry_sub_loop : entryFor table "re.Pattern.sub.loop" = some Builtin.«re.Pattern.sub.loop» := entryFor_of_tree (by kernel_rfl)

section
variable {M' : Model} {A : Around} {E : Value → Shared → Prop} {st : Shared}

theorem drive_ok {Q : Sre.M → Shared → Prop} {mf : Sre.M} (ho : mf.outcome.isSome = true) (h : Q mf st) : ∀ (fuel k : Nat) (m : Sre.M), k < 4 * fuel → Sre.M.runFor k m = mf → wpAny M' A (reDrive fuel m) Q E st := by
  intro fuel
  induction fuel with
  | zero => intro k m hk; omega
  | succ fuel ih =>
    intro k m hk hr
    show wpAny M' A (if (Sre.M.runFor 4 m).outcome.isSome = true then pure (Sre.M.runFor 4 m) else do rule "sre.turn"; reDrive fuel (Sre.M.runFor 4 m)) Q E st
    by_cases hc : (Sre.M.runFor 4 m).outcome.isSome = true
    · rw [if_pos hc]
      have e : Sre.M.runFor 4 m = mf := by
        rcases Nat.le_total k 4 with h4 | h4
        · have := runFor_add k (4 - k) m
          rw [show k + (4 - k) = 4 by omega, hr, runFor_done ho] at this
          exact this
        · have := runFor_add 4 (k - 4) m
          rw [show 4 + (k - 4) = k by omega, hr, runFor_done hc] at this
          exact this.symm
      rw [e]
      exact wpAny_pure h
    · rw [if_neg hc]
      refine wpAny_bind (wpAny_rule (ih (k - 4) _ ?_ ?_))
      · by_cases hk4 : k < 4
        · exfalso
          apply hc
          have := runFor_add k (4 - k) m
          rw [show k + (4 - k) = 4 by omega, hr, runFor_done ho] at this
          rw [this]; exact ho
        · omega
      · have hk4 : 4 ≤ k := by
          apply Nat.le_of_not_lt
          intro hk4
          apply hc
          have := runFor_add k (4 - k) m
          rw [show k + (4 - k) = 4 by omega, hr, runFor_done ho] at this
          rw [this]; exact ho
        rw [← runFor_add, show 4 + (k - 4) = k by omega]
        exact hr

theorem for_rules {P : Nat → Bool} {tag : Nat → String} {Q : PUnit → Shared → Prop} (h : Q PUnit.unit st) : ∀ l : List Nat, wpAny M' A (forIn l PUnit.unit fun i __s =>
    if P i = true then do
      rule (tag i)
      pure (ForInStep.yield PUnit.unit)
    else pure (ForInStep.yield PUnit.unit)) Q E st := by
  intro l
  induction l with
  | nil => exact wpAny_pure h
  | cons a l ih =>
    rw [List.forIn_cons]
    by_cases hp : P a = true
    · rw [if_pos hp]
      exact wpAny_bind (wpAny_bind (wpAny_rule (wpAny_pure ih)))
    · rw [if_neg hp]
      exact wpAny_bind (wpAny_pure ih)

theorem run_end {Q : Option Sre.M → Shared → Prop} {m : Sre.M} {oc : Sre.Outcome} {a e n : Nat} (h : Comes m oc a e n) (hn : n < 2 ^ 60)
    (hq : match oc with | .matched => ∀ mf : Sre.M, mf.start = a → mf.handed = e → Q (some mf) st | .failed => Q none st | .stuck _ => False) : wpAny M' A (reRunToEnd m) Q E st := by
  obtain ⟨k, mf, hk, hg, ho, h1, h2⟩ := h
  unfold reRunToEnd
  refine wpAny_bind (drive_ok (mf := mf) (by rw [ho]; rfl) ?_ (2 ^ 64) k m (by omega) hg)
  refine wpAny_bind (for_rules ?_ _)
  rw [ho]
  cases oc with
  | matched => exact wpAny_pure (hq mf h1 h2)
  | failed => exact wpAny_pure hq
  | stuck _ => exact hq.elim
end

/-- a pattern of code c that stands -/
noncomputable def IsPat (h : Heap) (p : Addr) (c : Array Nat) : Prop :=
  ∃ o fs q oq items n, h.get? p = some o ∧ o.cls = .type "re.Pattern" ∧ o.dict = none ∧ o.data = .fields fs ∧ fs.getD 5 .none = .ref q ∧ fs.getD 6 .none = .int 0 0 ∧ fs.getD 2 .none = .int 0 0 ∧
    h.get? q = some oq ∧ oq.cls = .type "tuple" ∧ oq.data = .seq items n ∧ (items.map reRawOf).map Int.toNat = c
theorem IsPat.keep {h h' : Heap} {p : Addr} {c : Array Nat} (x : IsPat h p c) (k : ∀ b o, h.get? b = some o → h'.get? b = some o) : IsPat h' p c := by
  obtain ⟨o, fs, q, oq, items, n, h1, h2, h3, h4, h5, h6, h7, h8, h8', h9⟩ := x
  exact ⟨o, fs, q, oq, items, n, k _ _ h1, h2, h3, h4, h5, h6, h7, k _ _ h8, h8', h9⟩

theorem IsPat.keep_but {h h' : Heap} {p D : Addr} {c : Array Nat} {vs : Array Value} {k : Nat} (x : IsPat h p c) (hp : p ≠ D) (hD : h.get? D = some (listOf vs k)) (kp : ∀ b o, b ≠ D → h.get? b = some o → h'.get? b = some o)  : IsPat h' p c := by
  obtain ⟨o, fs, q, oq, items, n, h1, h2, h3, h4, h5, h6, h7, h8, h8', h9, h10⟩ := x
  refine ⟨o, fs, q, oq, items, n, kp _ _ hp h1, h2, h3, h4, h5, h6, h7, kp _ _ (fun e => ?_) h8, h8', h9, h10⟩
  rw [e, hD] at h8
  cases h8
  exact absurd h8' (by simp)
section
variable {prog : Program} {w : World} {A : Around} {E : Value → Shared → Prop} {s : Shared}
theorem whole_target {P : Addr} {c : Array Nat} {tx : Str} {t : Tok} {Q : ReTarget → Shared → Prop} (hp : IsPat s.heap P c)
    (h : Q { pattern := .ref P, string := .str tx t, code := c, text := tx.cps, kind := 0, groups := 0, pos := 0, lim := tx.cps.size } s) : wpAny (model prog w) A (reWholeTarget (.ref P) (.str tx t)) Q E s := by
  obtain ⟨o, fs, q, oq, items, n, h1, h2, h3, h4, h5, h6, h7, h8, h8', h9, rfl⟩ := hp
  unfold reWholeTarget
  refine wpAny_bind (wpAny_fieldsOf h1 h4 ?_)
  refine wpAny_bind (wpAny_pure ?_)
  simp only [h5, h6, h7, reRawNat]
  refine wpAny_bind (wpAny_ite ?_)
  rw [if_neg (by decide)]
  refine wpAny_pure (wpAny_bind ?_)
  unfold reRawItems
  exact wpAny_bind (wpAny_seqItems h8 h9 (wpAny_pure (wpAny_pure h)))

theorem list_at {D : Addr} {h : Heap} {vs : Array Value} {k : Nat} (hD : h.get? D = some (listOf vs k)) (f : Array Value → Array Value) : ∃ k', (h.update D (Obj.mapSeq f)).get? D = some (listOf (f vs) k') :=
  ⟨_, (Heap.get?_update_self _ hD rfl).trans rfl⟩

theorem texts_snoc (l : List (Str × Tok)) (x : Str) (t : Tok) : (strValues (l ++ [(x, t)])).toArray = (strValues l).toArray.push (.str x t) := by
  simp [strValues]

theorem lit_cannot {rp : Str} {u : Tok} {Q : Unit → Shared → Prop} (h : Q () s) : wpAny (model prog w) A (reLiteralCannotBeTurned (.str rp u)) Q E s := by
  unfold reLiteralCannotBeTurned
  exact wpAny_bind (wpAny_pure (wpAny_pure h))

theorem slice_text {x : Array Nat} {b e : Nat} {Q : Value → Shared → Prop} (hz : x.size ≤ sizeLine) (h : Q (.str ⟨x.extract b e⟩ s.toks) { s with toks := s.toks + 1 }) : wpAny (model prog w) A (reSlice x 0 b e) Q E s := by
  unfold reSlice
  rw [if_pos (by decide)]
  exact wpAny_mkStr h (by show (x.extract b e).size ≤ sizeLine; simp; omega)

noncomputable def cat (acc : List (Str × Tok)) : List Nat := (acc.map fun p => p.1.cps.toList).flatten
theorem cat_snoc (acc : List (Str × Tok)) (x : Str) (t : Tok) : cat (acc ++ [(x, t)]) = cat acc ++ x.cps.toList := by simp [cat]
theorem join_cat : ∀ acc : List Str, (Str.join ⟨#[]⟩ acc).cps.toList = (acc.map fun p => p.cps.toList).flatten
  | [] => rfl
  | [x] => by simp [Str.join]
  | x :: y :: r => by
    have h := join_cat (y :: r)
    show ((x ++ (⟨#[]⟩ : Str)) ++ Str.join ⟨#[]⟩ (y :: r)).cps.toList = _
    rw [List.map_cons, List.flatten_cons, ← h]
    simp [Str.cps_append]
theorem joinOk_of (l : List Str) (h : ((l.map fun p => p.cps.toList).flatten).length ≤ sizeLine) : JoinOk ⟨#[]⟩ l = true := by
  have key : ∀ (l : List Str) (n : Nat), l.foldl (fun a b => a + b.length + (⟨#[]⟩ : Str).length) n = n + ((l.map fun p => p.cps.toList).flatten).length := by
    intro l
    induction l with
    | nil => intro n; simp
    | cons x r ih =>
      intro n
      rw [List.foldl_cons, ih]
      simp only [List.map_cons, List.flatten_cons, List.length_append, Array.length_toList]
      show n + x.cps.size + 0 + _ = _
      omega
  unfold JoinOk Builtin.Str.tooLong
  rw [show l.toArray.foldl (fun a b => a + b.length + (⟨#[]⟩ : Str).length) 0 = l.foldl (fun a b => a + b.length + (⟨#[]⟩ : Str).length) 0 by simp, key]
  simp
  simpa using h

/-- the loop's end: the pieces joined -/
theorem sub_joined {D : Addr} {acc : List (Str × Tok)} {k : Nat} {Q : Value → Shared → Prop} {t1 : Tok} (hD : s.heap.get? D = some (listOf (strValues acc).toArray k)) (hl : (cat acc).length < 2 ^ 20)
    (hR : ∀ tk l t', l.cps.toList = cat acc → Q (.str l t') { s with toks := tk }) :
    wpAny (model prog w) A (call (.builtin "str.join") [.str ⟨#[]⟩ t1, .ref D]) Q E s := by
  refine SC.join (l := acc) (texts := acc.map (·.1)) ⟨_, hD, rfl, _, rfl⟩ rfl (joinOk_of _ ?_) (fun t' k' => hR _ _ _ ?_)
  · have : ((acc.map (·.1)).map fun p => p.cps.toList).flatten = cat acc := by simp [cat, Function.comp_def]
    rw [this]; unfold sizeLine; omega
  · rw [show Txt.join ⟨#[]⟩ (acc.map (·.1)) = Str.join ⟨#[]⟩ (acc.map (·.1)) from StrLaws.glued_eq_join _ _, join_cat]
    simp [cat, Function.comp_def]

theorem sub_loop {tx rp : Str} {c : Array Nat} {hit : Nat → Nat → Prop} {clear : Nat → Prop} {t u : Tok} {P D : Addr} (fd : Finder tx.cps c hit clear) (hz : tx.cps.size < 2 ^ 20) {p : Nat} {out : List Nat} (hs : Subs tx.cps hit clear rp.cps.toList p out) :
    ∀ (acc : List (Str × Tok)) (k n : Nat) (s : Shared) (R : Result → Shared → Prop), IsPat s.heap P c → P ≠ D → s.heap.get? D = some (listOf (strValues acc).toArray k) → acc.length + 2 * (tx.cps.size - p) < 2 ^ 22 → (cat acc ++ out).length < 2 ^ 20 →
    (∀ h' tk l t', (∀ b o, b ≠ D → s.heap.get? b = some o → h'.get? b = some o) → l.cps.toList = cat acc ++ out → R (.ok (.ret (.str l t'))) { s with heap := h', toks := tk }) →
    codeAny (model prog w) A (.builtin "re.Pattern.sub.loop" ⟨[.ref P, .str tx t, .str rp u, rawInt 0, rawInt 0, rawInt n, rawInt p, rawInt p, .bool false, .ref D, .bool false], []⟩) R s := by
  induction hs with
  | @stop p hc =>
    intro acc k n s R hp hPD hD hl hcat hR
    refine codeAny_builtin entry_sub_loop ?_
    rw [Around.under_plainId plain_sub_loop _]
    unfold Builtin.«re.Pattern.sub.loop»
    dsimp only [rawInt]
    refine wpAny_bind (whole_target hp ?_)
    refine wpAny_bind (lit_cannot ?_)
    refine wpAny_bind ?_
    rw [if_neg (show ¬ ((0 : Int) != 0 && decide ((n : Int) ≥ 0)) = true by simp)]
    unfold reNextFound
    obtain ⟨a, e, hf⟩ := fd.no p hc
    refine run_end hf (by omega) ?_
    dsimp only
    have he : tx.cps.extract 0 0 = #[] := by simp
    by_cases hlt : p < tx.cps.size
    · rw [if_pos (by simpa using hlt)]
      refine wpAny_bind (slice_text (by unfold sizeLine; omega) (wpAny_bind ?_))
      obtain ⟨k', hD'⟩ := list_at hD (fun x => x.push (Value.str ⟨tx.cps.extract p tx.cps.size⟩ s.toks))
      rw [← texts_snoc] at hD'
      refine wpAny_updateSeq hD rfl ?_ (by simp [strValues]; unfold sizeLine; omega) (by simp [strValues]; unfold sizeLine; omega)
      refine wpAny_bind (slice_text (by unfold sizeLine; omega) ?_)
      rw [he]
      refine wpAny_bind (wpAny_seqItems hD' rfl ?_)
      dsimp only
      rw [if_neg (by simp [strValues])]
      have hcat' : cat (acc ++ [(⟨tx.cps.extract p tx.cps.size⟩, s.toks)]) = cat acc ++ tx.cps.toList.drop p := by
        rw [cat_snoc]; simp only [Array.toList_extract, List.extract_eq_take_drop]; rw [List.take_of_length_le (by simp)]
      refine wpAny_bind (sub_joined hD' (by rw [hcat']; exact hcat) ?_)
      intro tk l t' hl'
      rw [if_neg (by decide)]
      exact wpAny_pure (hR _ _ _ _ (fun b o hb e => (Heap.get?_update_other _ _ (Ne.symm hb)).trans e) (hl'.trans hcat'))
    · rw [if_neg (by simpa using hlt)]
      refine wpAny_bind (slice_text (by unfold sizeLine; omega) ?_)
      rw [he]
      refine wpAny_bind (wpAny_seqItems hD rfl ?_)
      try dsimp only
      have hd0 : tx.cps.toList.drop p = [] := by simp; omega
      cases acc with
      | nil =>
        rw [if_pos (by simp [strValues])]
        refine wpAny_bind (wpAny_pure ?_)
        rw [if_neg (by decide)]
        exact wpAny_pure (hR _ _ _ _ (fun b o hb e => e) (by rw [hd0]; rfl))
      | cons x acc =>
        rw [if_neg (by simp [strValues])]
        refine wpAny_bind (sub_joined hD (by rw [hd0] at hcat; simpa using hcat) ?_)
        intro tk l t' hl'
        rw [if_neg (by decide)]
        exact wpAny_pure (hR _ _ _ _ (fun b o hb e => e) (by rw [hl', hd0, List.append_nil]))
  | @go p a e out h1 h2 h3 h4 h5 h6 ih =>
    intro acc k n s R hp hPD hD hl hcat hR
    refine codeAny_builtin entry_sub_loop ?_
    rw [Around.under_plainId plain_sub_loop _]
    unfold Builtin.«re.Pattern.sub.loop»
    dsimp only [rawInt]
    refine wpAny_bind (whole_target hp ?_)
    refine wpAny_bind (lit_cannot ?_)
    refine wpAny_bind ?_
    rw [if_neg (show ¬ ((0 : Int) != 0 && decide ((n : Int) ≥ 0)) = true by simp)]
    unfold reNextFound
    refine run_end (fd.yes p a e h1 h4 h5) (by omega) ?_
    dsimp only
    intro mf hst hhd
    subst hst hhd
    have hb : (mf.handed == mf.start) = false := by simp; omega
    have hn1 : (n : Int) + 1 = ((n + 1 : Nat) : Int) := by omega
    by_cases hlt : p < mf.start
    · rw [if_pos (by simpa using hlt)]
      refine wpAny_bind (slice_text (by unfold sizeLine; omega) (wpAny_bind ?_))
      obtain ⟨k', hD'⟩ := list_at hD (fun x => x.push (Value.str ⟨tx.cps.extract p mf.start⟩ s.toks))
      rw [← texts_snoc] at hD'
      refine wpAny_updateSeq hD rfl ?_ (by simp [strValues]; unfold sizeLine; omega) (by simp [strValues]; unfold sizeLine; omega)
      rw [if_pos (by decide)]
      refine wpAny_bind (wpAny_pure ?_)
      rw [if_pos (show (Value.str rp u != Value.none) = true from rfl)]
      refine wpAny_bind ?_
      obtain ⟨k'', hD''⟩ := list_at hD' (fun x => x.push (Value.str rp u))
      rw [← texts_snoc] at hD''
      refine wpAny_updateSeq hD' rfl ?_ (by simp [strValues]; unfold sizeLine; omega) (by simp [strValues]; unfold sizeLine; omega)
      refine wpAny_pure ⟨plainId_quiet plain_sub_loop _, ?_⟩
      rw [hb, hn1]
      have hc2 : cat (acc ++ [(⟨tx.cps.extract p mf.start⟩, s.toks)] ++ [(rp, u)]) ++ out = cat acc ++ ((tx.cps.toList.drop p).take (mf.start - p) ++ rp.cps.toList ++ out) := by
        rw [cat_snoc, cat_snoc]; simp [List.extract_eq_take_drop]
      have keep : ∀ b o, b ≠ D → s.heap.get? b = some o → ((s.heap.update D (Obj.mapSeq fun x => x.push (Value.str ⟨tx.cps.extract p mf.start⟩ s.toks))).update D (Obj.mapSeq fun x => x.push (Value.str rp u))).get? b = some o :=
        fun b o hb e => (Heap.get?_update_other _ _ (Ne.symm hb)).trans ((Heap.get?_update_other _ _ (Ne.symm hb)).trans e)
      refine ih _ k'' (n + 1) _ R ?_ hPD hD'' ?_ ?_ ?_
      · exact hp.keep_but hPD hD keep
      · simp; omega
      · rw [hc2]; exact hcat
      · intro h' tk l t' hk hl'
        exact hR _ _ _ _ (fun b o hb e => hk b o hb (keep b o hb e)) (hl'.trans hc2)
    · rw [if_neg (by simpa using hlt)]
      have hps : p = mf.start := by omega
      rw [if_pos (by decide)]
      refine wpAny_bind (wpAny_pure ?_)
      rw [if_pos (show (Value.str rp u != Value.none) = true from rfl)]
      refine wpAny_bind ?_
      obtain ⟨k'', hD''⟩ := list_at hD (fun x => x.push (Value.str rp u))
      rw [← texts_snoc] at hD''
      refine wpAny_updateSeq hD rfl ?_ (by simp [strValues]; unfold sizeLine; omega) (by simp [strValues]; unfold sizeLine; omega)
      refine wpAny_pure ⟨plainId_quiet plain_sub_loop _, ?_⟩
      rw [hb, hn1]
      have hc2 : cat (acc ++ [(rp, u)]) ++ out = cat acc ++ ((tx.cps.toList.drop p).take (mf.start - p) ++ rp.cps.toList ++ out) := by
        rw [cat_snoc, hps]; simp
      have keep : ∀ b o, b ≠ D → s.heap.get? b = some o → (s.heap.update D (Obj.mapSeq fun x => x.push (Value.str rp u))).get? b = some o :=
        fun b o hb e => (Heap.get?_update_other _ _ (Ne.symm hb)).trans e
      refine ih _ k'' (n + 1) _ R ?_ hPD hD'' ?_ ?_ ?_
      · exact hp.keep_but hPD hD keep
      · simp; omega
      · rw [hc2]; exact hcat
      · intro h' tk l t' hk hl'
        exact hR _ _ _ _ (fun b o hb e => hk b o hb (keep b o hb e)) (hl'.trans hc2)
end
end Rx

end
section
open PySem PySem.W PySem.Calls PySem.Spec PyProof.Rows
namespace Rx
open PySem.Builtin PySem.Builtin.Re
theorem named3 (a b : Value) : reNamed "re.Pattern.sub" "sub" ["repl", "string", "count"] 2 [a, b] [] = pure [some a, some b, none] := by
  rfl
theorem no_call : typeLookup (.type "str") (Str.ofString "__call__") = pure none := by rw [typeLookup_type, builtinLookup_eq_fast]; kernel_rfl

section
variable {prog : Program} {w : World} {A : Around} {E : Value → Shared → Prop} {s : Shared}
theorem resub_says {tx rp : Str} {c : Array Nat} {hit : Nat → Nat → Prop} {clear : Nat → Prop} {t u : Tok} {P : Addr} {out : List Nat} {Q : Value → Shared → Prop} (fd : Finder tx.cps c hit clear) (hz : tx.cps.size < 2 ^ 20) (hs : Subs tx.cps hit clear rp.cps.toList 0 out)
    (hp : IsPat s.heap P c) (hr : rp.cps.contains 92 = false) (ho : out.length < 2 ^ 20)
    (hR : ∀ h' tk l t', (∀ b o, s.heap.get? b = some o → h'.get? b = some o) → l.cps.toList = out → Q (.str l t') { s with heap := h', toks := tk }) :
    wpAny (model prog w) A (call (.builtin "re.Pattern.sub") [.ref P, .str rp u, .str tx t]) Q E s := by
  have hT : s.TypeIs (.ref P) "re.Pattern" := by
    obtain ⟨o, fs, q, oq, items, n, h1, h2, _⟩ := hp
    exact ⟨o, h1, h2⟩
  refine wpAny_call (codeAny_call_builtin slot_sub.plain entry_sub (slot_sub.check _ _ _ _ _ _ _ _ hT (args_sub_3 _ _ _) ?_))
  unfold Builtin.«re.Pattern.sub» reSubstitute
  dsimp only
  rw [named3]
  refine wpAny_bind (wpAny_pure ?_)
  dsimp only
  refine wpAny_bind (wpAny_pure (wpAny_bind (wpAny_specialOf (typeIs_str _ _ _) no_call ?_)))
  rw [if_neg (by decide)]
  refine wpAny_bind (wpAny_pure ?_)
  dsimp only
  rw [hr]
  refine wpAny_bind (wpAny_pure ?_)
  rw [if_neg (by decide), if_pos (by decide)]
  refine wpAny_bind (wpAny_pure ?_)
  refine wpAny_bind (wpAny_holding (whole_target hp ?_))
  dsimp only
  rw [if_neg (show ¬ ((0 : Int) == 1) = true by decide)]
  refine wpAny_bind (wpAny_newList ?_)
  have hP : P ≠ s.heap.objs.size := by
    obtain ⟨o, fs, q, oq, items, n, h1, _⟩ := hp
    exact Nat.ne_of_lt (Heap.lt_size h1)
  have up : ∀ b o, s.heap.get? b = some o → (s.heap.push (listOf #[] 0)).get? b = some o := fun b o e => Heap.get?_push_of_some _ e
  refine wpAny_pure ⟨plainId_quiet plain_sub_loop _, sub_loop (c := c) fd hz hs [] 0 0 _ _ (hp.keep up) hP (Heap.get?_push_size _ rfl) (by simp; omega) (by simpa [cat] using ho) ?_⟩
  intro h' tk l t' hk hl
  exact hR h' tk l t' (fun b o e => hk b o (Nat.ne_of_lt (Heap.lt_size e)) (up b o e)) hl
end
end Rx

end
section
open PySem
namespace Rx

noncomputable def lines2 (ls : List (List Nat × List Nat)) : List Nat := (ls.map fun p => p.1 ++ p.2).flatten
noncomputable def linesCr (ls : List (List Nat)) : List Nat := (ls.map fun r => r ++ [13, 10]).flatten
noncomputable def dotted (r : List Nat) : List Nat := if r.head? = some 46 then 46 :: r else r

noncomputable def LineOk (p : List Nat × List Nat) : Prop := p.1 ≠ [] ∧ (∀ c ∈ p.1, c ≠ 10 ∧ c ≠ 13) ∧ (p.2 = [10] ∨ p.2 = [13] ∨ p.2 = [13, 10])

theorem at_pre {T : Array Nat} {pre l : List Nat} (h : T.toList = pre ++ l) (i : Nat) : T[pre.length + i]? = l[i]? := by
  rw [← Array.getElem?_toList, h, List.getElem?_append_right (by omega), show pre.length + i - pre.length = i by omega]
theorem getD_pre {T : Array Nat} {pre l : List Nat} (h : T.toList = pre ++ l) (i : Nat) : T.getD (pre.length + i) 0 = l.getD i 0 := by
  rw [Array.getD_eq_getD_getElem?, at_pre h, List.getD_eq_getElem?_getD]
theorem size_pre {T : Array Nat} {pre l : List Nat} (h : T.toList = pre ++ l) : T.size = pre.length + l.length := by
  rw [← Array.length_toList, h, List.length_append]

theorem not_end_of {r l : List Nat} (hr : ∀ c ∈ r, c ≠ 10 ∧ c ≠ 13) {i : Nat} (hi : i < r.length) : isEnd ((r ++ l).getD i 0) = false := by
  rw [List.getD_eq_getElem?_getD, List.getElem?_append_left hi, List.getElem?_eq_getElem hi]
  have := hr r[i] (List.getElem_mem hi)
  simp [isEnd, this.1, this.2]

theorem subs2_lines {T : Array Nat} : ∀ (ls : List (List Nat × List Nat)) (pre : List Nat), (∀ p ∈ ls, LineOk p) → T.toList = pre ++ lines2 ls →
    Subs T (hit2 T) (clear2 T) [13, 10] pre.length (linesCr (ls.map (·.1))) := by
  intro ls
  induction ls with
  | nil =>
    intro pre hok hT
    have hs := size_pre hT
    have : linesCr (([] : List (List Nat × List Nat)).map (·.1)) = T.toList.drop pre.length := by rw [hT]; simp [linesCr, lines2]
    rw [this]
    exact .stop fun j h1 h2 => by simp [lines2] at hs; omega
  | cons p ls ih =>
    intro pre hok hT
    obtain ⟨r, en⟩ := p
    obtain ⟨hne, hr, hen⟩ := hok _ (.head _)
    have hT1 : T.toList = pre ++ (r ++ (en ++ lines2 ls)) := by rw [hT]; simp [lines2]
    have hT2 : T.toList = (pre ++ r) ++ (en ++ lines2 ls) := by rw [hT]; simp [lines2]
    have hT3 : T.toList = (pre ++ r ++ en) ++ lines2 ls := by rw [hT]; simp [lines2]
    have ih' := ih (pre ++ r ++ en) (fun p hp => hok p (.tail _ hp)) hT3
    have hout : linesCr (((r, en) :: ls).map (·.1)) = (T.toList.drop pre.length).take ((pre ++ r).length - pre.length) ++ [13, 10] ++ linesCr (ls.map (·.1)) := by
      rw [hT1]; simp [linesCr]
    rw [hout]
    have hsz := size_pre hT2
    have hel : 0 < en.length := by rcases hen with rfl | rfl | rfl <;> decide
    have a0 := at_pre hT2 0
    have a1 := at_pre hT2 1
    refine .go (e := (pre ++ r ++ en).length) (by simp) (by simp; omega) (by simp at hsz ⊢; omega) ?_ ?_ ih'
    · have hl : (pre ++ r ++ en).length = (pre ++ r).length + en.length := by rw [List.length_append (as := pre ++ r)]
      rw [hl]
      rcases hen with rfl | rfl | rfl
      · right; left
        exact ⟨by simpa using a0, rfl⟩
      · right; right
        refine ⟨by simpa using a0, ?_, rfl⟩
        rw [a1]
        cases ls with
        | nil => simp [lines2]
        | cons q ls =>
          obtain ⟨hne', hr', _⟩ := hok q (.tail _ (.head _))
          obtain ⟨q1, q2⟩ := q
          cases q1 with
          | nil => exact absurd rfl hne'
          | cons c q1 =>
            have := (hr' c (.head _)).1
            simpa [lines2] using this
      · left
        exact ⟨by simpa using a0, by simpa using a1, rfl⟩
    · intro j h1 h2
      obtain ⟨i, rfl⟩ : ∃ i, j = pre.length + i := ⟨j - pre.length, by omega⟩
      show isEnd _ = false
      rw [getD_pre hT1]
      exact not_end_of hr (by simp at h2; omega)

theorem no_head_in {T : Array Nat} {pre u l : List Nat} (hT : T.toList = pre ++ (u ++ l)) (hu : ∀ c ∈ u.dropLast, c ≠ 10) (h0 : ¬ isHead T pre.length) : ∀ j, pre.length ≤ j → j < pre.length + u.length → ¬ isHead T j := by
  intro j h1 h2 hj
  obtain ⟨i, rfl⟩ : ∃ i, j = pre.length + i := ⟨j - pre.length, by omega⟩
  cases i with
  | zero => exact h0 hj
  | succ i =>
    rcases hj.1 with h | h
    · omega
    · rw [show pre.length + (i + 1) - 1 = pre.length + i by omega, getD_pre hT] at h
      have hi : i < u.dropLast.length := by simp; omega
      rw [List.getD_eq_getElem?_getD, List.getElem?_append_left (by simp at hi; omega), List.getElem?_eq_getElem (by simp at hi; omega)] at h
      exact hu _ (List.getElem_mem hi) (by simpa using h)

theorem subs1_lines {T : Array Nat} : ∀ (ls : List (List Nat)) (pre : List Nat), (∀ r ∈ ls, r ≠ [] ∧ ∀ c ∈ r, c ≠ 10) → (pre = [] ∨ pre.getLast? = some 10) → T.toList = pre ++ linesCr ls →
    Subs T (hit1 T) (clear1 T) [46, 46] pre.length (linesCr (ls.map dotted)) := by
  intro ls
  induction ls with
  | nil =>
    intro pre hok hpre hT
    have hs := size_pre hT
    have : linesCr (([] : List (List Nat)).map dotted) = T.toList.drop pre.length := by rw [hT]; simp [linesCr]
    rw [this]
    exact .stop fun j h1 h2 => by simp [linesCr] at hs; omega
  | cons r ls ih =>
    intro pre hok hpre hT
    obtain ⟨hne, hr⟩ := hok _ (.head _)
    have hT1 : T.toList = pre ++ ((r ++ [13, 10]) ++ linesCr ls) := by rw [hT]; simp [linesCr]
    have hT3 : T.toList = (pre ++ (r ++ [13, 10])) ++ linesCr ls := by rw [hT]; simp [linesCr]
    have ih' := ih (pre ++ (r ++ [13, 10])) (fun p hp => hok p (.tail _ hp)) (.inr (by simp)) hT3
    have hbol : pre.length = 0 ∨ T.getD (pre.length - 1) 0 = 10 := by
      rcases hpre with rfl | h
      · left; rfl
      · right
        obtain ⟨ys, rfl⟩ : ∃ ys, pre = ys ++ [10] := by
          obtain ⟨ys, hys⟩ := List.getLast?_eq_some_iff.mp h
          exact ⟨ys, hys⟩
        have := getD_pre (T := T) (pre := ys) (l := [10] ++ ((r ++ [13, 10]) ++ linesCr ls)) (by rw [hT1]; simp) 0
        simpa using this
    cases r with
    | nil => exact absurd rfl hne
    | cons c r =>
      by_cases hc : c = 46
      · subst hc
        have hd : dotted (46 :: r) = 46 :: 46 :: r := by simp [dotted]
        have hT2 : T.toList = (pre ++ [46]) ++ ((r ++ [13, 10]) ++ linesCr ls) := by rw [hT]; simp [linesCr]
        have hno : ¬ isHead T (pre ++ [46]).length := by
          intro hj
          rcases hj.1 with h | h
          · simp at h
          · have := getD_pre (T := T) (pre := pre) (l := [46] ++ ((r ++ [13, 10]) ++ linesCr ls)) (by rw [hT2]; simp) 0
            simp at this h
            rw [this] at h
            cases h
        have hsk : Subs T (hit1 T) (clear1 T) _ _ _ := ih'.skip (p := (pre ++ [46]).length) (q := (pre ++ (46 :: r ++ [13, 10])).length) (by simp) (fun j h1 h2 => no_head_in (u := r ++ [13, 10]) hT2 (by
          rw [show r ++ [13, 10] = (r ++ [13]) ++ [10] by simp, List.dropLast_concat]
          intro x hx
          rcases List.mem_append.mp hx with hx | hx
          · exact hr x (.tail _ hx)
          · simp at hx; subst hx; decide) hno j h1 (by simp at h2 ⊢; omega))
        have hout : linesCr (((46 :: r) :: ls).map dotted) = (T.toList.drop pre.length).take (pre.length - pre.length) ++ [46, 46] ++ ((T.toList.drop (pre ++ [46]).length).take ((pre ++ (46 :: r ++ [13, 10])).length - (pre ++ [46]).length) ++ linesCr (ls.map dotted)) := by
          rw [hT2, List.drop_left]
          have : (pre ++ (46 :: r ++ [13, 10])).length - (pre ++ [46]).length = (r ++ [13, 10]).length := by simp; omega
          rw [this, List.take_left]
          simp [linesCr, hd]
        rw [hout]
        refine .go (e := (pre ++ [46]).length) (Nat.le_refl _) (by simp) ?_ ⟨⟨hbol, ?_⟩, by simp⟩ (fun j h1 h2 => by omega) hsk
        · have := size_pre hT2; omega
        · have := at_pre hT1 0; simpa using this
      · have hd : dotted (c :: r) = c :: r := by simp [dotted, hc]
        have hno : ¬ isHead T pre.length := by
          intro hj
          have := at_pre hT1 0
          rw [show pre.length + 0 = pre.length by omega, hj.2] at this
          simp at this
          exact hc this.symm
        have hsk : Subs T (hit1 T) (clear1 T) _ _ _ := ih'.skip (p := pre.length) (q := (pre ++ (c :: r ++ [13, 10])).length) (by simp) (fun j h1 h2 => no_head_in (u := c :: r ++ [13, 10]) hT1 (by
          rw [show c :: r ++ [13, 10] = (c :: r ++ [13]) ++ [10] by simp, List.dropLast_concat]
          intro x hx
          rcases List.mem_append.mp hx with hx | hx
          · exact hr x hx
          · simp at hx; subst hx; decide) hno j h1 (by simp at h2 ⊢; omega))
        have hout : linesCr (((c :: r) :: ls).map dotted) = (T.toList.drop pre.length).take ((pre ++ (c :: r ++ [13, 10])).length - pre.length) ++ linesCr (ls.map dotted) := by
          rw [hT1, List.drop_left]
          have : (pre ++ (c :: r ++ [13, 10])).length - pre.length = (c :: r ++ [13, 10]).length := by simp
          rw [this, List.take_left]
          simp [linesCr, hd]
        rw [hout]
        exact hsk
end Rx

end
section
open PySem PySem.W PySem.Calls PySem.Spec PyProof.Rows
namespace Rx
open PySem.StrLaws PySem.Builtin PySem.Builtin.Str

theorem at_cr {x y : Str} (hy : y.cps.toList = [13, 10]) {k : Nat} : At x y x.length k ↔ x.cps.toList[k]? = some 13 ∧ x.cps.toList[k + 1]? = some 10 := by
  have hl : y.length = 2 := by simp [Str.length, ← Array.length_toList, hy]
  have hxl : x.length = x.cps.toList.length := by simp [Str.length]
  unfold At
  rw [subAt_eq, hl, hy, beq_iff_eq, hxl]
  constructor
  · rintro ⟨h1, h2⟩
    have a0 := congrArg (fun l : List Nat => l[0]?) h2
    have a1 := congrArg (fun l : List Nat => l[1]?) h2
    simp [List.getElem?_take, List.getElem?_drop] at a0 a1
    simp [a0, a1]
  · rintro ⟨h1, h2⟩
    have q1 := (List.getElem?_eq_some_iff.mp h2).1
    refine ⟨by omega, ?_⟩
    rw [List.drop_eq_getElem_cons (by omega), List.drop_eq_getElem_cons (by omega)]
    have e1 := (List.getElem?_eq_some_iff.mp h1).2
    have e2 := (List.getElem?_eq_some_iff.mp h2).2
    simp [e1, e2]

theorem sub_at {x : Str} {pre r l : List Nat} (h : x.cps.toList = pre ++ (r ++ l)) : strSub x pre.length (pre.length + r.length) = ⟨r.toArray⟩ := by
  apply PySem.Str.ext'
  apply Array.toList_inj.mp
  rw [strSub_toList, h, List.drop_left, Nat.add_sub_cancel_left, List.take_left]

theorem parts_cr {x y : Str} (hy : y.cps.toList = [13, 10]) : ∀ (rows : List (List Nat)) (pre : List Nat) (cuts : List Nat) (f : Nat), (∀ r ∈ rows, ∀ c ∈ r, c ≠ 13) → x.cps.toList = pre ++ linesCr rows → ChainG x y x.length pre.length cuts f →
    (∀ k, f ≤ k → ¬ At x y x.length k) → partsFrom x 2 pre.length cuts = rows.map (fun r => (⟨r.toArray⟩ : Str)) ++ [Str.empty] ∧ cuts.length = rows.length := by
  have hl : y.length = 2 := by simp [Str.length, ← Array.length_toList, hy]
  intro rows
  induction rows with
  | nil =>
    intro pre cuts f _ hx hch hno
    have hxl : x.length = pre.length := by
      have : x.length = x.cps.toList.length := by simp [Str.length]
      rw [this, hx]; simp [linesCr]
    cases cuts with
    | nil =>
      refine ⟨?_, rfl⟩
      show [strSub x pre.length x.length] = [Str.empty]
      congr 1
      apply PySem.Str.ext'
      apply Array.toList_inj.mp
      rw [strSub_toList, hxl]
      simp [Str.empty]
    | cons c cuts =>
      obtain ⟨h1, h2, _⟩ := hch
      have := h2.1
      rw [hl] at this
      omega
  | cons r rows ih =>
    intro pre cuts f hr hx hch hno
    have hx1 : x.cps.toList = pre ++ (r ++ ([13, 10] ++ linesCr rows)) := by rw [hx]; simp [linesCr]
    have hx2 : x.cps.toList = (pre ++ r) ++ ([13, 10] ++ linesCr rows) := by rw [hx]; simp [linesCr]
    have hx3 : x.cps.toList = (pre ++ r ++ [13, 10]) ++ linesCr rows := by rw [hx]; simp [linesCr]
    have hat : At x y x.length (pre.length + r.length) := by
      rw [at_cr hy, hx2]
      constructor
      · rw [List.getElem?_append_right (by simp)]; simp
      · rw [List.getElem?_append_right (by simp)]; simp [show pre.length + r.length + 1 - (pre.length + r.length) = 1 by omega]
    have hnot : ∀ k, pre.length ≤ k → k < pre.length + r.length → ¬ At x y x.length k := by
      intro k h1 h2 h3
      have := ((at_cr hy).mp h3).1
      rw [hx1, List.getElem?_append_right h1, List.getElem?_append_left (by omega)] at this
      exact hr r (.head _) 13 (List.mem_of_getElem? this) rfl
    cases cuts with
    | nil =>
      have e : f = pre.length := hch
      exact absurd hat (hno _ (by omega))
    | cons c cuts =>
      obtain ⟨h1, h2, h3, h4⟩ := hch
      have hc : c = pre.length + r.length := by
        rcases Nat.lt_trichotomy c (pre.length + r.length) with h | h | h
        · exact absurd h2 (hnot c h1 h)
        · exact h
        · exact absurd hat (h3 _ (by omega) h)
      subst hc
      rw [hl] at h4
      have hlen : (pre ++ r ++ [13, 10]).length = pre.length + r.length + 2 := by simp; omega
      rw [← hlen] at h4
      obtain ⟨i1, i2⟩ := ih (pre ++ r ++ [13, 10]) cuts f (fun q hq => hr q (.tail _ hq)) hx3 h4 hno
      refine ⟨?_, by simp [i2]⟩
      show strSub x pre.length (pre.length + r.length) :: partsFrom x 2 (pre.length + r.length + 2) cuts = _
      rw [sub_at hx1, ← hlen, i1]
      rfl

theorem split_cr {x y : Str} (hy : y.cps.toList = [13, 10]) {rows : List (List Nat)} (hn : rows ≠ []) (hr : ∀ r ∈ rows, ∀ c ∈ r, c ≠ 13) (hx : x.cps.toList = linesCr rows) :
    Txt.split x y = rows.map (fun r => (⟨r.toArray⟩ : Str)) ++ [Str.empty] := by
  have hl : y.length = 2 := by simp [Str.length, ← Array.length_toList, hy]
  have hxl : x.length = x.cps.toList.length := by simp [Str.length]
  have h2 : 2 ≤ x.length := by
    rw [hxl, hx]
    cases rows with
    | nil => exact absurd rfl hn
    | cons r rows => simp [linesCr]; omega
  obtain ⟨f, hch, hno⟩ := occ_tight x y (by omega)
  obtain ⟨hp, hc⟩ := parts_cr hy rows [] _ f hr hx hch hno
  unfold Txt.split
  have hk : PySem.Builtin.Str.strKind y = 1 := by
    have : y = ⟨#[13, 10]⟩ := PySem.Str.ext' (Array.toList_inj.mp hy)
    subst this
    decide +kernel
  have hk1 : 1 ≤ PySem.Builtin.Str.strKind x := by unfold PySem.Builtin.Str.strKind; split <;> (try split) <;> decide
  rw [if_neg (by simp [hl, hk]; omega), if_neg (by
    intro q
    rw [List.isEmpty_iff] at q
    rw [q] at hc
    exact hn (List.length_eq_zero_iff.mp hc.symm)), partsBetween_eq, hl]
  exact hp
end Rx

end
section
open PySem PySem.W PySem.Calls PySem.Spec PyProof.Rows

/-- entering a def of the text whose locals are captured -/
theorem enterC {w : World} {mean : ExcName → Option Value} {mg mb : Str → Option Value} {dp un : Nat} {gd : Option (List Code)} {outer : List Env} {base g : Heap} {s : Shared}
    {R : Result → Shared → Prop} {need : List (Addr × Obj)} {name qual : Str} {params : Arguments} {body : List Stmt} {scope : Scope} {dV kV doc pm cdv ct oc : Value} {an od : Option Addr} {osl : Array (Option Value)} {f : Addr} {args : Args} {binds : List (Str × Value)}
    (S : Site w mean mg mb dp un gd outer base g s.heap) (N : NewsG g s.heap need)
    (ho : (hd.heap_1 w.params).lookup f = some ⟨oc, od, .func (fnOf name qual params body scope dV kV doc pm an cdv ct), osl⟩) (hcd : codeIn (hd.heap_1 w.params) cdv qual = true) (hroom : dp < recursionLimit)
    (hbind : BindsTo s (fnOf name qual params body scope dV kV doc pm an cdv ct) args binds)
    (hkind : (binds.all fun y => scope.names.lookup y.1 == some .local || scope.names.lookup y.1 == some .cell) = true)
    (hnd : ((cellsFrom 0 scope.names []).map (·.1)).Nodup)
    (h : ∀ L' h₁ tk cells, Fr g L' h₁ (bindL (envOfC qual scope L' f cdv).kindOf binds fun _ => none) → News g L' h₁ (cells ++ need) → CellsAre (bindC (envOfC qual scope L' f cdv).kindOf binds fun _ => none) (cellsFrom (L' + 1) scope.names []) cells → (∀ p ∈ need, p.1 < L') →
      wpAny (model PR w) ((ar dp un gd outer).deeper (envOfC qual scope L' f cdv)) (execs body (envOfC qual scope L' f cdv))
        (fun fl s' => R (.ok (.ret (match fl with | .ret v => v | _ => .none))) s')
        (fun e s' => wpAny (model PR w) ((ar dp un gd outer).deeper (envOfC qual scope L' f cdv)) (leaving (envOfC qual scope L' f cdv) e) (fun _ s'' => R (.error e) s'') (fun e' s'' => R (.error e') s'') s')
        { s with heap := h₁, toks := tk })
    (hco : scope.isCoroutine = false) (hgen : scope.isGenerator = false) (hk : scope.kind = .function) : codeAny (model PR w) (ar dp un gd outer) (.call (.ref f) args) R s := by
  refine codeAny_call_function (fd := fnOf name qual params body scope dV kV doc pm an cdv ct) hroom ((S.frag.keeps S.stays) _ _ ho) rfl hco hgen rfl (codeRec_of (S.frag.keeps S.stays) hcd) (hbind _ _ _ _ ?_)
  refine wpAny_newFunctionEnv_cells hk (kindsX hkind _) fun env' he s' x => ?_
  subst he
  refine ⟨(S.top.nolimit.keeps S.stays).keeps x.toInCall.keep, codeAny_func ?_⟩
  obtain ⟨h₁, tk, rfl, _⟩ := x.done
  have hk₁ := x.toInCall.keep
  obtain ⟨cells, NC, Y⟩ := Cl.news (h₀ := s.heap) (Nat.le_refl _) fun n c hm => ⟨x.cell n c (lookup_of_mem_nodup (cellsFrom_names scope.names 0 (s.heap.objs.size + 1) [] [] rfl ▸ hnd) hm), x.above n c hm⟩
  refine h s.heap.objs.size h₁ tk cells ⟨x.toInCall.ns, fun b o e => hk₁ b o (S.stays b o e), S.size⟩ (fun p hp => ?_) Y (fun p hp => Heap.lt_size (N p hp).1)
  rcases List.mem_append.mp hp with hp | hp
  · refine ⟨(NC p hp).1, (NC p hp).2.1, ?_⟩
    cases q : g.get? p.1 with
    | none => rfl
    | some o => have := S.stays _ _ q; rw [(NC p hp).2.2] at this; cases this
  · exact ⟨hk₁ _ _ (N p hp).1, Nat.ne_of_lt (Heap.lt_size (N p hp).1), (N p hp).2⟩

end
section
open PySem PySem.W PySem.W.X PySem.Calls PySem.Spec PyProof.Rows


noncomputable abbrev refEntries (h1 h2 h3 : Int) (k1 k2 k3 : Nat) (a b c : Int) (ta tb tc : Nat) : Array DictEntry :=
  ⟨[⟨h1, .str ⟨⟨[115, 109, 116, 112, 95, 99, 111, 100, 101]⟩⟩ k1, .int a ta⟩, ⟨h2, .str ⟨⟨[115, 109, 116, 112, 95, 101, 114, 114, 111, 114]⟩⟩ k2, .int b tb⟩, ⟨h3, .str ⟨⟨[115, 101, 110, 100, 101, 114]⟩⟩ k3, .int c tc⟩]⟩
noncomputable abbrev refDict (h1 h2 h3 : Int) (k1 k2 k3 : Nat) (a b c : Int) (ta tb tc : Nat) : Obj := { cls := .type "dict", data := .dict (refEntries h1 h2 h3 k1 k2 k3 a b c ta tb tc) 3 }
noncomputable abbrev refFields (t : Addr) : Array Value := ⟨[.ref t, .none, .none, .none, .bool false, .none, .int 0 0, .int 0 0, .int 0 0, .int 0 0, .int (-1) 0]⟩

/-- what the making of a refusal gives -/
noncomputable def MadeRefusal (h h' : Heap) (x : Addr) (a b c : Int) (ta tb tc : Nat) : Prop :=
  (∀ b o, h.get? b = some o → h'.get? b = some o) ∧ h.get? x = none ∧
    ∃ d t h1 h2 h3 k1 k2 k3, h.get? d = none ∧ h'.get? x = some { cls := .ref 153, dict := some d, data := .fields (refFields t) } ∧ h'.get? d = some (refDict h1 h2 h3 k1 k2 k3 a b c ta tb tc)

theorem made_of {h h' : Heap} {a b c : Int} {ta tb tc : Nat} {x t d f t0 : Addr} {ot ofr ot0 : Obj} {h1 h2 h3 : Int} {k1 k2 k3 : Nat}
    (D : Mem h h' [] [(t, ot), (d, refDict h1 h2 h3 k1 k2 k3 a b c ta tb tc), (f, ofr), (x, { cls := .ref 153, dict := some d, data := .fields (refFields t) }), (t0, ot0)]) : MadeRefusal h h' x a b c ta tb tc := by
  refine ⟨fun b o e => D.keep b o e (by simp [away]), (D.nw _ (.tail _ (.tail _ (.tail _ (.head _))))).2, d, t, h1, h2, h3, k1, k2, k3, (D.nw _ (.tail _ (.head _))).2, (D.nw _ (.tail _ (.tail _ (.tail _ (.head _))))).1, (D.nw _ (.tail _ (.head _))).1⟩

noncomputable def RefBack (s : Shared) (a b c : Int) (ta tb tc : Nat) (Q : Value → Shared → Prop) : Prop :=
  ∀ x h' tk', MadeRefusal s.heap h' x a b c ta tb tc → Q (.ref x) { s with heap := h', toks := tk' }
theorem RefBack.fin {s : Shared} {a b c : Int} {ta tb tc : Nat} {Q : Value → Shared → Prop} (H : RefBack s a b c ta tb tc Q) {h' : Heap} {x t d f t0 : Addr} {ot ofr ot0 : Obj} {h1 h2 h3 : Int} {k1 k2 k3 tk' : Nat}
    (D : Mem s.heap h' [] [(t, ot), (d, refDict h1 h2 h3 k1 k2 k3 a b c ta tb tc), (f, ofr), (x, { cls := .ref 153, dict := some d, data := .fields (refFields t) }), (t0, ot0)]) :
    Q (.ref x) ⟨h', s.gens, s.drawn, tk', s.os⟩ := H x h' tk' (made_of D)

local macro_rules | `(tactic| x_close) => `(tactic| exact RefBack.fin (by assumption) (by assumption))

theorem make_refused {p : Program} {w : World} {env : List Env} {s : Shared} {Q : Value → Shared → Prop} {E : Value → Shared → Prop} {a b c : Int} {ta tb tc : Nat} (KX : (hd.heap_1 w.params).In s.heap)
    (hret : RefBack s a b c ta tb tc Q) :
    wpAny (model p w) (ar 306 19 (some []) env) (call (.ref 153) [.int a ta, .int b tb, .int c tc]) Q E s := by
  x_run

end
section
open PySem PySem.W PySem.Calls PySem.Spec PyProof.Rows

/-- an exception of class C with a dict of its own on its way -/
noncomputable def Thrown (base G : Heap) (l : List Env) (e : Addr) (C : Addr) (d : Addr) (news : List (Addr × Obj)) (h : Heap) : Prop :=
  (∃ B a0, base.StaysIn B ∧ (∀ b o, G.get? b = some o → b ∉ l.filterMap (·.frame) → B.get? b = some o) ∧ (∀ q ∈ news, B.get? q.1 = some q.2 ∧ G.get? q.1 = none) ∧ Heap.FlyingW B l e (.ref C) a0 h) ∧
  G.UpToSlots h ∧ ∃ o, h.get? e = some o ∧ o.dict = some d

section
variable {M : Model} {A : Around} {E : Value → Shared → Prop} {s' : Shared} {base g h : Heap} {outer : List Env} {L a e C d : Addr} {m : Str → Option Value} {name : Str} {scope : Scope} {cd : Value} {Q : Unit → Shared → Prop} {news : List (Addr × Obj)}

theorem leave_thrown {vs : Array Value} {a0 : Value} (K : Below A base outer g) (F : Fr g L h m) (kp : h.StaysIn s'.heap) (he : s'.heap.get? e = some { cls := .ref C, dict := some d, data := .fields vs }) (hen : h.get? e = none)
    (h0 : vs[0]? = some a0) (h1 : vs[1]? = some .none) (N : ∀ q ∈ news, s'.heap.get? q.1 = some q.2 ∧ q.1 ≠ L ∧ q.1 ≠ e ∧ g.get? q.1 = none)
    (hQ : ∀ h', Thrown base g outer e C d news h' → Q () { s' with heap := h' }) (hk : scope.kind = .function := by rfl) :
    wpAny M (A.deeper (envOf name scope L a cd)) (leaving (envOf name scope L a cd) (.ref e)) Q E s' := by
  have K' := K.push (name := name) (a := a) (cd := cd) F hk
  have hin : ∀ env ∈ (envOf name scope L a cd :: outer), ∀ b, env.frame = some b → b ∈ e :: (envOf name scope L a cd :: outer).filterMap (·.frame) := fun env he b hb => List.mem_cons_of_mem _ (List.mem_filterMap.mpr ⟨env, he, hb⟩)
  have fr' : s'.heap.FunFrames base (envOf name scope L a cd :: outer) := K'.frames.of_keeps fun b o hb _ => ⟨o, kp b o hb, rfl⟩
  have hgL : ∀ b o, g.get? b = some o → b ≠ L := fun b o q z => by rw [z, kts_self F] at q; cases q
  have hge : ∀ b o, g.get? b = some o → b ≠ e := fun b o q z => by have := F.keep b o q; rw [z, hen] at this; cases this
  have st : base.StaysIn (hideAll s'.heap (e :: (envOf name scope L a cd :: outer).filterMap (·.frame))) := fun b o q => hideAll_get _ (kp b o (K'.stays b o q)) fun hm => by
    rcases List.mem_cons.mp hm with z | hm
    · have := K'.stays b o q; rw [z, hen] at this; cases this
    · rw [(K'.frames.mem hm).1] at q; cases q
  have sg : ∀ b o, g.get? b = some o → b ∉ outer.filterMap (·.frame) → (hideAll s'.heap (e :: (envOf name scope L a cd :: outer).filterMap (·.frame))).get? b = some o := fun b o q nm => hideAll_get _ (kp _ _ (F.keep b o q)) fun hm => by
    rcases List.mem_cons.mp hm with z | hm
    · exact hge b o q z
    · rcases kts_mem hm with z | z
      · exact hgL b o q z
      · exact nm z
  have hl : ∀ q ∈ news, (hideAll s'.heap (e :: (envOf name scope L a cd :: outer).filterMap (·.frame))).get? q.1 = some q.2 ∧ g.get? q.1 = none := fun q hq => by
    refine ⟨hideAll_get _ (N q hq).1 fun hm => ?_, (N q hq).2.2.2⟩
    rcases List.mem_cons.mp hm with z | hm
    · exact (N q hq).2.2.1 z
    · rcases kts_mem hm with z | z
      · exact (N q hq).2.1 z
      · obtain ⟨o, ho, _⟩ := (K.frames.mem z).2
        rw [(N q hq).2.2.2] at ho; cases ho
  have heB : (hideAll s'.heap (e :: (envOf name scope L a cd :: outer).filterMap (·.frame))).get? e = none := hideAll_none _ (.head _)
  refine still_any' (d := some d) (still_leaving _ _) ⟨_, he, rfl⟩ ?_
  refine wpAny_leaving_firstW (base := hideAll s'.heap (e :: (envOf name scope L a cd :: outer).filterMap (·.frame))) K'.stack (funFrames_hide fr' hin) rfl he (fun b o q => of_hideAll _ q) heB rfl h1 h0 fun h' hL hdict => ?_
  obtain ⟨k1, ⟨_, _, k2⟩, k3, k4⟩ := hL
  exact hQ h' ⟨⟨_, a0, st, sg, hl, k1, heB, k2, k3⟩, ((Heap.UpToSlots.of_keeps F.keep).trans (Heap.UpToSlots.of_keeps kp)).trans k4, hdict⟩
end

section
variable {prog : Program} {w : World} {A₀ : Around} {E : Value → Shared → Prop} {s' : Shared} {base g G : Heap} {outer : List Env} {L a e C d : Addr} {m : Str → Option Value} {name : Str} {scope : Scope} {cd : Value}
  {n : Str} {b₀ : Stmt} {suite : List Stmt} {pos np : Pos} {rest : List ExceptHandler} {Q : Flow → Shared → Prop} {news : List (Addr × Obj)} {KF : Frag}
  {p : Program} {loose : List Str} {mean : ExcName → Option Value} {mg mb : Str → Option Value} {x : Str}

theorem catch_thrown (R : Thrown base G (envOf name scope L a cd :: outer) e C d news s'.heap) (F : Fr g L G m) (K : Below A₀ base outer g) (XB : KF.In base) (TB : Top p loose mean mg mb base)
    (ex : nsIn KF mainGlobals x = some (some (.ref C))) (q : ktsIn KF C "BaseException" = true)
    (k : ∀ h' g' tk oe vs, KtsTurn (outer.filterMap (·.frame)) g g' → Below A₀ base outer g' → Fr g' L h' (fun y => if y = n then some (.ref e) else m y) → News g' L h' ((e, oe) :: news) → oe.cls = .ref C → oe.dict = some d → oe.data = .fields vs →
      wpAny (model prog w) ((A₀.deeper (envOf name scope L a cd)).mark (some (.ref e))) (execs (b₀ :: suite) (envOf name scope L a cd))
        (fun f s₄ => wpAny (model prog w) (A₀.deeper (envOf name scope L a cd)) (do bindName (envOf name scope L a cd) n .none; unbindBehindTheSuite (envOf name scope L a cd) n pos) (fun _ s₅ => Q f s₅) E s₄)
        (AsSuiteRaised (model prog w) ((A₀.deeper (envOf name scope L a cd)).mark (some (.ref e))) (envOf name scope L a cd) n pos (notedBy (model prog w) ((A₀.deeper (envOf name scope L a cd)).mark (some (.ref e))) (envOf name scope L a cd) (cameBackBy (model prog w) (A₀.deeper (envOf name scope L a cd)) (envOf name scope L a cd) E)))
        { s' with heap := h', toks := tk })
    (hk : scope.kind = .function := by rfl) (hlo : (envOf name scope L a cd).kindOf n = some .local := by rfl) (hx : (envOf name scope L a cd).kindOf x = some .globalImplicit := by rfl) (hd : (x == ("__debug__" : Str)) = false := by decide) :
    wpAny (model prog w) (A₀.deeper (envOf name scope L a cd)) (noteFrame (.ref e) (envOf name scope L a cd))
      (fun _ s₂ => wpAny (model prog w) (A₀.deeper (envOf name scope L a cd)) (setFlight (.ref e) none) (fun _ s₃ =>
        wpAny (model prog w) (A₀.deeper (envOf name scope L a cd)) (handleBy (.ref e) (envOf name scope L a cd) (.ExceptHandler (some (.Name x np)) (some n) (b₀ :: suite) pos :: rest)) Q E s₃) E s₂) E s' := by
  obtain ⟨⟨B, a0, hB, hBG, hl, hfl⟩, hsm, hdict⟩ := R
  have hL : B.get? L = none := by
    obtain ⟨_, ⟨L', _, hf, hn', _⟩, _⟩ := hfl.2.2.1
    obtain rfl : L = L' := Option.some.inj hf
    exact hn'
  refine still_any' (still_noteFrame _ _) hdict (wpAny_looks_onW (Around.frames_deeper K.stack) rfl hfl fun h₄ hheld₄ hsm₄ hdict₄ => ?_)
  refine still_any' (still_setFlight _ _) hdict₄ (wpAny_landsW hheld₄ fun h₅ hheld hsm₅ hdict₅ => ?_)
  obtain ⟨g₅, T₅, F₅, K₅⟩ := kts_ground K F hBG hheld.1 ((hsm.trans hsm₄).trans hsm₅)
  have X₅ : KF.In g₅ := XB.keeps K₅.stays
  have P₅ : TopRead p loose mg mb g₅ := topRead_of (TB.keeps K₅.stays)
  obtain ⟨ob, hob, hobc⟩ := hheld.there
  obtain ⟨_, _, _, _, _, _, _, _, _, _, _, _, _, _, _, _, _, hC, hbase, _⟩ := kts_cls X₅ q
  refine wpAny_handleBy_cons (codeAny_handlers_test (name_K F₅ X₅ P₅ ex ?_ hk hx hd)) (by intro q; cases q)
  refine wpAny_excMatches_sub_self (F₅.keep _ _ hC) hob hobc hbase (codeAny_handlers_suite_as ?_)
  refine still_any' (still_setFlight _ _) hdict₅ (lands_againW hheld fun h₆ hfl₆ hsm₆ hdict₆ => ?_)
  obtain ⟨g₆, T₆, F₆, K₆⟩ := kts_ground K F hBG hfl₆.1 (((hsm.trans hsm₄).trans hsm₅).trans hsm₆)
  obtain ⟨oe, ws, hoe, hoec, hoed, _⟩ := hfl₆.first
  obtain ⟨oe', hoe', hdd⟩ := hdict₆
  obtain rfl : oe = oe' := Option.some.inj (hoe.symm.trans hoe')
  have ne₆ : g₆.get? e = none := T₆.none_ _ (kts_fresh F hBG hfl₆.2.1 fun o ho hm => by
    obtain ⟨_, o', ho', hnf⟩ := K.frames.mem hm
    rw [ho] at ho'
    cases ho'
    obtain ⟨sl, hs⟩ := (((hsm.trans hsm₄).trans hsm₅).trans hsm₆) _ _ (F.keep _ _ ho) hnf
    rw [hoe] at hs
    cases hs
    exact hnf _ hoed)
  have N₆ := News.more F₆ News.nil hoe (fun es n q => by rw [hoed] at q; cases q) ne₆
  have Nl : News g₆ L h₆ news := fun q hq => ⟨hfl₆.1 _ _ (hl q hq).1, (fun z => by have := (hl q hq).1; rw [z, hL] at this; cases this), T₆.none_ _ (kts_none F.keep (hl q hq).2)⟩
  refine stN F₆ (news := (e, oe) :: news) (fun q hq => (List.mem_cons.mp hq).elim (fun z => N₆ q (z ▸ .head _)) (Nl q)) (fun h₇ F₇ N₇ => ?_) hk hlo
  exact k h₇ g₆ _ oe ws T₆ K₆ F₇ N₇ hoec hdd hoed
end

end
section
open PySem PySem.W PySem.Calls PySem.Spec PyProof.Rows

local macro_rules | `(tactic| k_room) => `(tactic| ((try simp only [depth_under_make, depth_under_kw, depth_in1, depth_deeper, depth_caller, recursionLimit] at *); omega))
local macro_rules | `(tactic| walk_at "my upd") => `(tactic| ((repeat (first | exact rfl | assumption | (refine upd_ne (by decide) ?_))); done))
local macro_rules | `(tactic| walk_at "eval Name") => `(tactic| (k_here; (with_reducible show wpAny _ _ (eval _ (envOf _ _ _ _ _)) _ _ _); (with_reducible rename Fr _ _ _ _ => kF); k_dflt (refine' ld kF ?k2 ?_; (case k2 => walk_at "my upd"); k_whole)))
local macro_rules | `(tactic| walk_at "loadName") => `(tactic| (k_here; (with_reducible rename Fr _ _ _ _ => kF); k_dflt (refine' ldn kF ?k2 ?_; (case k2 => walk_at "my upd"); k_whole)))
local macro_rules | `(tactic| walk_at $s:str) => if ["exec For Name Name cons nil", "exec For Name Call cons nil", "exec For Tuple Call cons nil", "exec While BoolOp cons nil"].contains s.getString then `(tactic| (refine hold_of ?_)) else Lean.Macro.throwUnsupported
local macro_rules | `(tactic| walk_at $s:str) => if ["execs cons", "execs nil"].contains s.getString then `(tactic| (with_reducible refine gen_toks ?_; intro tk' htk'; (try dsimp only at htk'))) else Lean.Macro.throwUnsupported

theorem fill0 : hd.heap_1 = hd.heap_1 ∧ PySem.Challenge.rw_wk0014_01 = PySem.Challenge.rw_wk0014_01 := by
  k_fill
  exact ⟨rfl, rfl⟩
section
open PySem PySem.W PySem.Calls PySem.Spec PyProof.Rows



theorem add_says {w : World} {x y : Int} {t u : Tok} :
    Says w 5 50 45 [.int x t, .int y u] (fun g tk₀ => True) [] (fun tk₀ tk₁ v need' => (∃ t : Nat, v = .int (x + y) t ∧ tk₀ < t ∧ t < tk₁) ∧ need' = []) := by
  intro mean mg mb dp un gd outer base g s R S N hpre hd hu hret
  have B := S.below
  have KX := S.frag
  have T := S.top
  have XB := S.frag0
  have TB := S.top0

  refine codeAny_hold_toks ?_
  refine' enter (binds := [(Str.ofString "a", .int x t), (Str.ofString "b", .int y u)]) S N ?k6 ?k7 ?k8 ?k9 ?kB ?_ ?c2 ?c3 ?c4 ?c5
  case k6 => k_is
  case k7 => k_is
  case k8 => k_room
  case k9 => exact BindsTo.of_eq rfl
  case kB => exact locs rfl
  case c2 => exact rfl
  case c3 => exact rfl
  case c4 => exact rfl
  case c5 => decide
  intro L' h' F' N'
  try dsimp only
  k_fold
  k_steps
  (try dsimp only)
  (try k_unfold)
  (try dsimp only)
  apply Hold.out
  intro htoks
  refine hret _ _ _ _ htoks ?_ (Fr.keep (by assumption)) (newsG_of (by assumption))
  refine ⟨⟨_, rfl, ?_, ?_⟩, rfl⟩ <;> ((try dsimp only); simp only [List.length_cons, List.length_nil] at *; omega)

theorem sub_says {w : World} {x y : Int} {t u : Tok} :
    Says w 5 50 59 [.int x t, .int y u] (fun g tk₀ => True) [] (fun tk₀ tk₁ v need' => (∃ t : Nat, v = .int (x - y) t ∧ tk₀ < t ∧ t < tk₁) ∧ need' = []) := by
  intro mean mg mb dp un gd outer base g s R S N hpre hd hu hret
  have B := S.below
  have KX := S.frag
  have T := S.top
  have XB := S.frag0
  have TB := S.top0

  refine codeAny_hold_toks ?_
  refine' enter (binds := [(Str.ofString "a", .int x t), (Str.ofString "b", .int y u)]) S N ?k6 ?k7 ?k8 ?k9 ?kB ?_ ?c2 ?c3 ?c4 ?c5
  case k6 => k_is
  case k7 => k_is
  case k8 => k_room
  case k9 => exact BindsTo.of_eq rfl
  case kB => exact locs rfl
  case c2 => exact rfl
  case c3 => exact rfl
  case c4 => exact rfl
  case c5 => decide
  intro L' h' F' N'
  try dsimp only
  k_fold
  k_steps
  (try dsimp only)
  (try k_unfold)
  (try dsimp only)
  apply Hold.out
  intro htoks
  refine hret _ _ _ _ htoks ?_ (Fr.keep (by assumption)) (newsG_of (by assumption))
  refine ⟨⟨_, rfl, ?_, ?_⟩, rfl⟩ <;> ((try dsimp only); simp only [List.length_cons, List.length_nil] at *; omega)

theorem mod_says {w : World} {x y : Int} {t u : Tok} (hy : 0 < y) :
    Says w 5 50 52 [.int x t, .int y u] (fun g tk₀ => True) [] (fun tk₀ tk₁ v need' => (∃ t : Nat, v = .int (x % y) t ∧ tk₀ < t ∧ t < tk₁) ∧ need' = []) := by
  intro mean mg mb dp un gd outer base g s R S N hpre hd hu hret
  have B := S.below
  have KX := S.frag
  have T := S.top
  have XB := S.frag0
  have TB := S.top0

  refine codeAny_hold_toks ?_
  refine' enter (binds := [(Str.ofString "a", .int x t), (Str.ofString "b", .int y u)]) S N ?k6 ?k7 ?k8 ?k9 ?kB ?_ ?c2 ?c3 ?c4 ?c5
  case k6 => k_is
  case k7 => k_is
  case k8 => k_room
  case k9 => exact BindsTo.of_eq rfl
  case kB => exact locs rfl
  case c2 => exact rfl
  case c3 => exact rfl
  case c4 => exact rfl
  case c5 => decide
  intro L' h' F' N'
  try dsimp only
  k_fold
  k_steps
  rw [Int.fmod_eq_emod_of_nonneg _ (Int.le_of_lt hy)]
  (try dsimp only)
  (try k_unfold)
  (try dsimp only)
  apply Hold.out
  intro htoks
  refine hret _ _ _ _ htoks ?_ (Fr.keep (by assumption)) (newsG_of (by assumption))
  refine ⟨⟨_, rfl, ?_, ?_⟩, rfl⟩ <;> ((try dsimp only); simp only [List.length_cons, List.length_nil] at *; omega)

theorem getitem_says {w : World} {l : Addr} {vs : List Value} {n : Nat} {i : Int} {t : Tok} {x : Value} (h0 : 0 ≤ i) (h1 : vs[i.toNat]? = some x) (h2 : i < 2 ^ 63) :
    Says w 5 50 80 [.ref l, .int i t] (fun g tk₀ => g.get? l = some (listOf vs.toArray n)) [] (fun tk₀ tk₁ v need' => v = x ∧ need' = []) := by
  intro mean mg mb dp un gd outer base g s R S N hpre hd hu hret
  have B := S.below
  have KX := S.frag
  have T := S.top
  have XB := S.frag0
  have TB := S.top0

  refine codeAny_hold_toks ?_
  refine' enter (binds := [(Str.ofString "a", .ref l), (Str.ofString "b", .int i t)]) S N ?k6 ?k7 ?k8 ?k9 ?kB ?_ ?c2 ?c3 ?c4 ?c5
  case k6 => k_is
  case k7 => k_is
  case k8 => k_room
  case k9 => exact BindsTo.of_eq rfl
  case kB => exact locs rfl
  case c2 => exact rfl
  case c3 => exact rfl
  case c4 => exact rfl
  case c5 => decide
  intro L' h' F' N'
  try dsimp only
  k_fold
  k_steps
  refine item_list (isList_of hpre (Fr.keep (by assumption))) h0 h2 h1 ?_
  (try dsimp only)
  (try k_unfold)
  (try dsimp only)
  apply Hold.out
  intro htoks
  refine hret _ _ _ _ htoks ?_ (Fr.keep (by assumption)) (newsG_of (by assumption))
  exact ⟨rfl, rfl⟩

theorem setitem_says {w : World} {l : Addr} {vs : List Value} {n : Nat} {i : Int} {t : Tok} {x : Value} (h0 : 0 ≤ i) (h1 : i.toNat < vs.length) (h2 : i < 2 ^ 63) :
    Says w 5 50 94 [.ref l, .int i t, x] (fun g tk₀ => True) [(l, listOf vs.toArray n)] (fun tk₀ tk₁ v need' => v = .none ∧ need' = [(l, listOf (vs.set i.toNat x).toArray n)]) := by
  intro mean mg mb dp un gd outer base g s R S N hpre hd hu hret
  have B := S.below
  have KX := S.frag
  have T := S.top
  have XB := S.frag0
  have TB := S.top0

  refine codeAny_hold_toks ?_
  refine' enter (binds := [(Str.ofString "a", .ref l), (Str.ofString "b", .int i t), (Str.ofString "c", x)]) S N ?k6 ?k7 ?k8 ?k9 ?kB ?_ ?c2 ?c3 ?c4 ?c5
  case k6 => k_is
  case k7 => k_is
  case k8 => k_room
  case k9 => exact BindsTo.of_eq rfl
  case kB => exact locs rfl
  case c2 => exact rfl
  case c3 => exact rfl
  case c4 => exact rfl
  case c5 => decide
  intro L' h' F' N'
  try dsimp only
  k_fold
  k_steps
  refine set_list (by assumption) (by assumption) (by k_upd) h0 h1 h2 ?_
  intro h' F' N'
  k_steps
  (try dsimp only)
  (try k_unfold)
  (try dsimp only)
  apply Hold.out
  intro htoks
  refine hret _ _ _ _ htoks ?_ (Fr.keep (by assumption)) (newsG_of (by assumption))
  exact ⟨rfl, rfl⟩

theorem contains_says {w : World} {l : Addr} {vs : List Value} {ns : List Int} {n : Nat} {i : Int} {t : Tok} (hi : IntsAre vs ns) (h1 : ns.length < 2 ^ 20) :
    Says w 5 50 66 [.ref l, .int i t] (fun g tk₀ => g.get? l = some (listOf vs.toArray n)) [] (fun tk₀ tk₁ v need' => v = .bool (ns.any fun x => x == i) ∧ need' = []) := by
  intro mean mg mb dp un gd outer base g s R S N hpre hd hu hret
  have B := S.below
  have KX := S.frag
  have T := S.top
  have XB := S.frag0
  have TB := S.top0
  have hl : g.IsList l vs.toArray := ⟨_, hpre, rfl, _, rfl⟩
  refine codeAny_hold_toks ?_
  refine' enter (binds := [(Str.ofString "a", .ref l), (Str.ofString "b", .int i t)]) S N ?k6 ?k7 ?k8 ?k9 ?kB ?_ ?c2 ?c3 ?c4 ?c5
  case k6 => k_is
  case k7 => k_is
  case k8 => k_room
  case k9 => exact BindsTo.of_eq rfl
  case kB => exact locs rfl
  case c2 => exact rfl
  case c3 => exact rfl
  case c4 => exact rfl
  case c5 => decide
  intro L' h' F' N'
  try dsimp only
  k_fold
  k_steps
  (try dsimp only)
  (try k_unfold)
  (try dsimp only)
  apply Hold.out
  intro htoks
  refine hret _ _ _ _ htoks ?_ (Fr.keep (by assumption)) (newsG_of (by assumption))
  exact ⟨rfl, rfl⟩


end
section
open PySem PySem.W PySem.Calls PySem.Spec PyProof.Rows


theorem count_take {xs : List Nat} {i c : Nat} (h : xs[i]? = some c) : (xs.take (i + 1)).count 32 = (xs.take i).count 32 + (if c = 32 then 1 else 0) := by
  rw [List.take_add_one, h, List.count_append]
  congr 1
  by_cases e : c = 32
  · subst e; rfl
  · simp [e]

theorem countOf_says {w : World} {x : Str} {t tb : Nat} (ha : x.cps.all (· < 128) = true) (hz : x.cps.size < 2 ^ 20) :
    Says w 5 50 73 [.str x t, .str ⟨#[32]⟩ tb] (fun g tk₀ => 0 < tb ∧ tb < tk₀) [] (fun tk₀ tk₁ v need' => (∃ t : Nat, v = .int (x.cps.toList.count 32 : Nat) t) ∧ need' = []) := by
  intro mean mg mb dp un gd outer base g s R S N hpre hd hu hret
  have B := S.below
  have KX := S.frag
  have T := S.top
  have XB := S.frag0
  have TB := S.top0

  refine codeAny_hold_toks ?_
  refine' enter (binds := [(Str.ofString "a", .str x t), (Str.ofString "b", .str ⟨#[32]⟩ tb)]) S N ?k6 ?k7 ?k8 ?k9 ?kB ?_ ?c2 ?c3 ?c4 ?c5
  case k6 => k_is
  case k7 => k_is
  case k8 => k_room
  case k9 => exact BindsTo.of_eq rfl
  case kB => exact locs rfl
  case c2 => exact rfl
  case c3 => exact rfl
  case c4 => exact rfl
  case c5 => decide
  intro L' h' F' N'
  try dsimp only
  k_fold
  k_steps
  apply Hold.out
  refine' for_str (fun i tk m => m (Str.ofString "a") = some (.str x t) ∧ m (Str.ofString "b") = some (.str ⟨#[32]⟩ tb) ∧ (∃ tc, m (Str.ofString "count") = some (.int ((x.cps.toList.take i).count 32 : Nat) tc)) ∧ tb < tk ∧ s.toks ≤ tk) ?hh ?hx ?hp ?hE ?hs ?he ha ?F ?N ?hJ ?turn ?done
  case hh => rfl
  case hx => rfl
  case hp => rfl
  case hE => passes_own
  case hs => intro _; rfl
  case he =>
    intro Q' hq
    k_steps
    exact hq
  case F => assumption
  case N => assumption
  case hJ => exact ⟨rfl, rfl, ⟨_, rfl⟩, by (try dsimp only); (try simp only [List.length_cons, List.length_nil] at *); omega, by (try dsimp only); (try simp only [List.length_cons, List.length_nil] at *); omega⟩
  case turn =>
    rintro i c m₁ h tk it o hc ⟨h1, h2, ⟨tc, h3⟩, htb, htk⟩ F₁ N₁
    (try k_fold)
    k_steps
    refine wpAny_is_str (looks_nsIn (Frag.In.keeps KX (Fr.keep (by assumption))) (by k_is)) (by omega) (by omega) (by omega) ?_
    intro r hr
    cases r
    all_goals k_steps
    all_goals (apply Hold.out)
    all_goals (refine ⟨_, _, _, rfl, by assumption, by assumption, ?_⟩)
    all_goals refine ⟨by repeat (first | assumption | exact rfl | refine upd_ne (by decide) ?_), by repeat (first | assumption | exact rfl | refine upd_ne (by decide) ?_), ?_, by (try dsimp only at *); omega, by (try dsimp only at *); omega⟩
    all_goals rw [count_take (i := i) (c := c) (by simpa using hc)]
    · have e := ‹(({ cps := #[c] } : Str) == { cps := #[32] }) = true›
      have e' : c = 32 := by simpa using e
      rw [if_pos e']
      exact ⟨_, rfl⟩
    · have e := ‹(({ cps := #[c] } : Str) == { cps := #[32] }) = false›
      have e' : ¬ c = 32 := by simpa using e
      rw [if_neg e']
      exact ⟨tc, upd_ne (by decide) h3⟩
    · have e' : c = 32 := by simpa using hr rfl
      rw [if_pos e']
      exact ⟨_, rfl⟩
  case done =>
    rintro m₁ h tk ⟨h1, h2, ⟨tc, h3⟩, htb, htk⟩ F₁ N₁
    dsimp only
    k_steps
    (try dsimp only)
    (try k_unfold)
    (try dsimp only)
    apply Hold.out
    intro htoks
    refine hret _ _ _ _ htoks ?_ (Fr.keep (by assumption)) (newsG_of (by assumption))
    exact ⟨⟨_, by rw [show x.cps.toList.take x.cps.size = x.cps.toList from List.take_of_length_le (by simp)]⟩, rfl⟩


end
section
open PySem PySem.W PySem.Calls PySem.Spec PyProof.Rows


section
variable {prog : Program} {w : World} {A : Around} {E : Value → Shared → Prop} {s : Shared}

theorem leN {a b : Nat} (h : a ≤ b) : a ≤ b := h

theorem for_any {env : Env} {target iter : Expr} {pos : Pos} {body orelse : List Stmt} {Q : Flow → Shared → Prop}
    (hE : PassesOwn (model prog w) A env E) (hs : ∀ x, foldedSetIterable iter env x = pure x)
    (h : wpAny (model prog w) A (eval iter env) (fun xv s₁ => wpAny (model prog w) A (pyIter xv) (fun it s₂ => ∃ (Inv : Nat → Shared → Prop) (n : Nat), Inv n s₂ ∧
      ∀ k s', Inv k s' → wpAny (model prog w) A (pyNext it) (fun r s₁ => match r with
        | none => wpAny (model prog w) A (execs orelse env) Q E s₁
        | some v => wpAny (model prog w) A (letOwnedTupleGo target it v) (fun _ s₁' => wpAny (model prog w) A (assign target env v) (fun _ s₂ => wpAny (model prog w) A (execs body env) (fun f s₃ => match f with
          | .next | .cont => ∃ k', k' < k ∧ Inv k' s₃
          | .brk => Q .next s₃
          | .ret v => Q (.ret v) s₃) E s₂) E s₁') E s₁) E s') E s₁) E s) :
    wpAny (model prog w) A (exec (.For target iter body orelse pos) env) Q E s := by
  refine wpAny_For (wpAny_mono h (fun xv s₁ h₁ => wpAny_mono h₁ (fun it s₂ h₂ => ?_) fun _ _ e => e) fun _ _ e => e) hs
  obtain ⟨Inv, n, h0, step⟩ := h₂
  refine codeAny_forLoop_any Inv (fun k s' hI => wpAny_passesOwn hE (wpAny_mono (step k s' hI) (fun r s₃ h₃ => ?_) fun _ _ e => e)) n h0
  cases r with
  | none => exact wpAny_passesOwn hE h₃
  | some v => exact wpAny_passesOwn hE (wpAny_mono h₃ (fun _ s₄ h₄ => wpAny_passesOwn hE (wpAny_mono h₄ (fun _ s₄ h₄ => wpAny_passesOwn hE (wpAny_mono h₄ (fun f s₅ h₅ => by cases f <;> exact h₅) fun _ _ e => e)) fun _ _ e => e)) fun _ _ e => e)

/-- what a made enumerate over a kept list is -/
noncomputable def EnumReady (g : Heap) (L : Addr) (m : Str → Option Value) (news : List (Addr × Obj)) (l : Addr) (items : Array Value) (s : Shared) (xv : Value) (s₁ : Shared) : Prop :=
  ∃ h tk e it, s₁ = { s with heap := h, toks := tk } ∧ xv = .ref e ∧ IsEnum h e it 0 .none ∧ h.IsListIter it l 0 ∧ e ≠ it ∧ l ≠ e ∧ l ≠ it ∧ g.get? e = none ∧ g.get? it = none ∧ e ≠ L ∧ it ≠ L ∧ (∀ p ∈ news, p.1 ≠ e ∧ p.1 ≠ it) ∧ Fr g L h m ∧ News g L h news

theorem enum_ready {g : Heap} {L : Addr} {m : Str → Option Value} {news : List (Addr × Obj)} {l : Addr} {items : Array Value} {s₀ : Shared} (hl : g.IsList l items) (F : Fr g L s.heap m) (N : News g L s.heap news)
    (hs : ∃ tk h, s = { s₀ with heap := h, toks := tk }) :
    wpAny (model prog w) A (call (.type "enumerate") [.ref l]) (EnumReady g L m news l items s₀) E s := by
  have hls : s.heap.IsList l items := hl.at fun o e => F.keep l o e
  obtain ⟨ol, hol, _⟩ := id hl
  have hlt := ltN (Heap.lt_size hol)
  have hLs := ltN F.ns.lt
  have hab := leN F.above
  refine call_enumerate_list hls fun h' he hit hsz hk => ?_
  have F' : Fr g L h' m := ⟨F.ns.keeps hk, fun b o e => hk b o (F.keep b o e), F.above⟩
  have N' : News g L h' news := fun p hp => ⟨hk _ _ (N p hp).1, (N p hp).2⟩
  obtain ⟨tk, h, rfl⟩ := hs
  dsimp only at *
  refine ⟨h', _, _, _, rfl, rfl, he, hit, neN (by omega), neN (by omega), neN (by omega), Heap.get?_none_of_le (leN (by omega)), Heap.get?_none_of_le (leN (by omega)), neN (by omega), neN (by omega), fun p hp => ?_, F', N'⟩
  have := ltN (Heap.lt_size (N p hp).1)
  exact ⟨neN (by omega), neN (by omega)⟩

theorem for_enum {env : Env} {g : Heap} {m : Str → Option Value} {news : List (Addr × Obj)} {l : Addr} {items : Array Value} {xi xc : Str} {pk pv pt pos : Pos} {x1 : Nat} {iter : Expr} {body orelse : List Stmt} {Q : Flow → Shared → Prop} (J : Nat → (Str → Option Value) → Prop)
    (hh : A.handled = none) (hxi : env.kindOf xi = some .local) (hxc : env.kindOf xc = some .local) (hp : (env.scope.kind == .class || (env.scope.kind == .module && env.locals != env.globals)) = false)
    (hE : PassesOwn (model prog w) A env E) (hs : ∀ x, foldedSetIterable iter env x = pure x) (hl : g.IsList l items) (_F : Fr g env.locals s.heap m) (_N : News g env.locals s.heap news)
    (he : wpAny (model prog w) A (eval iter env) (EnumReady g env.locals m news l items s) E s) (hJ : J 0 m)
    (turn : ∀ i x t m₁ h tk own, items[i]? = some x → J i m₁ → Fr g env.locals h (fun z => if z = xc then some x else if z = xi then some (.int i t) else m₁ z) → News g env.locals h (own ++ news) →
      wpAny (model prog w) A (execs body env) (fun f s₃ => match f with
        | .next | .cont => Hold (∃ h' tk' m', s₃ = { s with heap := h', toks := tk' } ∧ Fr g env.locals h' m' ∧ News g env.locals h' (own ++ news) ∧ J (i + 1) m')
        | .brk => Q .next s₃
        | .ret v => Q (.ret v) s₃) E { s with heap := h, toks := tk })
    (done : ∀ m₁ h tk, J items.size m₁ → Fr g env.locals h m₁ → News g env.locals h news → wpAny (model prog w) A (execs orelse env) Q E { s with heap := h, toks := tk }) :
    wpAny (model prog w) A (exec (.For (.Tuple [.Name xi pk, .Name xc pv] x1 pt) iter body orelse pos) env) Q E s := by
  refine for_any hE hs (wpAny_mono he (fun xv s₁ h₁ => ?_) fun _ _ e => e)
  obtain ⟨h₀, tk₀, e, it, rfl, rfl, hen, hit, hei, hle, hli, hge, hgi, heL, hiL, hnw, F, N⟩ := h₁
  have W := WalksT.enumerate (prog := prog) (w := w) hh e it l hei hle hli items
  have hlh : ∀ h, Fr g env.locals h m → h.IsList l items := fun h F => hl.at fun o x => F.keep l o x
  have hlL : l ≠ env.locals := by
    obtain ⟨ol, hol, _⟩ := id hl
    have h1 := ltN (Heap.lt_size hol)
    have h2 := leN F.above
    exact neN (by omega)
  have hgl : ∃ o, g.get? l = some o := by obtain ⟨ol, hol, _⟩ := id hl; exact ⟨ol, hol⟩
  obtain ⟨ol, hol⟩ := hgl
  refine W.self 0 _ _ _ ⟨⟨_, hen⟩, hit, hl.at fun o x => F.keep l o x⟩ ?_
  refine ⟨fun k s' => ∃ (h' : Heap) (tk' : Nat) (m' : Str → Option Value) (i : Nat), s' = { s with heap := h', toks := tk' } ∧ i ≤ items.size ∧ k = items.size - i ∧ ((∃ old, IsEnum h' e it i old) ∧ h'.IsListIter it l i ∧ h'.IsList l items) ∧ Fr g env.locals h' m' ∧
    News g env.locals h' news ∧ J i m', items.size, ⟨h₀, tk₀, m, 0, rfl, Nat.zero_le _, rfl, ⟨⟨_, hen⟩, hit, hl.at fun o x => F.keep l o x⟩, F, N, hJ⟩, ?_⟩
  rintro k s' ⟨h', tk', m', i, rfl, hi, rfl, hst, F', N', hJ'⟩
  have next : ∀ h₁ : Heap, (∀ b o, b ∉ [e, it] → h'.get? b = some o → h₁.get? b = some o) → Fr g env.locals h₁ m' ∧ News g env.locals h₁ news := fun h₁ hk₁ =>
    ⟨⟨F'.ns.at' fun o x => hk₁ _ o (by simp [Ne.symm heL, Ne.symm hiL]) x, fun b o x => hk₁ b o (by
      intro hb
      rcases List.mem_cons.mp hb with rfl | hb
      · rw [hge] at x; cases x
      · rw [List.mem_singleton.mp hb, hgi] at x; cases x) (F'.keep b o x), F'.above⟩,
     fun p hp => ⟨hk₁ _ _ (by simp [(hnw p hp).1, (hnw p hp).2]) (N' p hp).1, (N' p hp).2⟩⟩
  by_cases hlt : i < items.size
  · refine W.item i _ _ _ hlt hst fun T vals h₁ tk₁ hPt _ hT hMid hk₁ => ?_
    obtain ⟨t, x, hx, rfl⟩ := hPt
    refine W.go _ x1 pt i T _ _ _ hMid fun h₂ hst₂ hk₂ => ?_
    have ht₂ : h₂.IsTuple T #[.int i t, x] := hT.at fun o e => hk₂ T o (W.apart i T h₁ hMid) e
    refine wpAny_assign_Tuple hh ht₂ rfl rfl fun h₃ hx₃ => ?_
    replace hx₃ : Heap.ExtBut h₂.objs.size h₂ h₃ := hx₃
    have up₃ : ∀ b o, h₂.get? b = some o → h₃.get? b = some o := fun b o x => hx₃ b o (Nat.ne_of_lt (Heap.lt_size x)) x
    obtain ⟨F₃, N₃⟩ := next h₃ fun b o hb x => up₃ b o (hk₂ b o hb (hk₁ b o hb x))
    show wpAny _ A (do holding [x] (assign (.Name xi pk) env (.int i t)); do holding [] (assign (.Name xc pv) env x); pure ()) _ _ _
    refine wpAny_bind (wpAny_holding (wpAny_assign_Name (wpAny_storeName_local hxi F₃.ns (fun h₄ hn₄ hs₄ => ?_) hp)))
    replace hs₄ : Heap.SameBut env.locals h₃ h₄ := hs₄
    have F₄ := F₃.set hn₄ hs₄
    refine wpAny_bind (wpAny_holding (wpAny_assign_Name (wpAny_storeName_local hxc F₄.ns (fun h₅ hn₅ hs₅ => wpAny_pure ?_) hp)))
    replace hs₅ : Heap.SameBut env.locals h₄ h₅ := hs₅
    have F₅ := F₄.set hn₅ hs₅
    have N₅ : News g env.locals h₅ news := (N₃.set hs₄).set hs₅
    have hst₅ : ((∃ old, IsEnum h₅ e it ((i + 1 : Nat) : Int) old) ∧ h₅.IsListIter it l (i + 1) ∧ h₅.IsList l items) := W.frame _ _ _ hst₂ fun b hb o x => hs₅.extBut b o (fun q => by subst q; simp [Ne.symm heL, Ne.symm hiL, Ne.symm hlL] at hb) (hs₄.extBut b o (fun q => by subst q; simp [Ne.symm heL, Ne.symm hiL, Ne.symm hlL] at hb) (up₃ b o x))
    obtain ⟨⟨old, he5⟩, ⟨oi, hoi, hri⟩, hl5⟩ := id hst₅
    obtain ⟨oe, hoe⟩ : ∃ oe, h₅.get? e = some oe := ⟨_, he5⟩
    have Nown : News g env.locals h₅ ([(e, oe), (it, oi)] ++ news) := by
      intro p hp
      rcases List.mem_append.mp hp with hp | hp
      · rcases List.mem_cons.mp hp with rfl | hp
        · exact ⟨hoe, heL, hge⟩
        · rw [List.mem_singleton.mp hp]; exact ⟨hoi, hiL, hgi⟩
      · exact N₅ p hp
    refine wpAny_mono (turn i x t m' h₅ _ _ hx hJ' F₅ Nown) (fun f s₃ h₆ => ?_) fun _ _ e => e
    have fin : (∃ h' tk' m', s₃ = { s with heap := h', toks := tk' } ∧ Fr g env.locals h' m' ∧ News g env.locals h' ([(e, oe), (it, oi)] ++ news) ∧ J (i + 1) m') → ∃ k', k' < items.size - i ∧ (∃ (h' : Heap) (tk' : Nat) (m' : Str → Option Value) (i : Nat), s₃ = { s with heap := h', toks := tk' } ∧ i ≤ items.size ∧ k' = items.size - i ∧ ((∃ old, IsEnum h' e it i old) ∧ h'.IsListIter it l i ∧ h'.IsList l items) ∧ Fr g env.locals h' m' ∧
        News g env.locals h' news ∧ J i m') := by
      rintro ⟨h₇, tk₆, m₆, rfl, F₆, N₆, hJ₆⟩
      exact ⟨items.size - (i + 1), by omega, h₇, tk₆, m₆, i + 1, rfl, hlt, rfl, ⟨⟨old, ((N₆ (e, oe) (by simp)).1.trans hoe.symm).trans he5⟩, ⟨oi, (N₆ (it, oi) (by simp)).1, hri⟩, hl.at fun o x => F₆.keep l o x⟩, F₆, fun p hp => N₆ p (List.mem_append_right _ hp), hJ₆⟩
    cases f with
    | ret v => exact h₆
    | brk => exact h₆
    | next => exact fin h₆
    | cont => exact fin h₆
  · have hin : i = items.size := by omega
    subst hin
    refine W.done _ _ _ hst fun h₁ tk₁ hk₁ => ?_
    obtain ⟨F₁, N₁⟩ := next h₁ hk₁
    exact done m' h₁ _ hJ' F₁ N₁
end

/-- the items are ints with tokens that tell a sought int -/
noncomputable def Told (vs : List Value) (ns : List Int) (goal : Int) (tg : Nat) : Prop :=
  ∀ (i : Nat) (v : Value), vs[i]? = some v → ∃ n : Int, ∃ t : Nat, v = Value.int n t ∧ ns[i]? = some n ∧ t ≠ 0 ∧ (t = tg → n = goal) ∧ smallInt n = true

theorem indexOf_says {w : World} {l : Addr} {vs : List Value} {ns : List Int} {n : Nat} {i : Int} {t : Nat} {j : Nat} (h1 : Told vs ns i t) (h2 : vs.length = ns.length) (h3 : t ≠ 0) (h4 : ns[j]? = some i) (h5 : ∀ k, k < j → ns[k]? ≠ some i) :
    Says w 5 50 87 [.ref l, .int i t] (fun g tk₀ => g.get? l = some (listOf vs.toArray n)) [] (fun tk₀ tk₁ v need' => (∃ t : Nat, v = Value.int (j : Nat) t) ∧ need' = []) := by
  intro mean mg mb dp un gd outer base g s R S N hpre hd hu hret
  have B := S.below
  have KX := S.frag
  have T := S.top
  have XB := S.frag0
  have TB := S.top0

  refine codeAny_hold_toks ?_
  refine' enter (binds := [(Str.ofString "a", .ref l), (Str.ofString "b", .int i t)]) S N ?k6 ?k7 ?k8 ?k9 ?kB ?_ ?c2 ?c3 ?c4 ?c5
  case k6 => k_is
  case k7 => k_is
  case k8 => k_room
  case k9 => exact BindsTo.of_eq rfl
  case kB => exact locs rfl
  case c2 => exact rfl
  case c3 => exact rfl
  case c4 => exact rfl
  case c5 => decide
  intro L' h' F' N'
  try dsimp only
  k_fold
  k_steps
  apply Hold.out
  refine' for_enum (l := l) (items := vs.toArray) (fun k m => m (Str.ofString "a") = some (.ref l) ∧ m (Str.ofString "b") = some (.int i t) ∧ k ≤ j) ?hh ?hxi ?hxc ?hp ?hE ?hs ⟨_, hpre, rfl, _, rfl⟩ ?F ?N ?he ?hJ ?turn ?done
  case hh => rfl
  case hxi => rfl
  case hxc => rfl
  case hp => rfl
  case hE => passes_own
  case hs => intro _; rfl
  case F => assumption
  case N => assumption
  case hJ => exact ⟨rfl, rfl, Nat.zero_le _⟩
  case he =>
    k_steps
    exact enum_ready ⟨_, hpre, rfl, _, rfl⟩ (by assumption) (by assumption) ⟨_, _, rfl⟩
  case turn =>
    rintro k x tk' m₁ h tk own hx ⟨q1, q2, hk⟩ F₁ N₁
    obtain ⟨nk, tn, rfl, hnk, ht0, htg, hsm⟩ := h1 k x (by simpa using hx)
    (try k_fold)
    k_steps
    refine wpAny_is_int ht0 h3 htg hsm ?_
    k_steps
    · have e : nk = i := by assumption
      have ej : k = j := by
        rcases Nat.lt_or_eq_of_le hk with q | q
        · exact absurd (e ▸ hnk) (h5 k q)
        · exact q
      subst ej
      (try dsimp only)
      (try k_unfold)
      (try dsimp only)
      apply Hold.out
      intro htoks
      refine hret _ _ _ _ htoks ?_ (Fr.keep (by assumption)) NewsG.nil
      exact ⟨⟨_, rfl⟩, rfl⟩
    · apply Hold.out
      have e : nk ≠ i := by assumption
      refine ⟨_, _, _, rfl, by assumption, by assumption, by repeat (first | assumption | exact rfl | refine upd_ne (by decide) ?_), by repeat (first | assumption | exact rfl | refine upd_ne (by decide) ?_), ?_⟩
      rcases Nat.lt_or_eq_of_le hk with q | q
      · exact q
      · subst q
        rw [h4] at hnk
        exact absurd (Option.some.inj hnk).symm e
  case done =>
    rintro m₁ h tk ⟨q1, q2, hk⟩ F₁ N₁
    exfalso
    have h6 := (List.getElem?_eq_some_iff.mp h4).1
    simp only [List.size_toArray] at hk
    omega

end
section
open PySem PySem.W PySem.Calls PySem.Spec PyProof.Rows

section
variable {w : World} {mean : ExcName → Option Value} {mg mb : Str → Option Value} {dp un : Nat} {gd : Option (List Code)} {outer : List Env} {A₀ : Around} {base h₀ : Heap} {L : Addr} {m : Str → Option Value} {news news' : List (Addr × Obj)}
    {cn : Str} {cs : Scope} {a : Addr} {ccd : Value} {cl : List (Str × Addr)} {s : Shared} {Q E : Value → Shared → Prop}

theorem no_need {rest : List (Addr × Obj)} : ∀ p ∈ rest, ∀ q ∈ ([] : List (Addr × Obj)), p.1 ≠ q.1 := fun _ _ _ hq => nomatch hq

theorem call_add {x y : Int} {t u : Tok} (B : Below A₀ base outer h₀) (F : Fr h₀ L s.heap m) (X : (hd.heap_1 w.params).In base) (N : News h₀ L s.heap news) (T : Top VW LO mean mg mb base) (hk : cs.kind = .function)
    (hd : dp + 5 < recursionLimit) (hu : un + 50 < cLine) (h : ∀ (t : Nat) h' (tk' : Nat), s.toks < t → t < tk' → Fr h₀ L h' m → News h₀ L h' news → Q (.int (x + y) t) { s with heap := h', toks := tk' }) :
    wpAny (model PR w) (ar dp un gd (envX cn cs L a ccd cl :: outer)) (call (.ref 45) [.int x t, .int y u]) Q E s :=
  add_says.call news B F X N T hk (fun _ hp => nomatch hp) (fun p hp => hp) no_need (fun _ _ _ => trivial) hd hu (by rintro v need' h' tk' ht ⟨⟨t, rfl, h1, h2⟩, rfl⟩ F' N'; exact h t h' tk' h1 h2 F' N')
theorem call_sub {x y : Int} {t u : Tok} (B : Below A₀ base outer h₀) (F : Fr h₀ L s.heap m) (X : (hd.heap_1 w.params).In base) (N : News h₀ L s.heap news) (T : Top VW LO mean mg mb base) (hk : cs.kind = .function)
    (hd : dp + 5 < recursionLimit) (hu : un + 50 < cLine) (h : ∀ (t : Nat) h' (tk' : Nat), s.toks < t → t < tk' → Fr h₀ L h' m → News h₀ L h' news → Q (.int (x - y) t) { s with heap := h', toks := tk' }) :
    wpAny (model PR w) (ar dp un gd (envX cn cs L a ccd cl :: outer)) (call (.ref 59) [.int x t, .int y u]) Q E s :=
  sub_says.call news B F X N T hk (fun _ hp => nomatch hp) (fun p hp => hp) no_need (fun _ _ _ => trivial) hd hu (by rintro v need' h' tk' ht ⟨⟨t, rfl, h1, h2⟩, rfl⟩ F' N'; exact h t h' tk' h1 h2 F' N')
theorem call_mod {x y : Int} {t u : Tok} (B : Below A₀ base outer h₀) (F : Fr h₀ L s.heap m) (X : (hd.heap_1 w.params).In base) (N : News h₀ L s.heap news) (T : Top VW LO mean mg mb base) (hk : cs.kind = .function)
    (hd : dp + 5 < recursionLimit) (hu : un + 50 < cLine) (hy : 0 < y) (h : ∀ (t : Nat) h' (tk' : Nat), s.toks < t → t < tk' → Fr h₀ L h' m → News h₀ L h' news → Q (.int (x % y) t) { s with heap := h', toks := tk' }) :
    wpAny (model PR w) (ar dp un gd (envX cn cs L a ccd cl :: outer)) (call (.ref 52) [.int x t, .int y u]) Q E s :=
  (mod_says hy).call news B F X N T hk (fun _ hp => nomatch hp) (fun p hp => hp) no_need (fun _ _ _ => trivial) hd hu (by rintro v need' h' tk' ht ⟨⟨t, rfl, h1, h2⟩, rfl⟩ F' N'; exact h t h' tk' h1 h2 F' N')

/-- a list that stands: in the ledger or in the kept part -/
noncomputable def Stands (h₀ : Heap) (news : List (Addr × Obj)) (l : Addr) (o : Obj) : Prop := (l, o) ∈ news ∨ h₀.get? l = some o
theorem Stands.at {news : List (Addr × Obj)} {l : Addr} {o : Obj} (S : Stands h₀ news l o) {g : Heap} (k : h₀.StaysIn g) (hr : ∀ p ∈ news, g.get? p.1 = some p.2) : g.get? l = some o := S.elim (fun hm => hr _ hm) fun e => k _ _ e

theorem call_getitem {l : Addr} {vs : List Value} {n : Nat} {i : Int} {t : Tok} {x : Value} (B : Below A₀ base outer h₀) (F : Fr h₀ L s.heap m) (X : (hd.heap_1 w.params).In base) (N : News h₀ L s.heap news) (T : Top VW LO mean mg mb base) (hk : cs.kind = .function)
    (hd : dp + 5 < recursionLimit) (hu : un + 50 < cLine) (hl : Stands h₀ news l (listOf vs.toArray n)) (h0 : 0 ≤ i) (h1 : vs[i.toNat]? = some x) (h2 : i < 2 ^ 63) (h : ∀ h' (tk' : Nat), s.toks ≤ tk' → Fr h₀ L h' m → News h₀ L h' news → Q x { s with heap := h', toks := tk' }) :
    wpAny (model PR w) (ar dp un gd (envX cn cs L a ccd cl :: outer)) (call (.ref 80) [.ref l, .int i t]) Q E s :=
  (getitem_says h0 h1 h2).call news B F X N T hk (fun _ hp => nomatch hp) (fun p hp => hp) no_need (fun _ k hr => hl.at k hr) hd hu (by rintro v need' h' tk' ht ⟨rfl, rfl⟩ F' N'; exact h h' tk' ht F' N')

theorem call_contains {l : Addr} {vs : List Value} {ns : List Int} {n : Nat} {i : Int} {t : Tok} (B : Below A₀ base outer h₀) (F : Fr h₀ L s.heap m) (X : (hd.heap_1 w.params).In base) (N : News h₀ L s.heap news) (T : Top VW LO mean mg mb base) (hk : cs.kind = .function)
    (hd : dp + 5 < recursionLimit) (hu : un + 50 < cLine) (hl : Stands h₀ news l (listOf vs.toArray n)) (hi : IntsAre vs ns) (h1 : ns.length < 2 ^ 20) (h : ∀ h' (tk' : Nat), s.toks ≤ tk' → Fr h₀ L h' m → News h₀ L h' news → Q (.bool (ns.any fun x => x == i)) { s with heap := h', toks := tk' }) :
    wpAny (model PR w) (ar dp un gd (envX cn cs L a ccd cl :: outer)) (call (.ref 66) [.ref l, .int i t]) Q E s :=
  (contains_says hi h1).call news B F X N T hk (fun _ hp => nomatch hp) (fun p hp => hp) no_need (fun _ k hr => hl.at k hr) hd hu (by rintro v need' h' tk' ht ⟨rfl, rfl⟩ F' N'; exact h h' tk' ht F' N')

theorem call_indexOf {l : Addr} {vs : List Value} {ns : List Int} {n : Nat} {i : Int} {t : Nat} {j : Nat} (B : Below A₀ base outer h₀) (F : Fr h₀ L s.heap m) (X : (hd.heap_1 w.params).In base) (N : News h₀ L s.heap news) (T : Top VW LO mean mg mb base) (hk : cs.kind = .function)
    (hd : dp + 5 < recursionLimit) (hu : un + 50 < cLine) (hl : Stands h₀ news l (listOf vs.toArray n)) (h1 : Told vs ns i t) (h2 : vs.length = ns.length) (h3 : t ≠ 0) (h4 : ns[j]? = some i) (h5 : ∀ k, k < j → ns[k]? ≠ some i)
    (h : ∀ (t : Nat) h' (tk' : Nat), s.toks ≤ tk' → Fr h₀ L h' m → News h₀ L h' news → Q (.int (j : Nat) t) { s with heap := h', toks := tk' }) :
    wpAny (model PR w) (ar dp un gd (envX cn cs L a ccd cl :: outer)) (call (.ref 87) [.ref l, .int i t]) Q E s :=
  (indexOf_says h1 h2 h3 h4 h5).call news B F X N T hk (fun _ hp => nomatch hp) (fun p hp => hp) no_need (fun _ k hr => hl.at k hr) hd hu (by rintro v need' h' tk' ht ⟨⟨t, rfl⟩, rfl⟩ F' N'; exact h t h' tk' ht F' N')

theorem call_countOf {x : Str} {t tb : Nat} (B : Below A₀ base outer h₀) (F : Fr h₀ L s.heap m) (X : (hd.heap_1 w.params).In base) (N : News h₀ L s.heap news) (T : Top VW LO mean mg mb base) (hk : cs.kind = .function)
    (hd : dp + 5 < recursionLimit) (hu : un + 50 < cLine) (ha : x.cps.all (· < 128) = true) (hz : x.cps.size < 2 ^ 20) (hb : 0 < tb) (hb' : tb < s.toks)
    (h : ∀ (t : Nat) h' (tk' : Nat), s.toks ≤ tk' → Fr h₀ L h' m → News h₀ L h' news → Q (.int (x.cps.toList.count 32 : Nat) t) { s with heap := h', toks := tk' }) :
    wpAny (model PR w) (ar dp un gd (envX cn cs L a ccd cl :: outer)) (call (.ref 73) [.str x t, .str ⟨#[32]⟩ tb]) Q E s :=
  (countOf_says ha hz).call news B F X N T hk (fun _ hp => nomatch hp) (fun p hp => hp) no_need (fun _ k hr => ⟨hb, hb'⟩) hd hu (by rintro v need' h' tk' ht ⟨⟨t, rfl⟩, rfl⟩ F' N'; exact h t h' tk' ht F' N')

theorem call_setitem {l : Addr} {vs : List Value} {n : Nat} {i : Int} {t : Tok} {x : Value} (B : Below A₀ base outer h₀) (F : Fr h₀ L s.heap m) (X : (hd.heap_1 w.params).In base) (N : News h₀ L s.heap news) (T : Top VW LO mean mg mb base) (hk : cs.kind = .function)
    (hd : dp + 5 < recursionLimit) (hu : un + 50 < cLine) (U : Upd l (listOf vs.toArray n) (listOf (vs.set i.toNat x).toArray n) news news') (h0 : 0 ≤ i) (h1 : i.toNat < vs.length) (h2 : i < 2 ^ 63) (h : ∀ h' (tk' : Nat), s.toks ≤ tk' → Fr h₀ L h' m → News h₀ L h' news' → Q .none { s with heap := h', toks := tk' }) :
    wpAny (model PR w) (ar dp un gd (envX cn cs L a ccd cl :: outer)) (call (.ref 94) [.ref l, .int i t, x]) Q E s := by
  obtain ⟨pre, post, rfl, rfl, ha, hb⟩ := U.split
  refine (setitem_says (n := n) (x := x) (t := t) h0 h1 h2).call (pre ++ post) B F X N T hk ?_ ?_ ?_ (fun _ _ _ => trivial) hd hu ?_
  · intro p hp
    rw [List.mem_singleton.mp hp]
    exact List.mem_append_right _ (.head _)
  · intro p hp
    rcases List.mem_append.mp hp with hp | hp
    · exact List.mem_append_left _ hp
    · exact List.mem_append_right _ (.tail _ hp)
  · intro p hp q hq
    rw [List.mem_singleton.mp hq]
    rcases List.mem_append.mp hp with hp | hp
    · exact ha p hp
    · exact hb p hp
  · rintro v need' h' tk' ht ⟨rfl, rfl⟩ F' N'
    refine h h' tk' ht F' fun p hp => N' p ?_
    rcases List.mem_append.mp hp with hp | hp
    · exact List.mem_append_right _ (List.mem_append_left _ hp)
    · rcases List.mem_cons.mp hp with rfl | hp
      · exact List.mem_append_left _ (.head _)
      · exact List.mem_append_right _ (List.mem_append_right _ hp)
end

end
section
open PySem PySem.W PySem.Calls PySem.Spec PyProof.Rows


open Rx
theorem pat99 {w : World} {g : Heap} (KX : (hd.heap_1 w.params).In g) : IsPat g 99 c1 := by
  have h99 : (hd.heap_1 w.params).lookup 99 = some { cls := .type "re.Pattern", data := .fields #[.str (Str.ofString "(?m)^\\.") 368, .int 40 381, .int 0 0, .none, .none, .ref 98, .int 0 0] } := by k_is
  have h98 : (hd.heap_1 w.params).lookup 98 = some { cls := .type "tuple", data := .seq #[.int 14 0, .int 4 0, .int 0 0, .int 1 0, .int 1 0, .int 6 0, .int 1 0, .int 16 0, .int 46 0, .int 1 0] } := by k_is
  exact ⟨_, _, 98, _, _, _, KX _ _ h99, rfl, rfl, rfl, rfl, rfl, rfl, KX _ _ h98, rfl, rfl, by simp [Builtin.Re.reRawOf]⟩
theorem pat104 {w : World} {g : Heap} (KX : (hd.heap_1 w.params).In g) : IsPat g 104 c2 := by
  have h104 : (hd.heap_1 w.params).lookup 104 = some { cls := .type "re.Pattern", data := .fields #[.str (Str.ofString "(?:\\r\\n|\\n|\\r(?!\\n))") 384, .int 32 423, .int 0 0, .none, .none, .ref 103, .int 0 0] } := by k_is
  have h103 : (hd.heap_1 w.params).lookup 103 = some { cls := .type "tuple", data := .seq #[.int 14 0, .int 9 0, .int 4 0, .int 1 0, .int 2 0, .int 16 0, .int 10 0, .int 16 0, .int 13 0, .int 0 0, .int 7 0, .int 7 0, .int 16 0, .int 13 0, .int 16 0, .int 10 0, .int 15 0, .int 18 0, .int 5 0, .int 16 0, .int 10 0, .int 15 0, .int 13 0, .int 11 0, .int 16 0, .int 13 0, .int 5 0, .int 5 0, .int 0 0, .int 16 0, .int 10 0, .int 1 0, .int 15 0, .int 2 0, .int 0 0, .int 1 0] } := by k_is
  exact ⟨_, _, 103, _, _, _, KX _ _ h104, rfl, rfl, rfl, rfl, rfl, rfl, KX _ _ h103, rfl, rfl, by simp [Builtin.Re.reRawOf]⟩

theorem get_sub {M : Model} {A : Around} {E : Value → Shared → Prop} {s : Shared} {P : Addr} {c : Array Nat} {pl : Sem Bool} {Q : Value × List Value → Shared → Prop} (hp : IsPat s.heap P c) (h : Q (.builtin "re.Pattern.sub", [.ref P]) s) :
    wpAny M A (getMethod (.ref P) (Str.ofString "sub") pl) Q E s := by
  obtain ⟨o, fs, q, oq, items, n, h1, h2, h3, _⟩ := hp
  exact getMethod_builtin ⟨o, h1, h2⟩ plainAttrs_pat slot_sub type_sub (fun a e => by injection e with e; subst e; exact ⟨o, h1, h3⟩) h

local macro_rules | `(tactic| walk_at "getMethod ref") => `(tactic| (k_here; (with_reducible show wpAny _ _ (getMethod (Value.ref _) _ _) _ _ _); (with_reducible rename Fr _ _ _ _ => kF); refine get_sub (IsPat.keep (by assumption) kF.keep) ?_))
local macro_rules | `(tactic| walk_at $s:str) => if ["call builtin:re.Pattern.sub"].contains s.getString then `(tactic| (refine hold_of ?_)) else Lean.Macro.throwUnsupported


theorem quote_says {w : World} {tx : Str} {t : Nat} {ls : List (List Nat × List Nat)} (hz : tx.cps.size < 2 ^ 16) (hls : ∀ p ∈ ls, LineOk p) (htx : tx.cps.toList = lines2 ls) :
    Says w 8 120 162 [.str tx t] (fun g tk₀ => True) [] (fun tk₀ tk₁ v need' => (∃ x u, v = .str x u ∧ x.cps.toList = linesCr ((ls.map (·.1)).map dotted)) ∧ need' = []) := by
  intro mean mg mb dp un gd outer base g s R S N hpre hd hu hret
  have B := S.below
  have KX := S.frag
  have T := S.top
  have XB := S.frag0
  have TB := S.top0

  refine codeAny_hold_toks ?_
  refine' enter (binds := [(Str.ofString "data", .str tx t)]) S N ?k6 ?k7 ?k8 ?k9 ?kB ?_ ?c2 ?c3 ?c4 ?c5
  case k6 => k_is
  case k7 => k_is
  case k8 => k_room
  case k9 => exact BindsTo.of_eq rfl
  case kB => exact locs rfl
  case c2 => exact rfl
  case c3 => exact rfl
  case c4 => exact rfl
  case c5 => decide
  intro L' h' F' N'
  try dsimp only
  k_fold
  have KP := pat99 KX
  have KP2 := pat104 KX
  k_steps
  apply Hold.out
  rename Fr g L' _ _ => F1
  rename News g L' _ _ => N1
  have hlen : ∀ ls : List (List Nat × List Nat), (∀ p ∈ ls, LineOk p) → (linesCr (ls.map (·.1))).length ≤ 2 * (lines2 ls).length ∧ (linesCr ((ls.map (·.1)).map dotted)).length ≤ 3 * (lines2 ls).length := by
    intro ls
    induction ls with
    | nil => intro _; exact ⟨Nat.le_refl _, Nat.le_refl _⟩
    | cons p ls ih =>
      intro hok
      obtain ⟨i1, i2⟩ := ih fun p hp => hok p (.tail _ hp)
      obtain ⟨hne, _, hen⟩ := hok p (.head _)
      have h1 : 0 < p.1.length := List.length_pos_iff.mpr hne
      have h2 : 0 < p.2.length := by rcases hen with e | e | e <;> rw [e] <;> decide
      have h3 : (dotted p.1).length ≤ p.1.length + 1 := by unfold dotted; split <;> simp
      simp only [linesCr, lines2, List.map_cons, List.flatten_cons, List.length_append, List.length_cons, List.length_nil] at i1 i2 ⊢
      omega
  obtain ⟨b1, b2⟩ := hlen ls hls
  have hrows : ∀ r ∈ ls.map (·.1), r ≠ [] ∧ ∀ c ∈ r, c ≠ 10 := fun r hr => by
    obtain ⟨p, hp, rfl⟩ := List.mem_map.mp hr
    exact ⟨(hls p hp).1, fun c hc => ((hls p hp).2.1 c hc).1⟩
  have hsz0 : tx.cps.size = (lines2 ls).length := by rw [← Array.length_toList, htx]
  refine resub_says (out := linesCr (ls.map (·.1))) (finder2 _) (by omega) (by rw [show (Str.ofString "\r\n").cps.toList = [13, 10] by decide +kernel]; exact subs2_lines ls [] hls htx) (KP2.keep F1.keep) (by decide +kernel) (by omega) ?_
  intro h2 tk2 x2 t2 hk2 hx2
  have F2 := F1.keeps hk2
  have N2 := N1.grown hk2
  have hsz2 : x2.cps.size = (linesCr (ls.map (·.1))).length := by rw [← Array.length_toList, hx2]
  clear F1 N1
  try dsimp only
  k_steps
  apply Hold.out
  rename Fr g L' _ _ => F3
  rename News g L' _ _ => N3
  refine resub_says (out := linesCr ((ls.map (·.1)).map dotted)) (finder1 _) (by omega) (by rw [show (Str.ofString "..").cps.toList = [46, 46] by decide +kernel]; exact subs1_lines (ls.map (·.1)) [] hrows (.inl rfl) hx2) (KP.keep F3.keep) (by decide +kernel) (by omega) ?_
  intro h4 tk4 x4 t4 hk4 hx4
  have F4 := F3.keeps hk4
  have N4 := N3.grown hk4
  clear F3 N3
  try dsimp only
  k_steps
  (try dsimp only)
  (try k_unfold)
  (try dsimp only)
  apply Hold.out
  intro htoks
  refine hret _ _ _ _ htoks ?_ (Fr.keep (by assumption)) (newsG_of (by assumption))
  exact ⟨⟨x4, _, rfl, hx4⟩, rfl⟩

end
section
open PySem PySem.W PySem.Calls PySem.Spec PyProof.Rows


theorem draws_ok (l : List Int) : (l.map (fun k' => Int.fmod k' 1000) ++ List.drop (((l.map (fun k' => Int.fmod k' 1000)).length : Nat) : Int).toNat [1, 6, 39, 5, 38, 16]).length = max 6 l.length ∧
    ∀ x ∈ l.map (fun k' => Int.fmod k' 1000) ++ List.drop (((l.map (fun k' => Int.fmod k' 1000)).length : Nat) : Int).toNat [1, 6, 39, 5, 38, 16], 0 ≤ x ∧ x < 1000 := by
  constructor
  · simp
    omega
  · intro x hx
    rcases List.mem_append.mp hx with hx | hx
    · obtain ⟨k, _, rfl⟩ := List.mem_map.mp hx
      rw [Int.fmod_eq_emod_of_nonneg _ (by decide)]
      exact ⟨Int.emod_nonneg _ (by decide), Int.emod_lt_of_pos _ (by decide)⟩
    · have hx := List.mem_of_mem_drop hx
      simp only [List.mem_cons, List.not_mem_nil, or_false] at hx
      omega

theorem five_up (x : Int) : ∃ n : Nat, 5 + x.fmod 3 = (n : Nat) ∧ 5 ≤ n ∧ n ≤ 7 := by
  rw [Int.fmod_eq_emod_of_nonneg _ (by decide)]
  exact ⟨(5 + x % 3).toNat, by omega, by omega, by omega⟩

theorem draws_says {w : World} {l : Addr} {vs : List Value} {ns : List Int} (hI : IntsAre vs ns) (hn : ns.length ≤ 63) :
    Says w 18 120 167 [.ref l] (fun g tk₀ => g.IsList l vs.toArray) [] (fun tk₀ tk₁ v need' => ∃ D ws c ds, v = .ref D ∧ need' = [(D, listOf (ws : List Value).toArray c)] ∧ IntsAre ws ds ∧ ds.length = 6 ∧ ∀ x ∈ ds, 0 ≤ x ∧ x < 1000) := by
  intro mean mg mb dp un gd outer base g s R S N hpre hd hu hret
  have B := S.below
  have KX := S.frag
  have T := S.top
  have XB := S.frag0
  have TB := S.top0

  refine codeAny_hold_toks ?_
  refine' enter (binds := [(Str.ofString "script", .ref l)]) S N ?k6 ?k7 ?k8 ?k9 ?kB ?_ ?c2 ?c3 ?c4 ?c5
  case k6 => k_is
  case k7 => k_is
  case k8 => k_room
  case k9 => exact BindsTo.of_eq rfl
  case kB => exact locs rfl
  case c2 => exact rfl
  case c3 => exact rfl
  case c4 => exact rfl
  case c5 => decide
  intro L' h' F' N'
  try dsimp only
  k_fold
  have hlst := hpre
  k_steps
  rename Fr _ _ _ _ => F9
  rename News _ _ _ _ => N9
  rename IntsAre _ (_ ++ _) => hI9
  obtain ⟨d1, d2⟩ := draws_ok (ns.take 6)
  rw [List.length_take] at d1
  have N8 := news_sub (news' := [_]) N9 (fun p hp => List.mem_singleton.mp hp ▸ .head _)
  (try dsimp only)
  (try k_unfold)
  (try dsimp only)
  apply Hold.out
  intro htoks
  refine hret _ _ _ _ htoks ?_ (Fr.keep (by assumption)) (newsG_of N8)
  exact ⟨_, _, _, _, rfl, rfl, hI9, by omega, d2⟩

end
section
open PySem PySem.W PySem.Calls PySem.Spec PyProof.Rows

theorem ints_at {vs : List Value} {ns : List Int} (h : IntsAre vs ns) : ∀ {i : Nat} {n : Int}, ns[i]? = some n → ∃ t : Nat, vs[i]? = some (.int n t) := by
  induction h with
  | nil => intro i n e; simp at e
  | cons n0 t0 h ih =>
    intro i n e
    cases i with
    | zero =>
      simp at e
      subst e
      exact ⟨_, rfl⟩
    | succ i =>
      simp at e
      obtain ⟨t, ht⟩ := ih e
      exact ⟨t, by simpa using ht⟩

theorem ints_set {x : Int} {t : Tok} {vs : List Value} {ns : List Int} (h : IntsAre vs ns) : ∀ {i : Nat}, IntsAre (vs.set i (.int x t)) (ns.set i x) := by
  induction h with
  | nil => intro i; exact .nil
  | cons n0 t0 h ih =>
    intro i
    cases i with
    | zero => exact .cons _ _ h
    | succ i => exact .cons _ _ ih

/-- ints with told tokens of before -/
noncomputable def Fresh (tk : Nat) (vs : List Value) (ns : List Int) : Prop := IntsAre vs ns ∧ ∀ v ∈ vs, ∃ (n : Int) (t : Nat), v = .int n t ∧ t ≠ 0 ∧ t < tk ∧ smallInt n = true

theorem Fresh.told {tk : Nat} {vs : List Value} {ns : List Int} {goal : Int} {tg : Nat} (F : Fresh tk vs ns) (h : tk ≤ tg) : Told vs ns goal tg := by
  intro i v hv
  obtain ⟨n, t, rfl, h1, h2, h3⟩ := F.2 v (List.mem_of_getElem? hv)
  have hl := F.1.length
  have hi : i < ns.length := by
    have := (List.getElem?_eq_some_iff.mp hv).1
    omega
  obtain ⟨t', ht'⟩ := ints_at F.1 (List.getElem?_eq_getElem hi)
  rw [hv] at ht'
  have he := Option.some.inj ht'
  injection he with e1 e2
  refine ⟨n, t, rfl, ?_, h1, fun q => absurd q (by omega), h3⟩
  rw [List.getElem?_eq_getElem hi, e1]

theorem Fresh.mono {tk tk' : Nat} {vs : List Value} {ns : List Int} (F : Fresh tk vs ns) (h : tk ≤ tk') : Fresh tk' vs ns :=
  ⟨F.1, fun v hv => by obtain ⟨n, t, e, a, b, c⟩ := F.2 v hv; exact ⟨n, t, e, a, by omega, c⟩⟩

theorem Fresh.set {tk : Nat} {vs : List Value} {ns : List Int} {i : Nat} {x : Int} {t : Nat} (F : Fresh tk vs ns) (h0 : t ≠ 0) (h1 : t < tk) (hs : smallInt x = true) : Fresh tk (vs.set i (.int x t)) (ns.set i x) :=
  ⟨ints_set F.1, fun v hv => by
    rcases List.mem_or_eq_of_mem_set hv with hv | rfl
    · exact F.2 v hv
    · exact ⟨x, t, rfl, h0, h1, hs⟩⟩

/-- the mending, as a plain function -/
noncomputable def mend (n : Nat) (C : List Int) (giver : Nat) : Nat → List Int → List Int → List Nat → Int → Int → Nat → Bool × List Int × List Int
  | 0, S, L, _, _, _, _ => (false, S, L)
  | f + 1, S, L, gone, older, newer, who =>
    match L.findIdx? (fun x => x == (older + C.getD who 0) % n) with
    | none =>
      match (L.set who ((older + C.getD who 0) % n)).findIdx? (fun x => x == (newer + C.getD giver 0) % n) with
      | none => (true, (S.set who older).set giver newer, (L.set who ((older + C.getD who 0) % n)).set giver ((newer + C.getD giver 0) % n))
      | some _ => (false, (S.set who older).set giver newer, L.set who ((older + C.getD who 0) % n))
    | some b => if b ∈ gone then (false, S.set who older, L) else mend n C giver f (S.set who older) ((L.set b (-1)).set who ((older + C.getD who 0) % n)) (gone ++ [b]) newer ((S.set who older).getD b 0) b

noncomputable def mended (n : Nat) (C S L : List Int) (taker giver : Nat) : Bool × List Int × List Int :=
  mend n C giver n S ((L.set taker (-1)).set giver (-1)) [taker, giver] (S.getD taker 0) (S.getD giver 0) taker

theorem my_len {prog : Program} {w : World} {A : Around} {E : Value → Shared → Prop} {s : Shared} {g : Heap} {L : Addr} {news : List (Addr × Obj)} {l : Addr} {vs : List Value} {c n : Nat} {Q : Value → Shared → Prop}
    (N : News g L s.heap news) (hm : (l, listOf vs.toArray c) ∈ news) (hk : vs.length = n) (hz : n < 2 ^ 20) (h : Q (.int (n : Nat) (s.toks + 1)) { s with toks := s.toks + 1 + 1 }) :
    wpAny (model prog w) A (call (.builtin "len") [.ref l]) Q E s := by
  have hl : s.heap.IsList l vs.toArray := ⟨_, (N _ hm).1, rfl, _, rfl⟩
  refine Calls.call_len_list hl (by simp; omega) ?_
  simpa [hk] using h

theorem sep_one {rest : List (Addr × Obj)} {d : Addr} {o : Obj} (h : ∀ p ∈ rest, p.1 ≠ d) : ∀ p ∈ rest, ∀ q ∈ [(d, o)], p.1 ≠ q.1 := fun p hp q hq => by rw [List.mem_singleton.mp hq]; exact h p hp

theorem small_mod {x : Int} {n : Nat} (h0 : 0 < n) (h1 : n < 200) : smallInt (x % (n : Int)) = true := by
  have a := Int.emod_nonneg x (show (n : Int) ≠ 0 by omega)
  have b := Int.emod_lt_of_pos x (show (0 : Int) < n by omega)
  simp [smallInt]
  omega

theorem mend_some {n giver f who b : Nat} {C S L : List Int} {gone : List Nat} {older newer : Int} (hf : L.findIdx? (fun x => x == (older + C.getD who 0) % n) = some b) (hb : b ∉ gone) :
    mend n C giver (f + 1) S L gone older newer who = mend n C giver f (S.set who older) ((L.set b (-1)).set who ((older + C.getD who 0) % n)) (gone ++ [b]) newer ((S.set who older).getD b 0) b := by
  simp only [mend, hf, hb, if_false]
theorem mend_in {n giver f who b : Nat} {C S L : List Int} {gone : List Nat} {older newer : Int} (hf : L.findIdx? (fun x => x == (older + C.getD who 0) % n) = some b) (hb : b ∈ gone) :
    mend n C giver (f + 1) S L gone older newer who = (false, S.set who older, L) := by
  simp only [mend, hf, hb, if_true]
theorem mend_none_none {n giver f who : Nat} {C S L : List Int} {gone : List Nat} {older newer : Int} (hf : L.findIdx? (fun x => x == (older + C.getD who 0) % n) = none)
    (hf2 : (L.set who ((older + C.getD who 0) % n)).findIdx? (fun x => x == (newer + C.getD giver 0) % n) = none) :
    mend n C giver (f + 1) S L gone older newer who = (true, (S.set who older).set giver newer, (L.set who ((older + C.getD who 0) % n)).set giver ((newer + C.getD giver 0) % n)) := by
  simp only [mend, hf, hf2]
theorem mend_none_some {n giver f who b : Nat} {C S L : List Int} {gone : List Nat} {older newer : Int} (hf : L.findIdx? (fun x => x == (older + C.getD who 0) % n) = none)
    (hf2 : (L.set who ((older + C.getD who 0) % n)).findIdx? (fun x => x == (newer + C.getD giver 0) % n) = some b) :
    mend n C giver (f + 1) S L gone older newer who = (false, (S.set who older).set giver newer, L.set who ((older + C.getD who 0) % n)) := by
  simp only [mend, hf, hf2]
theorem not_in_of {G : List Nat} {b : Nat} (h : (List.any (G.map Int.ofNat) fun x => x == (b : Nat)) = false) : b ∉ G := fun hb' => by
  have h1 : (List.any (G.map Int.ofNat) fun x => x == (b : Nat)) = true := List.any_eq_true.mpr ⟨Int.ofNat b, List.mem_map.mpr ⟨b, hb', rfl⟩, beq_self_eq_true (b : Int)⟩
  rw [h] at h1
  cases h1
theorem in_of {G : List Nat} {b : Nat} (h : (List.any (G.map Int.ofNat) fun x => x == (b : Nat)) = true) : b ∈ G := by
  obtain ⟨x, hx, hxb⟩ := List.any_eq_true.mp h
  obtain ⟨y, hy, rfl⟩ := List.mem_map.mp hx
  have : y = b := Int.ofNat.inj (eq_of_beq hxb)
  exact this ▸ hy

theorem find_none {L : List Int} {g : Int} (h : L.findIdx? (fun x => x == g) = none) : (L.any fun x => x == g) = false := by
  rw [List.any_eq_false]
  rw [List.findIdx?_eq_none_iff] at h
  intro x hx
  have := h x hx
  simp_all

theorem find_some {L : List Int} {g : Int} {b : Nat} (h : L.findIdx? (fun x => x == g) = some b) : L[b]? = some g ∧ (∀ k, k < b → L[k]? ≠ some g) ∧ b < L.length := by
  rw [List.findIdx?_eq_some_iff_getElem] at h
  obtain ⟨hb, h1, h2⟩ := h
  refine ⟨?_, ?_, hb⟩
  · rw [List.getElem?_eq_getElem hb]; simpa using h1
  · intro k hk e
    have hk' : k < L.length := by omega
    rw [List.getElem?_eq_getElem hk'] at e
    have := h2 k hk
    simp at e
    simp_all

end
section
set_option hygiene false in
local macro_rules | `(tactic| walk_at "my prem") => `(tactic| ((case B => k_asm); (case F => k_asm); (case X => k_asm); (case N => k_asm); (case T => k_asm); (case hk => exact rfl); (case hd => ((try dsimp only [ar, Around.deeper]); omega)); (case hu => ((try dsimp only [ar, Around.deeper]); omega))))
local macro_rules | `(tactic| walk_at "my out7") => `(tactic| (intro t9 h9 tk9 ht9 ht9b F9 N9; (try dsimp only); (try k_sweep)))
local macro_rules | `(tactic| walk_at "my out6") => `(tactic| (intro t9 h9 tk9 ht9 F9 N9; (try dsimp only); (try k_sweep)))
local macro_rules | `(tactic| walk_at "my out5") => `(tactic| (intro h9 tk9 ht9 F9 N9; (try dsimp only); (try k_sweep)))
local macro_rules | `(tactic| walk_at "my stands") => `(tactic| first | exact Or.inl (by k_mem) | exact Or.inr (by assumption))
local macro_rules | `(tactic| walk_at "my fact") => `(tactic| first | assumption | omega | rfl | exact IntsAre.length (by assumption) | (simp only [List.length_set]; omega) | (simp only [List.length_set, Int.toNat_natCast]; omega))
set_option hygiene false in
local macro_rules | `(tactic| walk_at "call ref") => `(tactic| (k_here; (with_reducible show wpAny _ _ (call (Value.ref 87) _) _ _ _); k_dflt (refine' call_indexOf ?B ?F ?X ?N ?T ?hk ?hd ?hu ?hl ?h1 ?h2 ?h3 ?h4 ?h5 ?_; walk_at "my prem"; (case hl => walk_at "my stands"); (case h1 => assumption); (case h2 => first | assumption | exact IntsAre.length (by assumption)); (case h3 => assumption); (case h4 => assumption); (case h5 => assumption)); walk_at "my out6"))
set_option hygiene false in
local macro_rules | `(tactic| walk_at "call ref") => `(tactic| (k_here; (with_reducible show wpAny _ _ (call (Value.ref 45) _) _ _ _); k_dflt (refine' call_add ?B ?F ?X ?N ?T ?hk ?hd ?hu  ?_; walk_at "my prem"); walk_at "my out7"))
set_option hygiene false in
local macro_rules | `(tactic| walk_at "call ref") => `(tactic| (k_here; (with_reducible show wpAny _ _ (call (Value.ref 59) _) _ _ _); k_dflt (refine' call_sub ?B ?F ?X ?N ?T ?hk ?hd ?hu  ?_; walk_at "my prem"); walk_at "my out7"))
set_option hygiene false in
local macro_rules | `(tactic| walk_at "call ref") => `(tactic| (k_here; (with_reducible show wpAny _ _ (call (Value.ref 52) _) _ _ _); k_dflt (refine' call_mod ?B ?F ?X ?N ?T ?hk ?hd ?hu ?hy ?_; walk_at "my prem"; (case hy => walk_at "my fact")); walk_at "my out7"))
set_option hygiene false in
local macro_rules | `(tactic| walk_at "call ref") => `(tactic| (k_here; (with_reducible show wpAny _ _ (call (Value.ref 80) _) _ _ _); k_dflt (refine' call_getitem ?B ?F ?X ?N ?T ?hk ?hd ?hu ?hl ?h0 ?h1 ?h2 ?_; walk_at "my prem"; (case hl => walk_at "my stands"); (case h0 => walk_at "my fact"); (case h1 => first | assumption | rfl); (case h2 => walk_at "my fact")); walk_at "my out5"))
set_option hygiene false in
local macro_rules | `(tactic| walk_at "call ref") => `(tactic| (k_here; (with_reducible show wpAny _ _ (call (Value.ref 66) _) _ _ _); k_dflt (refine' call_contains ?B ?F ?X ?N ?T ?hk ?hd ?hu ?hl ?hi ?h1 ?_; walk_at "my prem"; (case hl => walk_at "my stands"); (case hi => assumption); (case h1 => walk_at "my fact")); walk_at "my out5"))
set_option hygiene false in
local macro_rules | `(tactic| walk_at "call ref") => `(tactic| (k_here; (with_reducible show wpAny _ _ (call (Value.ref 94) _) _ _ _); k_dflt (refine' call_setitem ?B ?F ?X ?N ?T ?hk ?hd ?hu ?U ?h0 ?h1 ?h2 ?_; walk_at "my prem"; (case U => k_upd); (case h0 => walk_at "my fact"); (case h1 => walk_at "my fact"); (case h2 => walk_at "my fact")); walk_at "my out5"))

section
open PySem PySem.W PySem.Calls PySem.Spec PyProof.Rows


theorem look_free {w : World} {l : Addr} {vs : List Value} {ns : List Int} {n : Nat} {who goal : Int} {tw tg : Nat} (hi : IntsAre vs ns) (hz : ns.length < 2 ^ 20) (h0 : 0 ≤ who) (h1 : who.toNat < vs.length) (hno : (ns.any fun x => x == goal) = false) :
    Says w 15 80 174 [.ref l, .int who tw, .int goal tg] (fun g tk₀ => True) [(l, listOf vs.toArray n)] (fun tk₀ tk₁ v need' => v = .none ∧ need' = [(l, listOf (vs.set who.toNat (.int goal tg)).toArray n)]) := by
  intro mean mg mb dp un gd outer base g s R S N hpre hd hu hret
  have B := S.below
  have KX := S.frag
  have T := S.top
  have XB := S.frag0
  have TB := S.top0
  have hl := hi.length
  refine codeAny_hold_toks ?_
  refine' enter (binds := [(Str.ofString "looks", .ref l), (Str.ofString "who", .int who tw), (Str.ofString "goal", .int goal tg)]) S N ?k6 ?k7 ?k8 ?k9 ?kB ?_ ?c2 ?c3 ?c4 ?c5
  case k6 => k_is
  case k7 => k_is
  case k8 => k_room
  case k9 => exact BindsTo.of_eq rfl
  case kB => exact locs rfl
  case c2 => exact rfl
  case c3 => exact rfl
  case c4 => exact rfl
  case c5 => decide
  intro L' h' F' N'
  try dsimp only
  k_fold
  k_steps
  (try dsimp only)
  (try k_unfold)
  (try dsimp only)
  apply Hold.out
  intro htoks
  refine hret _ _ _ _ htoks ?_ (Fr.keep (by assumption)) (newsG_of (by assumption))
  exact ⟨rfl, rfl⟩

end
section
open PySem PySem.W PySem.Calls PySem.Spec PyProof.Rows


theorem sub153 (P : Params) : subIn (hd.heap_1 P) (.ref 153) (.type "BaseException") = some true := by k_is
theorem type153 (P : Params) : typeIn (hd.heap_1 P) (.ref 153) = some (.type "type") := by k_is
theorem kts153 (P : Params) : ktsIn (hd.heap_1 P) 153 "BaseException" = true := by rfl

theorem raise_refusal {prog : Program} {w : World} {A : Around} {E : Value → Shared → Prop} {s : Shared} {env : Env} {e : Expr} {pos : Pos} {Q : Flow → Shared → Prop} (hh : A.handled = none)
    (h : wpAny (model prog w) A (eval e env) (fun v s₁ => ∃ a ob vs, v = .ref a ∧ s₁.heap.get? a = some ob ∧ ob.cls = .ref 153 ∧ ob.data = .fields vs ∧ vs[1]? = some .none ∧ (hd.heap_1 w.params).In s₁.heap ∧ E (.ref a) s₁) E s) :
    wpAny (model prog w) A (exec (.Raise (some e) none pos) env) Q E s := by
  show wpAny (model prog w) A (do standAt pos; raiseStmt env (some (do let v ← eval e env; standAt pos; pure v)) none) Q E s
  refine wpAny_bind (wpAny_standAt ?_)
  unfold raiseStmt
  dsimp only
  refine wpAny_bind (wpAny_bind (wpAny_mono h (fun v s₁ h₁ => wpAny_bind (wpAny_standAt (wpAny_pure ?_))) fun _ _ x => x))
  obtain ⟨a, ob, vs, rfl, ha, hcls, hd, h1, X, hE⟩ := h₁
  have hnt : ∀ {Q' : Bool → Shared → Prop}, Q' false s₁ → wpAny (model prog w) A (isType (.ref a)) Q' E s₁ := by
    intro Q' hq
    simp only [isType, loadHead]
    refine wpAny_bind (wpAny_loadPart ha ?_)
    rw [hd]; exact wpAny_pure hq
  have hty : Looks (model prog w) s₁.heap (typeOf (.ref a)) (.ref 153) := hcls ▸ (Looks.ld ha).andThen .now
  refine wpAny_bind (wpAny_pure ?_)
  dsimp only
  refine wpAny_bind (wpAny_holding ?_)
  unfold excFromValue isExcClass
  refine wpAny_bind (wpAny_bind (hnt ?_))
  simp only [Bool.false_eq_true, if_false]
  refine wpAny_pure ?_
  simp only [Bool.false_eq_true, if_false]
  unfold isInstance
  refine wpAny_bind (wpAny_bind (hty.here ((looks_subIn X (sub153 _)).here ?_)))
  simp only [if_true]
  refine wpAny_pure ?_
  refine wpAny_bind (hnt ?_)
  simp only [Bool.false_eq_true, if_false]
  unfold raisedInstance
  refine wpAny_bind (wpAny_bind (hty.here (wpAny_bind ((looks_typeIn X (type153 _)).here ?_))))
  rw [if_pos (by decide)]
  refine wpAny_pure ?_
  unfold setFlight raiseNew
  refine wpAny_bind (wpAny_bind (wpAny_field ha hd h1 ?_))
  rw [if_neg (by decide)]
  refine wpAny_pure (wpAny_bind (wpAny_handled ?_))
  rw [hh]
  first
    | exact wpAny_throw hE
    | exact wpAny_bind (wpAny_pure (wpAny_throw hE))

end
section
open PySem PySem.W PySem.Calls PySem.Spec PyProof.Rows


local macro_rules | `(tactic| walk_at $s:str) => if ["exec Raise some none"].contains s.getString then `(tactic| (refine hold_of ?_)) else Lean.Macro.throwUnsupported

local macro_rules | `(tactic| walk_at "call ref") => `(tactic| ((with_reducible show wpAny _ _ (call (Value.ref 153) _) _ _ _); refine hold_of ?_))


theorem look_blocked {w : World} {l : Addr} {vs : List Value} {ns : List Int} {n : Nat} {who goal : Int} {tw tg : Nat} {j : Nat} (hi : IntsAre vs ns) (hz : ns.length < 2 ^ 20) (h1 : Told vs ns goal tg) (h3 : tg ≠ 0) (h4 : ns[j]? = some goal) (h5 : ∀ k, k < j → ns[k]? ≠ some goal)
    {mean : ExcName → Option Value} {mg mb : Str → Option Value} {outer : List Env} {base g : Heap} {s : Shared} {R : Result → Shared → Prop}
    (S : Site w mean mg mb 305 16 (some []) outer base g s.heap) (N : NewsG g s.heap [(l, listOf vs.toArray n)])
    (hret : ∀ e d h' tk' (tj : Nat) q1 q2 q3 k1 k2 k3, Thrown base g outer e 153 d [(l, listOf vs.toArray n), (d, refDict q1 q2 q3 k1 k2 k3 who goal j tw tg tj)] h' → R (.error (.ref e)) { s with heap := h', toks := tk' }) :
    codeAny (model PR w) (ar 305 16 (some []) outer) (.call (.ref 174) ⟨[.ref l, .int who tw, .int goal tg], []⟩) R s := by
  have hl := hi.length
  have hhas : (ns.any fun x => x == goal) = true := List.any_eq_true.mpr ⟨goal, List.mem_of_getElem? h4, by simp⟩
  have B := S.below
  have KX := S.frag
  have T := S.top
  have XB := S.frag0
  have TB := S.top0
  have hd : 305 + 30 < recursionLimit := by decide
  have hu : 16 + 100 < cLine := by decide
  refine' enter (binds := [(Str.ofString "looks", .ref l), (Str.ofString "who", .int who tw), (Str.ofString "goal", .int goal tg)]) S N ?k6 ?k7 ?k8 ?k9 ?kB ?_ ?c2 ?c3 ?c4 ?c5
  case k6 => k_is
  case k7 => k_is
  case k8 => decide
  case k9 => exact BindsTo.of_eq rfl
  case kB => exact locs rfl
  case c2 => exact rfl
  case c3 => exact rfl
  case c4 => exact rfl
  case c5 => decide
  intro L' h' F' N'
  try dsimp only
  k_fold
  k_steps
  · apply Hold.out
    refine raise_refusal rfl ?_
    k_steps
    apply Hold.out
    refine make_refused (Frag.In.keeps KX (Fr.keep (by assumption))) ?_
    intro x hx tkx hmade
    obtain ⟨keep, hxn, d, t, q1, q2, q3, k1, k2, k3, hdn, hxo, hdo⟩ := hmade
    dsimp only at keep hxn hdn
    obtain ⟨tj, hdo⟩ : ∃ tj : Nat, Heap.get? _ d = some (refDict q1 q2 q3 k1 k2 k3 who goal j tw tg tj) := ⟨_, hdo⟩
    rename Fr g L' _ _ => F₁
    rename News g L' _ _ => N₁
    refine ⟨x, _, _, rfl, hxo, rfl, rfl, rfl, Frag.In.keeps (Frag.In.keeps KX F₁.keep) keep, ?_⟩
    k_unfold
    dsimp only
    have hlx := N₁ _ (.head _)
    have hg0 : ∀ b, (∀ o, g.get? b ≠ some o) → g.get? b = none := fun b hb => by
      cases q : g.get? b with
      | none => rfl
      | some o => exact absurd q (hb o)
    have hfresh : ∀ b, Heap.get? _ b = none → g.get? b = none := fun b hb => hg0 b fun o q => by have := F₁.keep b o q; rw [hb] at this; cases this
    have hL : ∀ b, Heap.get? _ b = none → b ≠ L' := fun b hb q => by
      obtain ⟨oL, _, _, hoL, _⟩ := F₁.ns
      rw [q, hoL] at hb; cases hb
    have hne : x ≠ d := fun q => by
      rw [q, hdo] at hxo
      cases hxo
    refine leave_thrown (news := [(l, listOf vs.toArray n), (d, refDict q1 q2 q3 k1 k2 k3 who goal j tw tg tj)]) B F₁ keep hxo hxn rfl rfl ?_ ?_
    · intro q hq
      rcases List.mem_cons.mp hq with rfl | hq
      · exact ⟨keep _ _ hlx.1, hlx.2.1, fun z => by rw [z] at hlx; rw [hxn] at hlx; exact absurd hlx.1 (by simp), hlx.2.2⟩
      · rw [List.mem_singleton.mp hq]
        exact ⟨hdo, hL d hdn, hne.symm, hfresh d hdn⟩
    · intro h2 hthr
      exact hret x d h2 _ tj q1 q2 q3 k1 k2 k3 hthr

end
section
open PySem PySem.W PySem.Calls PySem.Spec PyProof.Rows

/-- as Says, where frames below may have been looked at -/
noncomputable def SaysS (w : World) (dp un : Nat) (f : Addr) (vs : List Value) (Pre : Heap → Nat → Prop) (need : List (Addr × Obj)) (Post : Nat → Nat → Value → List (Addr × Obj) → Prop) : Prop :=
  ∀ (mean : ExcName → Option Value) (mg mb : Str → Option Value) (outer : List Env) (base g : Heap) (s : Shared) (R : Result → Shared → Prop),
    Site w mean mg mb dp un (some []) outer base g s.heap → NewsG g s.heap need → Pre g s.toks →
    (∀ v need' h' tk' g', s.toks ≤ tk' → Post s.toks tk' v need' → KtsTurn (outer.filterMap (·.frame)) g g' → Below (ar dp un (some []) outer) base outer g' → g'.StaysIn h' → NewsG g' h' need' → R (.ok (.ret v)) { s with heap := h', toks := tk' }) →
    codeAny (model PR w) (ar dp un (some []) outer) (.call (.ref f) ⟨vs, []⟩) R s

theorem back_turned {A₀ : Around} {base h₀ g g' h' : Heap} {outer : List Env} {L : Addr} {m : Str → Option Value} {env : Env} {need' rest : List (Addr × Obj)}
    (B : Below A₀ base outer h₀) (F0 : h₀.get? L = none) (ab : h₀.objs.size ≤ L) (FG : Fr h₀ L g m) (st : h₀.StaysIn g) (hrest : ∀ p ∈ rest, g.get? p.1 = some p.2 ∧ p.1 ≠ L ∧ h₀.get? p.1 = none) (hf : env.frame = some L)
    (T : KtsTurn ((env :: outer).filterMap (·.frame)) g g') (k : g'.StaysIn h') (N' : NewsG g' h' need') :
    ∃ h₀', KtsTurn (outer.filterMap (·.frame)) h₀ h₀' ∧ Below A₀ base outer h₀' ∧ Fr h₀' L h' m ∧ News h₀' L h' (need' ++ rest) := by
  have mem : ∀ b, b ∈ (env :: outer).filterMap (·.frame) → b = L ∨ b ∈ outer.filterMap (·.frame) := fun b hb => by
    obtain ⟨e, he, hfe⟩ := List.mem_filterMap.mp hb
    rcases List.mem_cons.mp he with rfl | he
    · exact .inl (Option.some.inj (hf.symm.trans hfe)).symm
    · exact .inr (List.mem_filterMap.mpr ⟨e, he, hfe⟩)
  obtain ⟨T₁, S₁⟩ := kts_turn_at (h := h') (fs := outer.filterMap (·.frame)) (g := h₀)
    (fun b hb => by
      obtain ⟨_, o, ho', _⟩ := B.frames.mem hb
      exact ⟨o, ho'⟩)
    (fun b o e nmem => k b o (T.other b o (st b o e) (fun q => by
      rcases mem b q with z | z
      · rw [z, F0] at e
        cases e
      · exact nmem z)))
    (fun b o e hm => by
      obtain ⟨sl', hs'⟩ := T.up (st b o e)
      exact ⟨sl', k _ _ hs'⟩)
  have B₃ : Below A₀ base outer (ktsHeap h' (outer.filterMap (·.frame)) h₀) := ⟨B.stack, fun b o e => T₁.other b o (B.stays b o e) (fun hm => by
    rw [(B.frames.mem hm).1] at e
    cases e), B.frames.of_keeps fun b o e _ => by
    obtain ⟨sl', hs'⟩ := T₁.up e
    exact ⟨_, hs', rfl⟩⟩
  obtain ⟨oL, es, ep, hL, hLd, hLk, hLf⟩ := FG.ns
  obtain ⟨sl, hs⟩ := T.up hL
  refine ⟨_, T₁, B₃, ⟨⟨_, es, ep, k _ _ hs, hLd, hLk, hLf⟩, S₁, by rw [T₁.size]; exact ab⟩, fun p hp => ?_⟩
  rcases List.mem_append.mp hp with hp | hp
  · refine ⟨(N' p hp).1, fun q => ?_, ?_⟩
    · have := (N' p hp).2; rw [q, hs] at this; cases this
    · refine T₁.none_ _ ?_
      cases q : h₀.get? p.1 with
      | none => rfl
      | some o =>
        obtain ⟨sl', hs'⟩ := T.up (st _ _ q)
        have := (N' p hp).2
        rw [hs'] at this
        cases this
  · refine ⟨k _ _ (T.other _ _ (hrest p hp).1 fun q => ?_), (hrest p hp).2.1, T₁.none_ _ (hrest p hp).2.2⟩
    rcases mem _ q with z | z
    · exact (hrest p hp).2.1 z
    · obtain ⟨_, o, ho', _⟩ := B.frames.mem z
      rw [(hrest p hp).2.2] at ho'
      cases ho'

theorem SaysS.call {w : World} {dp un : Nat} {f : Addr} {vs : List Value} {Pre : Heap → Nat → Prop} {need : List (Addr × Obj)} {Post : Nat → Nat → Value → List (Addr × Obj) → Prop} (C : SaysS w dp un f vs Pre need Post)
    {mean : ExcName → Option Value} {mg mb : Str → Option Value} {outer : List Env} {A₀ : Around} {base h₀ : Heap} {L : Addr} {m : Str → Option Value} {news : List (Addr × Obj)}
    {cn : Str} {cs : Scope} {a : Addr} {ccd : Value} {cl : List (Str × Addr)} {s : Shared} {Q E : Value → Shared → Prop} (rest : List (Addr × Obj))
    (B : Below A₀ base outer h₀) (F : Fr h₀ L s.heap m) (X : (hd.heap_1 w.params).In base) (N : News h₀ L s.heap news) (T : Top VW LO mean mg mb base) (hk : cs.kind = .function)
    (hn : ∀ p ∈ need, p ∈ news) (hr : ∀ p ∈ rest, p ∈ news) (sep : ∀ p ∈ rest, ∀ q ∈ need, p.1 ≠ q.1)
    (hpre : ∀ g, h₀.StaysIn g → (∀ p ∈ rest, g.get? p.1 = some p.2) → Pre g s.toks)
    (h : ∀ v need' h' tk' h₀', s.toks ≤ tk' → Post s.toks tk' v need' → KtsTurn (outer.filterMap (·.frame)) h₀ h₀' → Below A₀ base outer h₀' → Fr h₀' L h' m → News h₀' L h' (need' ++ rest) → Q v { s with heap := h', toks := tk' }) :
    wpAny (model PR w) (ar dp un (some []) (envX cn cs L a ccd cl :: outer)) (PySem.call (.ref f) vs) Q E s := by
  obtain ⟨g, S, NG, st, hrest, FG, back⟩ := site_of (dp := dp) (un := un) (gd := some []) (env := envX cn cs L a ccd cl) B F X T (news_sub N hn) (news_sub N hr) sep rfl hk
  refine wpAny_call (C mean mg mb _ base g s _ S NG (hpre g st hrest) fun v need' h' tk' g' ht hp T' B' k N' => ?_)
  obtain ⟨h₀', T₁, B₁, F₁, N₁⟩ := back_turned (env := envX cn cs L a ccd cl) B (kts_self F) F.above FG st (fun p hp => ⟨hrest p hp, ((news_sub N hr) p hp).2⟩) rfl T' k N'
  exact h v need' h' tk' h₀' ht hp T₁ B₁ F₁ N₁

end
section
open PySem PySem.W PySem.W.X PySem.Calls PySem.Spec PyProof.Rows

noncomputable def ReadBack (s : Shared) (v : Value) (Q : Value → Shared → Prop) : Prop := ∀ tk', Q v { s with toks := tk' }
theorem ReadBack.fin {s : Shared} {v : Value} {Q : Value → Shared → Prop} {tk' : Nat} (H : ReadBack s v Q) : Q v ⟨s.heap, s.gens, s.drawn, tk', s.os⟩ := H tk'

theorem ga153 (P : Params) : findIn (hd.heap_1 P) (.ref 153) "__getattribute__" = some (some (.builtin "BaseException.__getattribute__")) := by k_is
theorem gh153 (P : Params) : findIn (hd.heap_1 P) (.ref 153) "__getattr__" = some none := by k_is

theorem get_own {w : World} {A : Around} {s : Shared} {Q : Value → Shared → Prop} {E : Value → Shared → Prop} {e : Addr} {ob : Obj} {name : Str} {k : Int} {t : Nat}
    (KX : (hd.heap_1 w.params).In s.heap) (he : s.heap.get? e = some ob) (hc : ob.cls = .ref 153)
    (h : ∀ tn E', wpAny (model PR w) A (call (.builtin "BaseException.__getattribute__") [.ref e, .str name tn]) (fun v s' => ∃ k t, v = .int k t ∧ Q v s') E' { s with toks := s.toks + 1 }) :
    wpAny (model PR w) A (getAttr (.ref e) name true) Q E s := by
  have hty : Looks (model PR w) s.heap (typeOf (.ref e)) (.ref 153) := hc ▸ (Looks.ld he).andThen .now
  unfold getAttr
  refine wpAny_bind (wpAny_mkText ?_)
  unfold getAttrBy
  refine wpAny_holding (wpAny_bind (hty.here (s := { s with toks := s.toks + 1 }) ?_))
  refine wpAny_bind ((looks_findIn KX (ga153 _)).here (s := { s with toks := s.toks + 1 }) ?_)
  dsimp only
  rw [if_neg (by decide)]
  unfold getAttrByItsOwn hookBefore
  simp only [onTheHeap, if_true]
  refine wpAny_bind ((looks_findIn KX (gh153 _)).here (s := { s with toks := s.toks + 1 }) ?_)
  refine wpAny_bind (wpAny_attempt (wpAny_holding ?_))
  unfold callGetattribute
  simp only [onTheHeap, Bool.and_false, if_false]
  unfold boundAndCalled bindSpecial
  refine wpAny_bind (wpAny_bind ?_)
  have htf : typeOf (.builtin "BaseException.__getattribute__") = pure (.type "wrapper_descriptor") := by rfl
  rw [htf]
  refine wpAny_pure ?_
  rw [if_pos (by decide)]
  refine wpAny_pure ?_
  refine wpAny_mono (h s.toks _) (fun v s' hv => ?_) (fun _ _ x => x)
  obtain ⟨k, t, rfl, hq⟩ := hv
  exact wpAny_pure hq
local macro_rules | `(tactic| x_close) => `(tactic| (first | exact ReadBack.fin (by assumption) | (trace_state; fail "no end")))

theorem get_code {p : Program} {w : World} {env : List Env} {s : Shared} {Q : Value → Shared → Prop} {E : Value → Shared → Prop} {e d : Addr} {vs : Array Value} {sl sl' : Array (Option Value)} {h1 h2 h3 : Int} {k1 k2 k3 : Nat} {a b c : Int} {ta tb tc tn : Nat}
    (KX : (hd.heap_1 w.params).In s.heap) (he : s.heap.get? e = some ⟨.ref 153, some d, .fields vs, sl⟩) (hd : s.heap.get? d = some ⟨.type "dict", none, .dict (refEntries h1 h2 h3 k1 k2 k3 a b c ta tb tc) 3, #[]⟩)
    (hret : ReadBack s (.int a ta) Q) :
    wpAny (model p w) ({ handled := some (.ref e), depth := 305, frames := some env, guards := some [], units := 16 } : Around) (call (.builtin "BaseException.__getattribute__") [.ref e, .str (Str.ofString "smtp_code") tn]) Q E s := by
  x_run

theorem get_error {p : Program} {w : World} {env : List Env} {s : Shared} {Q : Value → Shared → Prop} {E : Value → Shared → Prop} {e d : Addr} {vs : Array Value} {sl sl' : Array (Option Value)} {h1 h2 h3 : Int} {k1 k2 k3 : Nat} {a b c : Int} {ta tb tc tn : Nat}
    (KX : (hd.heap_1 w.params).In s.heap) (he : s.heap.get? e = some ⟨.ref 153, some d, .fields vs, sl⟩) (hd : s.heap.get? d = some ⟨.type "dict", none, .dict (refEntries h1 h2 h3 k1 k2 k3 a b c ta tb tc) 3, #[]⟩)
    (hret : ReadBack s (.int b tb) Q) :
    wpAny (model p w) ({ handled := some (.ref e), depth := 305, frames := some env, guards := some [], units := 16 } : Around) (call (.builtin "BaseException.__getattribute__") [.ref e, .str (Str.ofString "smtp_error") tn]) Q E s := by
  x_run

theorem get_sender {p : Program} {w : World} {env : List Env} {s : Shared} {Q : Value → Shared → Prop} {E : Value → Shared → Prop} {e d : Addr} {vs : Array Value} {sl sl' : Array (Option Value)} {h1 h2 h3 : Int} {k1 k2 k3 : Nat} {a b c : Int} {ta tb tc tn : Nat}
    (KX : (hd.heap_1 w.params).In s.heap) (he : s.heap.get? e = some ⟨.ref 153, some d, .fields vs, sl⟩) (hd : s.heap.get? d = some ⟨.type "dict", none, .dict (refEntries h1 h2 h3 k1 k2 k3 a b c ta tb tc) 3, #[]⟩)
    (hret : ReadBack s (.int c tc) Q) :
    wpAny (model p w) ({ handled := some (.ref e), depth := 305, frames := some env, guards := some [], units := 16 } : Around) (call (.builtin "BaseException.__getattribute__") [.ref e, .str (Str.ofString "sender") tn]) Q E s := by
  x_run

theorem read_smtp_code {w : World} {A₀ : Around} {outer : List Env} {L fa : Addr} {cn : Str} {cs : Scope} {cd : Value} {s : Shared} {Q : Value → Shared → Prop} {E : Value → Shared → Prop} {e d L₀ : Addr} {oe : Obj} {vs : Array Value} {h1 h2 h3 : Int} {k1 k2 k3 : Nat} {a b c : Int} {ta tb tc : Nat} {base g : Heap} {m : Str → Option Value} {news : List (Addr × Obj)}
    (XB : (hd.heap_1 w.params).In base) (B : Below A₀ base outer g) (F : Fr g L₀ s.heap m) (N : News g L₀ s.heap news) (he : (e, oe) ∈ news) (hdd : (d, refDict h1 h2 h3 k1 k2 k3 a b c ta tb tc) ∈ news)
    (hc : oe.cls = .ref 153) (hdi : oe.dict = some d) (hda : oe.data = .fields vs)
    (hret : ∀ tk', Q (.int a ta) { s with toks := tk' }) :
    wpAny (model PR w) (((ar 304 13 (some []) outer).deeper (envOf cn cs L fa cd)).mark (some (.ref e))) (getAttr (.ref e) (Str.ofString "smtp_code") true) Q E s := by
  have X : (hd.heap_1 w.params).In s.heap := (XB.keeps B.stays).keeps F.keep
  have h1 := (N _ he).1
  have h2 := (N _ hdd).1
  obtain ⟨c', d', da', sl'⟩ := oe
  dsimp only at hc hdi hda h1
  subst hc hdi hda
  refine get_own (k := 0) (t := 0) X h1 rfl fun tn E' => ?_
  exact get_code (s := { s with toks := s.toks + 1 }) (sl' := sl') X h1 h2 fun tk' => ⟨_, _, rfl, hret tk'⟩

theorem read_smtp_error {w : World} {A₀ : Around} {outer : List Env} {L fa : Addr} {cn : Str} {cs : Scope} {cd : Value} {s : Shared} {Q : Value → Shared → Prop} {E : Value → Shared → Prop} {e d L₀ : Addr} {oe : Obj} {vs : Array Value} {h1 h2 h3 : Int} {k1 k2 k3 : Nat} {a b c : Int} {ta tb tc : Nat} {base g : Heap} {m : Str → Option Value} {news : List (Addr × Obj)}
    (XB : (hd.heap_1 w.params).In base) (B : Below A₀ base outer g) (F : Fr g L₀ s.heap m) (N : News g L₀ s.heap news) (he : (e, oe) ∈ news) (hdd : (d, refDict h1 h2 h3 k1 k2 k3 a b c ta tb tc) ∈ news)
    (hc : oe.cls = .ref 153) (hdi : oe.dict = some d) (hda : oe.data = .fields vs)
    (hret : ∀ tk', Q (.int b tb) { s with toks := tk' }) :
    wpAny (model PR w) (((ar 304 13 (some []) outer).deeper (envOf cn cs L fa cd)).mark (some (.ref e))) (getAttr (.ref e) (Str.ofString "smtp_error") true) Q E s := by
  have X : (hd.heap_1 w.params).In s.heap := (XB.keeps B.stays).keeps F.keep
  have h1 := (N _ he).1
  have h2 := (N _ hdd).1
  obtain ⟨c', d', da', sl'⟩ := oe
  dsimp only at hc hdi hda h1
  subst hc hdi hda
  refine get_own (k := 0) (t := 0) X h1 rfl fun tn E' => ?_
  exact get_error (s := { s with toks := s.toks + 1 }) (sl' := sl') X h1 h2 fun tk' => ⟨_, _, rfl, hret tk'⟩

theorem read_sender {w : World} {A₀ : Around} {outer : List Env} {L fa : Addr} {cn : Str} {cs : Scope} {cd : Value} {s : Shared} {Q : Value → Shared → Prop} {E : Value → Shared → Prop} {e d L₀ : Addr} {oe : Obj} {vs : Array Value} {h1 h2 h3 : Int} {k1 k2 k3 : Nat} {a b c : Int} {ta tb tc : Nat} {base g : Heap} {m : Str → Option Value} {news : List (Addr × Obj)}
    (XB : (hd.heap_1 w.params).In base) (B : Below A₀ base outer g) (F : Fr g L₀ s.heap m) (N : News g L₀ s.heap news) (he : (e, oe) ∈ news) (hdd : (d, refDict h1 h2 h3 k1 k2 k3 a b c ta tb tc) ∈ news)
    (hc : oe.cls = .ref 153) (hdi : oe.dict = some d) (hda : oe.data = .fields vs)
    (hret : ∀ tk', Q (.int c tc) { s with toks := tk' }) :
    wpAny (model PR w) (((ar 304 13 (some []) outer).deeper (envOf cn cs L fa cd)).mark (some (.ref e))) (getAttr (.ref e) (Str.ofString "sender") true) Q E s := by
  have X : (hd.heap_1 w.params).In s.heap := (XB.keeps B.stays).keeps F.keep
  have h1 := (N _ he).1
  have h2 := (N _ hdd).1
  obtain ⟨c', d', da', sl'⟩ := oe
  dsimp only at hc hdi hda h1
  subst hc hdi hda
  refine get_own (k := 0) (t := 0) X h1 rfl fun tn E' => ?_
  exact get_sender (s := { s with toks := s.toks + 1 }) (sl' := sl') X h1 h2 fun tk' => ⟨_, _, rfl, hret tk'⟩

end
section
local macro_rules | `(tactic| walk_at "my pad") => `(tactic| skip)
open PySem PySem.W PySem.Calls PySem.Spec PyProof.Rows


local macro_rules | `(tactic| walk_at $s:str) => if ["getAttr ref"].contains s.getString then `(tactic| (refine hold_of ?_)) else Lean.Macro.throwUnsupported

local macro_rules | `(tactic| walk_at "call ref") => `(tactic| ((with_reducible show wpAny _ _ (call (Value.ref 174) _) _ _ _); refine hold_of ?_))


theorem way_free {w : World} {l : Addr} {vs : List Value} {ns : List Int} {n : Nat} {who goal : Int} {tw tg : Nat} (hi : IntsAre vs ns) (hz : ns.length < 2 ^ 20) (h0 : 0 ≤ who) (h1 : who.toNat < vs.length) (hno : (ns.any fun x => x == goal) = false) :
    SaysS w 304 13 181 [.ref l, .int who tw, .int goal tg] (fun _ _ => True) [(l, listOf vs.toArray n)] (fun _ _ v need' => (∃ t : Nat, v = .int (-1) t) ∧ need' = [(l, listOf (vs.set who.toNat (.int goal tg)).toArray n)]) := by
  intro mean mg mb outer base g s R S N hpre hret
  have B := S.below
  have KX := S.frag
  have T := S.top
  have XB := S.frag0
  have TB := S.top0
  have hd : 304 + 60 < recursionLimit := by decide
  have hu : 13 + 200 < cLine := by decide
  refine codeAny_hold_toks ?_
  refine' enter (binds := [(Str.ofString "looks", .ref l), (Str.ofString "who", .int who tw), (Str.ofString "goal", .int goal tg)]) S N ?k6 ?k7 ?k8 ?k9 ?kB ?_ ?c2 ?c3 ?c4 ?c5
  case k6 => k_is
  case k7 => k_is
  case k8 => decide
  case k9 => exact BindsTo.of_eq rfl
  case kB => exact locs rfl
  case c2 => exact rfl
  case c3 => exact rfl
  case c4 => exact rfl
  case c5 => decide
  intro L' h' F' N'
  try dsimp only
  k_fold
  k_steps
  apply Hold.out
  refine (look_free (n := n) (tw := tw) (tg := tg) hi hz h0 h1 hno).call [] B (by assumption) XB (by assumption) TB rfl (fun p hp => hp) (fun p hp => nomatch hp) (fun p hp => nomatch hp) (fun _ _ _ => trivial) (by show 304 + 1 + 15 < recursionLimit; decide) (by show 13 + 3 + 80 < cLine; decide) ?_
  rintro v need' h' tk' ht ⟨rfl, rfl⟩ F' N'
  dsimp only
  k_steps
  apply Hold.out
  intro htoks
  exact hret _ _ _ _ g htoks ⟨⟨_, rfl⟩, rfl⟩ KtsTurn.refl B (Fr.keep (by assumption)) (newsG_of (by assumption))

theorem call_look_blocked {w : World} {l : Addr} {vs : List Value} {ns : List Int} {n : Nat} {who goal : Int} {tw tg : Nat} {j : Nat} (hi : IntsAre vs ns) (hz : ns.length < 2 ^ 20) (h1 : Told vs ns goal tg) (h3 : tg ≠ 0) (h4 : ns[j]? = some goal) (h5 : ∀ k, k < j → ns[k]? ≠ some goal)
    {mean : ExcName → Option Value} {mg mb : Str → Option Value} {outer : List Env} {A₀ : Around} {base h₀ : Heap} {L : Addr} {m : Str → Option Value}
    {cn : Str} {cs : Scope} {a : Addr} {ccd : Value} {cl : List (Str × Addr)} {s : Shared} {Q E : Value → Shared → Prop}
    (B : Below A₀ base outer h₀) (F : Fr h₀ L s.heap m) (X : (hd.heap_1 w.params).In base) (N : News h₀ L s.heap [(l, listOf vs.toArray n)]) (T : Top VW LO mean mg mb base) (hk : cs.kind = .function)
    (h : ∀ e d G h' tk' (tj : Nat) q1 q2 q3 k1 k2 k3, Fr h₀ L G m → Thrown base G (envX cn cs L a ccd cl :: outer) e 153 d [(l, listOf vs.toArray n), (d, refDict q1 q2 q3 k1 k2 k3 who goal j tw tg tj)] h' → E (.ref e) { s with heap := h', toks := tk' }) :
    wpAny (model PR w) (ar 305 16 (some []) (envX cn cs L a ccd cl :: outer)) (call (.ref 174) [.ref l, .int who tw, .int goal tg]) Q E s := by
  obtain ⟨G, S₁, NG, st, _, FG, _⟩ := site_of (dp := 305) (un := 16) (gd := some []) (env := envX cn cs L a ccd cl) B F X T N (rest := []) (fun _ h => nomatch h) (fun _ h => nomatch h) rfl hk
  exact wpAny_call (look_blocked (tw := tw) hi hz h1 h3 h4 h5 S₁ NG fun e d h2 tk2 tj q1 q2 q3 k1 k2 k3 hthr => h e d G h2 tk2 tj q1 q2 q3 k1 k2 k3 FG hthr)


theorem way_blocked {w : World} {l : Addr} {vs : List Value} {ns : List Int} {n : Nat} {who goal : Int} {tw tg : Nat} {j : Nat} (hi : IntsAre vs ns) (hz : ns.length < 2 ^ 20) (h1 : Told vs ns goal tg) (h3 : tg ≠ 0) (h4 : ns[j]? = some goal) (h5 : ∀ k, k < j → ns[k]? ≠ some goal) :
    SaysS w 304 13 181 [.ref l, .int who tw, .int goal tg] (fun _ _ => True) [(l, listOf vs.toArray n)] (fun _ _ v need' => (∃ t : Nat, v = .int (j : Nat) t) ∧ need' = [(l, listOf vs.toArray n)]) := by
  intro mean mg mb outer base g s R S N hpre hret
  have B := S.below
  have KX := S.frag
  have T := S.top
  have XB := S.frag0
  have TB := S.top0
  have hd : 304 + 60 < recursionLimit := by decide
  have hu : 13 + 200 < cLine := by decide
  refine codeAny_hold_toks ?_
  refine' enter (binds := [(Str.ofString "looks", .ref l), (Str.ofString "who", .int who tw), (Str.ofString "goal", .int goal tg)]) S N ?k6 ?k7 ?k8 ?k9 ?kB ?_ ?c2 ?c3 ?c4 ?c5
  case k6 => k_is
  case k7 => k_is
  case k8 => decide
  case k9 => exact BindsTo.of_eq rfl
  case kB => exact locs rfl
  case c2 => exact rfl
  case c3 => exact rfl
  case c4 => exact rfl
  case c5 => decide
  intro L' h' F' N'
  try dsimp only
  k_fold
  k_steps
  apply Hold.out
  rename Fr g L' _ _ => F₁
  rename News g L' _ _ => N₁
  refine call_look_blocked (tw := tw) hi hz h1 h3 h4 h5 B F₁ XB N₁ TB rfl ?_
  intro e d G h2 tk2 tj q1 q2 q3 k1 k2 k3 FG hthr
  refine catch_thrown hthr FG B XB TB (by k_is) (kts153 _) ?_
  intro h3 g3 tk3 oe vs3 T3 B3 F3 N3 hcls hdict hdata
  have XBg := XB
  obtain ⟨co, dicto, dato, slo⟩ := oe
  dsimp only at hcls hdict hdata
  subst hcls hdict hdata
  dsimp only
  k_steps
  apply Hold.out
  rename Fr g3 L' _ _ => F4
  rename News g3 L' _ _ => N4
  refine read_smtp_code XB B3 F4 N4 (.head _) (.tail _ (.tail _ (.head _))) rfl rfl rfl ?_
  intro tkg
  dsimp only
  k_steps
  apply Hold.out
  rename Fr g3 L' _ _ => F5
  rename News g3 L' _ _ => N5
  refine read_smtp_error XB B3 F5 N5 (.head _) (.tail _ (.tail _ (.head _))) rfl rfl rfl ?_
  intro tkg2
  dsimp only
  k_steps
  apply Hold.out
  rename Fr g3 L' _ _ => F6
  rename News g3 L' _ _ => N6
  refine read_sender XB B3 F6 N6 (by k_mem) (by k_mem) rfl rfl rfl ?_
  intro tkg3
  dsimp only
  k_steps
  rename Fr g3 L' _ _ => F7
  rename News g3 L' _ _ => N7
  refine wpAny_nameGoes_keeps rfl F7.ns rfl fun h8 v8 _ S8 => ?_
  k_unfold
  dsimp only
  apply Hold.out
  intro htoks
  refine hret _ _ _ _ g3 htoks ⟨⟨_, rfl⟩, rfl⟩ T3 B3 (fun b o q => ?_) (fun q hq => ?_)
  · exact (S8.2 b (fun z => by have q2 := kts_self F7; rw [show L' = b from z.symm, q] at q2; cases q2)).trans (F7.keep b o q)
  · have hq' : q = (l, listOf vs.toArray n) := List.mem_singleton.mp hq
    subst hq'
    have z := N7 (l, listOf vs.toArray n) (by k_mem)
    exact ⟨(S8.2 _ z.2.1).trans z.1, z.2.2⟩

end
section
open PySem PySem.W PySem.Calls PySem.Spec PyProof.Rows

/-- a call that needs one made object: the ledger keeps its order -/
theorem SaysS.callU {w : World} {dp un : Nat} {f : Addr} {vs : List Value} {Pre : Heap → Nat → Prop} {d : Addr} {o o' : Obj} {Post : Nat → Nat → Value → List (Addr × Obj) → Prop} {P : Nat → Value → Prop} (C : SaysS w dp un f vs Pre [(d, o)] Post)
    {mean : ExcName → Option Value} {mg mb : Str → Option Value} {outer : List Env} {A₀ : Around} {base h₀ : Heap} {L : Addr} {m : Str → Option Value} {news news' : List (Addr × Obj)}
    {cn : Str} {cs : Scope} {a : Addr} {ccd : Value} {cl : List (Str × Addr)} {s : Shared} {Q E : Value → Shared → Prop}
    (hP : ∀ tk v need', Post s.toks tk v need' → P tk v ∧ need' = [(d, o')]) (U : Upd d o o' news news')
    (B : Below A₀ base outer h₀) (F : Fr h₀ L s.heap m) (X : (hd.heap_1 w.params).In base) (N : News h₀ L s.heap news) (T : Top VW LO mean mg mb base) (hk : cs.kind = .function)
    (hpre : ∀ g, Pre g s.toks)
    (h : ∀ v h' tk' h₀', s.toks ≤ tk' → P tk' v → KtsTurn (outer.filterMap (·.frame)) h₀ h₀' → Below A₀ base outer h₀' → Fr h₀' L h' m → News h₀' L h' news' → Q v { s with heap := h', toks := tk' }) :
    wpAny (model PR w) (ar dp un (some []) (envX cn cs L a ccd cl :: outer)) (PySem.call (.ref f) vs) Q E s := by
  obtain ⟨pre, post, rfl, rfl, a1, b1⟩ := U.split
  refine C.call (pre ++ post) B F X N T hk ?_ ?_ ?_ (fun g _ _ => hpre g) ?_
  · intro p hp
    rw [List.mem_singleton.mp hp]
    exact List.mem_append_right _ (.head _)
  · intro p hp
    rcases List.mem_append.mp hp with hp | hp
    · exact List.mem_append_left _ hp
    · exact List.mem_append_right _ (.tail _ hp)
  · intro p hp q hq
    rw [List.mem_singleton.mp hq]
    rcases List.mem_append.mp hp with hp | hp
    · exact a1 p hp
    · exact b1 p hp
  · intro v need' h' tk' h₀' ht hp T' B' F' N'
    obtain ⟨h1, rfl⟩ := hP _ _ _ hp
    refine h v h' tk' h₀' ht h1 T' B' F' fun p hp => N' p ?_
    rcases List.mem_append.mp hp with hp | hp
    · exact List.mem_append_right _ (List.mem_append_left _ hp)
    · rcases List.mem_cons.mp hp with rfl | hp
      · exact .head _
      · exact List.mem_append_right _ (List.mem_append_right _ hp)

section
variable {w : World} {mean : ExcName → Option Value} {mg mb : Str → Option Value} {outer : List Env} {A₀ : Around} {base h₀ : Heap} {L : Addr} {m : Str → Option Value} {news news' : List (Addr × Obj)}
    {cn : Str} {cs : Scope} {a : Addr} {ccd : Value} {cl : List (Str × Addr)} {s : Shared} {Q E : Value → Shared → Prop} {l : Addr} {vs : List Value} {ns : List Int} {n : Nat}

theorem call_way_free {who : Nat} {goal : Int} {tw tg tk : Nat} (hF : Fresh tk vs ns) (hz : ns.length < 2 ^ 20) (h1 : who < vs.length) (hno : ns.findIdx? (fun x => x == goal) = none)
    (B : Below A₀ base outer h₀) (F : Fr h₀ L s.heap m) (X : (hd.heap_1 w.params).In base) (N : News h₀ L s.heap news) (T : Top VW LO mean mg mb base) (hk : cs.kind = .function)
    (U : Upd l (listOf vs.toArray n) (listOf (vs.set who (.int goal tg)).toArray n) news news')
    (h : ∀ (t : Nat) h' tk' h₀', s.toks ≤ tk' → KtsTurn (outer.filterMap (·.frame)) h₀ h₀' → Below A₀ base outer h₀' → Fr h₀' L h' m → News h₀' L h' news' → Q (.int (-1) t) { s with heap := h', toks := tk' }) :
    wpAny (model PR w) (ar 304 13 (some []) (envX cn cs L a ccd cl :: outer)) (PySem.call (.ref 181) [.ref l, .int (who : Nat) tw, .int goal tg]) Q E s :=
  (way_free (n := n) (tw := tw) (tg := tg) hF.1 hz (Int.natCast_nonneg _) h1 (find_none hno)).callU (P := fun _ v => ∃ t : Nat, v = .int (-1) t) (fun _ _ _ hp => hp) U B F X N T hk (fun _ => trivial)
    (by rintro v h' tk' h₀' ht ⟨t, rfl⟩ T' B' F' N'; exact h t h' tk' h₀' ht T' B' F' N')

theorem call_way_blocked {who : Nat} {goal : Int} {tw tg tk : Nat} {j : Nat} (hF : Fresh tk vs ns) (hz : ns.length < 2 ^ 20) (h1 : tk ≤ tg) (h3 : tg ≠ 0) (hno : ns.findIdx? (fun x => x == goal) = some j)
    (B : Below A₀ base outer h₀) (F : Fr h₀ L s.heap m) (X : (hd.heap_1 w.params).In base) (N : News h₀ L s.heap news) (T : Top VW LO mean mg mb base) (hk : cs.kind = .function)
    (U : Upd l (listOf vs.toArray n) (listOf vs.toArray n) news news')
    (h : ∀ (t : Nat) h' tk' h₀', s.toks ≤ tk' → KtsTurn (outer.filterMap (·.frame)) h₀ h₀' → Below A₀ base outer h₀' → Fr h₀' L h' m → News h₀' L h' news' → Q (.int (j : Nat) t) { s with heap := h', toks := tk' }) :
    wpAny (model PR w) (ar 304 13 (some []) (envX cn cs L a ccd cl :: outer)) (PySem.call (.ref 181) [.ref l, .int (who : Nat) tw, .int goal tg]) Q E s :=
  (way_blocked (n := n) (tw := tw) (tg := tg) (j := j) hF.1 hz (hF.told h1) h3 (find_some hno).1 (find_some hno).2.1).callU (P := fun _ v => ∃ t : Nat, v = .int (j : Nat) t) (fun _ _ _ hp => hp) U B F X N T hk (fun _ => trivial)
    (by rintro v h' tk' h₀' ht ⟨t, rfl⟩ T' B' F' N'; exact h t h' tk' h₀' ht T' B' F' N')
end

end
section
open PySem PySem.W PySem.Calls PySem.Spec PyProof.Rows

noncomputable abbrev rangeObj (n : Int) (t u v : Tok) : Obj := { cls := .type "range", dict := none, data := .fields #[.int 0 t, .int n u, .int 1 v], slots := #[] }
noncomputable abbrev rangeIt (x left : Int) : Obj := { cls := .type "range_iterator", dict := none, data := .fields #[rawInt x, rawInt left, rawInt 1], slots := #[] }

noncomputable def RangeReady (g : Heap) (L : Addr) (m : Str → Option Value) (news : List (Addr × Obj)) (n : Nat) (s : Shared) (xv : Value) (s₁ : Shared) : Prop :=
  ∃ h tk r t u v, s₁ = { s with heap := h, toks := tk } ∧ xv = .ref r ∧ s.toks ≤ tk ∧ Fr g L h m ∧ News g L h ((r, rangeObj n t u v) :: news)

section
variable {prog : Program} {w : World} {A : Around} {E : Value → Shared → Prop} {s : Shared}

theorem range_ready {g : Heap} {L : Addr} {m : Str → Option Value} {news : List (Addr × Obj)} {n : Nat} {t : Tok} {s₀ : Shared} {k : Int} (F : Fr g L s.heap m) (N : News g L s.heap news) (hk : k = (n : Int))
    (hs : ∃ tk h, s₀.toks ≤ tk ∧ s = { s₀ with heap := h, toks := tk }) :
    wpAny (model prog w) A (call (.type "range") [.int k t]) (RangeReady g L m news n s₀) E s := by
  subst hk
  obtain ⟨F0, N0, hne⟩ := News.pushed F N (rangeObj n s.toks t (s.toks + 1)) rfl
  refine call_range_1 ?_
  obtain ⟨tk, h, ht, rfl⟩ := hs
  exact ⟨_, _, _, _, _, _, rfl, rfl, Nat.le_trans ht (Nat.le_trans (Nat.le_succ _) (Nat.le_succ _)), F0, N0⟩

theorem RangeReady.of {g : Heap} {L : Addr} {m : Str → Option Value} {news : List (Addr × Obj)} {n : Nat} {s : Shared} {h : Heap} {tk : Nat} {r : Addr} {k a : Int} {t u v : Tok} (F : Fr g L h m)
    (N : News g L h ((r, { cls := .type "range", dict := none, data := .fields #[.int a t, .int k u, .int 1 v], slots := #[] }) :: news)) (ha : a = 0) (hk : k = (n : Int)) (ht : s.toks ≤ tk) : RangeReady g L m news n s (.ref r) ⟨h, s.gens, s.drawn, tk, s.os⟩ := by
  subst hk ha
  exact ⟨_, _, _, _, _, _, rfl, rfl, ht, F, N⟩

theorem for_range {env : Env} {g : Heap} {m : Str → Option Value} {news : List (Addr × Obj)} {y : Str} {n : Nat} {px pos : Pos} {iter : Expr} {body : List Stmt} {Q : Flow → Shared → Prop}
    (G : Heap → Prop) (J : Nat → Nat → (Str → Option Value) → List (Addr × Obj) → Prop)
    (hh : A.handled = none) (hx : env.kindOf y = some .local) (hp : (env.scope.kind == .class || (env.scope.kind == .module && env.locals != env.globals)) = false)
    (hE : PassesOwn (model prog w) A env E) (hs : ∀ x, foldedSetIterable iter env x = pure x) (hG : G g) (hn : n < 2 ^ 20) (_F : Fr g env.locals s.heap m) (_N : News g env.locals s.heap news)
    (he : wpAny (model prog w) A (eval iter env) (RangeReady g env.locals m news n s) E s)
    (hJ : ∀ tk, s.toks ≤ tk → J 0 tk m news)
    (turn : ∀ i g' m₁ h tk it o news', i < n → J i tk m₁ news' → G g' → Fr g' env.locals h (fun z => if z = y then some (.int (i : Nat) tk) else m₁ z) → News g' env.locals h ((it, o) :: news') → (∀ p ∈ news', p.1 ≠ it) →
      wpAny (model prog w) A (execs body env) (fun f s₃ => match f with
        | .next | .cont => Hold (∃ g'' h' tk' m' news'', s₃ = { s with heap := h', toks := tk' } ∧ G g'' ∧ Fr g'' env.locals h' m' ∧ News g'' env.locals h' ((it, o) :: news'') ∧ (∀ p ∈ news'', p.1 ≠ it) ∧ J (i + 1) tk' m' news'')
        | .brk => Q .next s₃
        | .ret v => Q (.ret v) s₃) E { s with heap := h, toks := tk + 1 + 1 })
    (done : ∀ g' m₁ h tk news', J n tk m₁ news' → G g' → Fr g' env.locals h m₁ → News g' env.locals h news' → Q .next { s with heap := h, toks := tk }) :
    wpAny (model prog w) A (exec (.For (.Name y px) iter body [] pos) env) Q E s := by
  refine for_inv hx hp hE hs (wpAny_mono he (fun xv s₁ h₁ => ?_) fun _ _ e => e)
  obtain ⟨h₀, tk₀, r, t, u, v, rfl, rfl, htk₀, F, N⟩ := h₁
  refine wpAny_pyIter_range (N _ (.head _)).1 (small_one (by decide) (by decide) (by omega) (by omega)) ?_
  obtain ⟨F0, N0, hne⟩ := News.pushed F N (rangeIt 0 (Builtin.Range.rangeSize 0 n 1)) rfl
  have hsz : Builtin.Range.rangeSize 0 n 1 = (n : Int) := by rw [rangeSize_one]; split <;> omega
  dsimp only
  generalize h₀.objs.size = it at N0 hne
  have N1 : News g env.locals _ ((it, rangeIt 0 (Builtin.Range.rangeSize 0 n 1)) :: news) := news_sub N0 fun p hp => (List.mem_cons.mp hp).elim (fun z => z ▸ .head _) fun z => .tail _ (.tail _ z)
  rw [hsz] at N1 F0 ⊢
  refine ⟨fun k s' => ∃ (g' h' : Heap) (tk' : Nat) (m' : Str → Option Value) (news' : List (Addr × Obj)) (i : Nat), s' = { s with heap := h', toks := tk' } ∧ i ≤ n ∧ k = n - i ∧ G g' ∧ Fr g' env.locals h' m' ∧
    News g' env.locals h' ((it, rangeIt i (n - i)) :: news') ∧ (∀ p ∈ news', p.1 ≠ it) ∧ J i tk' m' news', n, ⟨g, _, tk₀, m, news, 0, rfl, Nat.zero_le _, rfl, hG, F0, by simpa using N1, fun p hp => hne p (.tail _ hp), hJ _ htk₀⟩, ?_⟩
  rintro k s' ⟨g', h', tk', m', news', i, rfl, hi, rfl, G', F', N', hne', hJ'⟩
  have hit := (N' _ (.head _)).1
  have hitL : it ≠ env.locals := (N' _ (.head _)).2.1
  have hitg : g'.get? it = none := (N' _ (.head _)).2.2
  by_cases hlt : i < n
  · refine wpAny_pyNext_range_item hit (by omega) fun h₁ hit₁ hs₁ => ?_
    have F₁ : Fr g' env.locals h₁ m' := F'.change hs₁ hitL hitg
    have N₁ : News g' env.locals h₁ ((it, rangeIt (i + 1) (n - i - 1)) :: news') := by
      intro p hp
      rcases List.mem_cons.mp hp with rfl | hp
      · exact ⟨hit₁, hitL, hitg⟩
      · exact ⟨(hs₁.2 p.1 (hne' p hp)).trans (N' p (.tail _ hp)).1, (N' p (.tail _ hp)).2⟩
    refine wpAny_storeName_local hx F₁.ns (fun h₂ hn₂ hs₂ => ?_) hp
    refine wpAny_mono (turn i g' m' h₂ tk' it _ news' hlt hJ' G' (F₁.set hn₂ hs₂) (N₁.set hs₂) hne') (fun f s₃ h₃ => ?_) fun _ _ e => e
    have fin : (∃ g'' h' tk' m' news'', s₃ = { s with heap := h', toks := tk' } ∧ G g'' ∧ Fr g'' env.locals h' m' ∧ News g'' env.locals h' ((it, rangeIt (i + 1) (n - i - 1)) :: news'') ∧ (∀ p ∈ news'', p.1 ≠ it) ∧ J (i + 1) tk' m' news'') →
        ∃ k', k' < n - i ∧ (∃ (g' h' : Heap) (tk' : Nat) (m' : Str → Option Value) (news' : List (Addr × Obj)) (i : Nat), s₃ = { s with heap := h', toks := tk' } ∧ i ≤ n ∧ k' = n - i ∧ G g' ∧ Fr g' env.locals h' m' ∧
          News g' env.locals h' ((it, rangeIt i (n - i)) :: news') ∧ (∀ p ∈ news', p.1 ≠ it) ∧ J i tk' m' news') := by
      rintro ⟨g₄, h₄, tk₄, m₄, news₄, rfl, G₄, F₄, N₄, hne₄, hJ₄⟩
      refine ⟨n - (i + 1), by omega, g₄, h₄, tk₄, m₄, news₄, i + 1, rfl, hlt, rfl, G₄, F₄, ?_, hne₄, hJ₄⟩
      have e1 : ((i + 1 : Nat) : Int) = i + 1 := by omega
      have e2 : (n : Int) - ((i + 1 : Nat) : Int) = n - i - 1 := by omega
      rw [e2, e1]
      exact N₄
    cases f with
    | ret v => exact h₃
    | brk => exact h₃
    | next => exact fin h₃
    | cont => exact fin h₃
  · have hin : i = n := by omega
    subst hin
    refine wpAny_pyNext_range_end hh hit (by omega) fun h₁ he₁ => ?_
    have N₁ : News g' env.locals h₁ news' := fun p hp => ⟨he₁ _ _ (hne' p hp) (N' p (.tail _ hp)).1, (N' p (.tail _ hp)).2⟩
    exact done g' m' h₁ _ news' hJ' G' ⟨F'.ns.at' fun o e => he₁ _ o (Ne.symm hitL) e, fun b o e => he₁ b o (fun q => by rw [q, hitg] at e; cases e) (F'.keep b o e), F'.above⟩ N₁
end

end
section
open PySem PySem.W PySem.Calls PySem.Spec PyProof.Rows

theorem kf_ints_of {vs : List Value} {ns : List Int} (h : IntsAre vs ns) : kf_ints vs = true := by
  induction h with
  | nil => rfl
  | cons n0 t0 h ih => exact ih
theorem kf_at_of {k : Int} {vs : List Value} {ns : List Int} (h : IntsAre vs ns) : kf_at k vs = ns.findIdx? (fun x => x == k) := by
  induction h with
  | nil => rfl
  | cons n0 t0 h ih =>
    rw [List.findIdx?_cons]
    show cond (n0 == k) (some 0) (match kf_at k _ with | some j => some (j + 1) | none => none) = _
    rw [ih]
    cases n0 == k
    · simp only [cond_false, Bool.false_eq_true, if_false]
      cases List.findIdx? _ _ <;> rfl
    · rfl

section
variable {prog : Program} {w : World} {A : Around} {E : Value → Shared → Prop} {s : Shared} {g : Heap} {L : Addr} {news : List (Addr × Obj)} {l : Addr} {vs : List Value} {c : Nat} {m : Str → Option Value}

theorem my_index {ns : List Int} {k : Int} {t : Tok} {j : Nat} {Q : Value → Shared → Prop} (N : News g L s.heap news) (hm : (l, listOf vs.toArray c) ∈ news) (hi : IntsAre vs ns) (hf : ns.findIdx? (fun x => x == k) = some j) (hz : ns.length < 2 ^ 20)
    (h : Q (.int (j : Nat) s.toks) { s with toks := s.toks + 1 }) : wpAny (model prog w) A (call (.builtin "list.index") [.ref l, .int k t]) Q E s :=
  kf_index N hm (by simpa using kf_ints_of hi) (by simpa [kf_at_of hi] using hf) rfl (by have := hi.length; simp; unfold sizeLine; omega) h

theorem my_item {value slice : PySem.Expr} {k : Int} {u : Tok} {v : Value} {Q : Value → Shared → Prop} (N : News g L s.heap news) (hm : (l, listOf vs.toArray c) ∈ news)
    (h0 : 0 ≤ k) (hhi : k < 2 ^ 63) (hx : vs[k.toNat]? = some v) (h : Q v s) 
    (hs : subscripted slice false (.ref l) (.int k u) = operate [.ref l, .int k u] (getItem (.ref l) (.int k u)) := by with_unfolding_all rfl) :
    wpAny (model prog w) A (subscriptTail value slice (.ref l) (.int k u)) Q E s :=
  item_list ⟨_, (N _ hm).1, rfl, _, rfl⟩ h0 hhi hx h hs

theorem my_listOf {Q : Value → Shared → Prop} (F : Fr g L s.heap m) (N : News g L s.heap news) (hb : (l, listOf vs.toArray c) ∈ news)
    (h : ∀ D c h', Fr g L h' m → News g L h' ((D, listOf vs.toArray c) :: news) → (∀ q ∈ news, q.1 < D) → Q (.ref D) { s with heap := h' }) (hz : vs.length < 2 ^ 20) : wpAny (model prog w) A (call (.type "list") [.ref l]) Q E s :=
  kup_listOf F N hb (by simp) h (by simp; unfold sizeLine; omega)
end

/-- the mirror, as a plain function -/
noncomputable def mirr (n : Nat) (S L : List Int) (taker giver : Nat) (M : Int) : Nat → List Int → Int → List Int × Int
  | 0, T, p => (T, p)
  | f + 1, T, p =>
    match L.findIdx? (fun x => x == (M - p) % n) with
    | none => (T, p)
    | some k => if k = taker ∨ k = giver then (T, p) else mirr n S L taker giver M f (T.set k p) (S.getD k 0)

noncomputable def mirrored (n : Nat) (C S L : List Int) (taker giver : Nat) : List Int :=
  (mirr n S L taker giver (S.getD taker 0 + C.getD taker 0 + S.getD giver 0) n S (S.getD giver 0)).1.set giver (mirr n S L taker giver (S.getD taker 0 + C.getD taker 0 + S.getD giver 0) n S (S.getD giver 0)).2

end
section
local macro_rules | `(tactic| walk_at "my item") => `(tactic| (k_dflt (refine' my_item ?N ?m ?h0 ?h1 ?hx ?_; (case N => k_asm); (case m => first | with_reducible assumption | k_mem); (case h0 => first | omega | decide); (case h1 => first | omega | decide); (case hx => first | assumption | exact rfl))))
local macro_rules | `(tactic| walk_at "call builtin:len") => `(tactic| (k_here; (with_reducible show wpAny _ _ (call (Value.builtin "len") [Value.ref _]) _ _ _); k_dflt (refine' my_len ?N ?m ?k ?z ?_; (case N => k_asm); (case m => k_mem); (case k => ((try simp only [List.length_set]); assumption)); (case z => omega))))
local macro_rules | `(tactic| walk_at "call type:range") => `(tactic| (refine hold_of ?_))
local macro_rules | `(tactic| walk_at "call builtin:list.append") => `(tactic| (k_here; (with_reducible show wpAny _ _ (call (Value.builtin _) [Value.ref _, _]) _ _ _); k_dflt (refine' append_K ?k1 ?k2 ?k3 ?_ ?z; (case k1 => k_asm); (case k2 => k_asm); (case k3 => k_upd); (case z => first | assumption | size_fits); k_whole); intro h9 F9 N9; (try dsimp only); (try k_sweep)))

section
open PySem PySem.W PySem.Calls PySem.Spec PyProof.Rows


local macro_rules | `(tactic| walk_at "call ref") => `(tactic| ((with_reducible show wpAny _ _ (call (Value.ref 181) _) _ _ _); refine hold_of ?_))


noncomputable def MendInv (w : World) (n nl ns nc tg : Nat) (c s l q : Addr) (giver : Nat) (cvs : List Value) (C S L : List Int) (taker : Nat) (i tk : Nat) (m : Str → Option Value) (news : List (Addr × Obj)) : Prop :=
  ∃ lvs' svs' gvs' L' S' G older newer who to tn tw gn, m (Str.ofString "coins") = some (.ref c) ∧ m (Str.ofString "seats") = some (.ref s) ∧ m (Str.ofString "looks") = some (.ref l) ∧ m (Str.ofString "giver") = some (.int (giver : Nat) tg) ∧
    m (Str.ofString "gone") = some (.ref q) ∧ m (Str.ofString "older") = some (.int older to) ∧ m (Str.ofString "newer") = some (.int newer tn) ∧ m (Str.ofString "who") = some (.int (who : Nat) tw) ∧
    news = [(q, listOf (gvs' : List Value).toArray gn), (c, listOf cvs.toArray nc), (s, listOf (svs' : List Value).toArray ns), (l, listOf (lvs' : List Value).toArray nl)] ∧
    IntsAre svs' S' ∧ S'.length = n ∧ Fresh tk lvs' L' ∧ L'.length = n ∧ who < n ∧ IntsAre gvs' (G.map Int.ofNat) ∧ G.length = i + 2 ∧ mend n C giver (n - i) S' L' G older newer who = mended n C S L taker giver
theorem MendInv.elim {w : World} {n nl ns nc tg : Nat} {c s l q : Addr} {giver : Nat} {cvs : List Value} {C S L : List Int} {taker : Nat} {i tk : Nat} {m : Str → Option Value} {news : List (Addr × Obj)} {P : Prop} (H : MendInv w n nl ns nc tg c s l q giver cvs C S L taker i tk m news) (k : ∀ lvs' svs' gvs' L' S' G older newer who to tn tw gn, (m (Str.ofString "coins") = some (.ref c)) → (m (Str.ofString "seats") = some (.ref s)) → (m (Str.ofString "looks") = some (.ref l)) → (m (Str.ofString "giver") = some (.int (giver : Nat) tg)) → (m (Str.ofString "gone") = some (.ref q)) → (m (Str.ofString "older") = some (.int older to)) → (m (Str.ofString "newer") = some (.int newer tn)) → (m (Str.ofString "who") = some (.int (who : Nat) tw)) → (news = [(q, listOf (gvs' : List Value).toArray gn), (c, listOf cvs.toArray nc), (s, listOf (svs' : List Value).toArray ns), (l, listOf (lvs' : List Value).toArray nl)]) → (IntsAre svs' S') → (S'.length = n) → (Fresh tk lvs' L') → (L'.length = n) → (who < n) → (IntsAre gvs' (G.map Int.ofNat)) → (G.length = i + 2) → (mend n C giver (n - i) S' L' G older newer who = mended n C S L taker giver) → P) : P := by
  obtain ⟨lvs', svs', gvs', L', S', G, older, newer, who, to, tn, tw, gn, h0_, h1_, h2_, h3_, h4_, h5_, h6_, h7_, h8_, h9_, h10_, h11_, h12_, h13_, h14_, h15_, h16_⟩ := H
  exact k _ _ _ _ _ _ _ _ _ _ _ _ _ h0_ h1_ h2_ h3_ h4_ h5_ h6_ h7_ h8_ h9_ h10_ h11_ h12_ h13_ h14_ h15_ h16_
theorem MendInv.intro {w : World} {n nl ns nc tg : Nat} {c s l q : Addr} {giver : Nat} {cvs : List Value} {C S L : List Int} {taker : Nat} {i tk : Nat} {m : Str → Option Value} {news : List (Addr × Obj)} : ∀ lvs' svs' gvs' L' S' G older newer who to tn tw gn, (m (Str.ofString "coins") = some (.ref c)) → (m (Str.ofString "seats") = some (.ref s)) → (m (Str.ofString "looks") = some (.ref l)) → (m (Str.ofString "giver") = some (.int (giver : Nat) tg)) → (m (Str.ofString "gone") = some (.ref q)) → (m (Str.ofString "older") = some (.int older to)) → (m (Str.ofString "newer") = some (.int newer tn)) → (m (Str.ofString "who") = some (.int (who : Nat) tw)) → (news = [(q, listOf (gvs' : List Value).toArray gn), (c, listOf cvs.toArray nc), (s, listOf (svs' : List Value).toArray ns), (l, listOf (lvs' : List Value).toArray nl)]) → (IntsAre svs' S') → (S'.length = n) → (Fresh tk lvs' L') → (L'.length = n) → (who < n) → (IntsAre gvs' (G.map Int.ofNat)) → (G.length = i + 2) → (mend n C giver (n - i) S' L' G older newer who = mended n C S L taker giver) → MendInv w n nl ns nc tg c s l q giver cvs C S L taker i tk m news :=
  fun lvs' svs' gvs' L' S' G older newer who to tn tw gn h0_ h1_ h2_ h3_ h4_ h5_ h6_ h7_ h8_ h9_ h10_ h11_ h12_ h13_ h14_ h15_ h16_ => ⟨lvs', svs', gvs', L', S', G, older, newer, who, to, tn, tw, gn, h0_, h1_, h2_, h3_, h4_, h5_, h6_, h7_, h8_, h9_, h10_, h11_, h12_, h13_, h14_, h15_, h16_⟩

theorem mended_says {w : World} {c s l : Addr} {cvs svs lvs : List Value} {C S L : List Int} {nc ns nl n tk0 : Nat} {taker giver : Nat} {tt tg : Nat} (hcs : c ≠ s) (hsl : s ≠ l) (hcl : c ≠ l)
    (hC : IntsAre cvs C) (hS : IntsAre svs S) (hL : Fresh tk0 lvs L) (h5 : C.length = n) (h6 : S.length = n) (h7 : L.length = n) (hn8 : n < 200) (hn9 : taker < n) (hn10 : giver < n) (hn0 : 0 < n) :
    SaysS w 303 10 188 [.ref c, .ref s, .ref l, .int (taker : Nat) tt, .int (giver : Nat) tg] (fun _ tk => tk0 ≤ tk) [(c, listOf cvs.toArray nc), (s, listOf svs.toArray ns), (l, listOf lvs.toArray nl)]
      (fun _ tk' v need' => v = .bool (mended n C S L taker giver).1 ∧ ∃ svs' lvs', need' = [(c, listOf cvs.toArray nc), (s, listOf svs'.toArray ns), (l, listOf lvs'.toArray nl)] ∧ IntsAre svs' (mended n C S L taker giver).2.1 ∧ Fresh tk' lvs' (mended n C S L taker giver).2.2) := by
  intro mean mg mb outer base g s' R St N hpre hret
  have B := St.below
  have KX := St.frag
  have T := St.top
  have XB := St.frag0
  have TB := St.top0
  have hd : 303 + 60 < recursionLimit := by decide
  have hu : 10 + 300 < cLine := by decide
  obtain ⟨ncs, nsl, ncl⟩ := (⟨neN hcs, neN hsl, neN hcl⟩ : _ ∧ _ ∧ _)
  have lC := hC.length
  have hsn0 : svs.length = n := by rw [hS.length]; exact h6
  have lS := hS.length
  have lL := hL.1.length
  obtain ⟨ta, hta⟩ := ints_at hS (show S[taker]? = some (S.getD taker 0) by rw [List.getD_eq_getElem?_getD, List.getElem?_eq_getElem (by omega)]; rfl)
  obtain ⟨tb, htb⟩ := ints_at hS (show S[giver]? = some (S.getD giver 0) by rw [List.getD_eq_getElem?_getD, List.getElem?_eq_getElem (by omega)]; rfl)
  refine codeAny_hold_toks ?_
  refine' enter (binds := [(Str.ofString "coins", .ref c), (Str.ofString "seats", .ref s), (Str.ofString "looks", .ref l), (Str.ofString "taker", .int taker tt), (Str.ofString "giver", .int giver tg)]) St N ?k6 ?k7 ?k8 ?k9 ?kB ?_ ?c2 ?c3 ?c4 ?c5
  case k6 => k_is
  case k7 => k_is
  case k8 => decide
  case k9 => exact BindsTo.of_eq rfl
  case kB => exact locs rfl
  case c2 => exact rfl
  case c3 => exact rfl
  case c4 => exact rfl
  case c5 => decide
  intro L' h' F' N'
  try dsimp only
  k_fold
  k_steps
  apply Hold.out
  rename Fr g L' _ _ => F1
  rename News g L' _ _ => N1
  rename_i k1 k2 q k3 lq k4 k5 k6 k7 k8 k9 k10 k11 k12 k13 k14 k15 k16 tk3 k17 k18 tk4 ht4 k19 tk5 ht5 k20 tk6 htk6
  refine' for_range (n := n) (fun g' => KtsTurn (outer.filterMap (·.frame)) g g' ∧ Below (ar 303 10 (some []) outer) base outer g') (MendInv w n nl ns nc tg c s l q giver cvs C S L taker) ?hh ?hx ?hp ?hE ?hs ⟨KtsTurn.refl, B⟩ ?hn F1 N1 ?he ?hJ ?turn ?done
  case hh => rfl
  case hx => rfl
  case hp => rfl
  case hE => passes_own
  case hs => intro _; rfl
  case hn => omega
  case he =>
    k_steps
    apply Hold.out
    exact range_ready (by assumption) (by assumption) (by omega) ⟨_, _, by dsimp only at *; omega, rfl⟩
  case hJ =>
    intro tk htk
    dsimp only at *
    refine MendInv.intro _ _ _ ((L.set taker (-1)).set giver (-1)) S ([taker, giver]) (S.getD taker 0) (S.getD giver 0) taker ta tb tt 0 rfl rfl rfl rfl rfl rfl rfl rfl rfl hS h6 ?_ (by simp [h7]) hn9 (.cons _ _ (.cons _ _ .nil)) rfl rfl
    exact ((hL.mono (by omega)).set (by omega) (by omega) rfl).set (by omega) (by omega) rfl
  case turn =>
    clear hta htb lS lL hsn0 N hS h6 h7 hpre St KX T B N1 F1 htk6 ht5 ht4 k2 k6 k9 k12 k15 k17
    intro i g1 m₁ h tk it o news₁ hin hJ ⟨T1, B1⟩ F₁ N₁ hne
    (try k_fold)
    refine hJ.elim ?_
    clear hJ
    rintro lvs' svs' gvs' L₁ S₁ G older newer who to tn tw gn e1 e2 e3 e4 e5 e6 e7 e8 rfl hS₁ hl1 hL₁ hl2 hw hG hg hm
    have lC := hC.length
    obtain ⟨ncs, nsl, ncl⟩ := (⟨neN hcs, neN hsl, neN hcl⟩ : _ ∧ _ ∧ _)
    have lS₁ := hS₁.length
    have lL₁ := hL₁.1.length
    have hsn : svs'.length = n := by omega
    obtain ⟨tc, htc⟩ := ints_at hC (show C[who]? = some (C.getD who 0) by rw [List.getD_eq_getElem?_getD, List.getElem?_eq_getElem (by omega)]; rfl)
    have hqc := neN (show q ≠ c from Nat.ne_of_gt lq.1)
    have hqs := neN (show q ≠ s from Nat.ne_of_gt lq.2.1)
    have hql := neN (show q ≠ l from Nat.ne_of_gt lq.2.2)
    have hiq := neN (show q ≠ it from hne _ (.head _))
    have hic := neN (show c ≠ it from hne _ (.tail _ (.head _)))
    have his := neN (show s ≠ it from hne _ (.tail _ (.tail _ (.head _))))
    have hil := neN (show l ≠ it from hne _ (.tail _ (.tail _ (.tail _ (.head _)))))
    have KX1 := XB.keeps B1.stays
    have TX1 := TB.keeps B1.stays
    try dsimp only
    (try k_fold)
    have hgo : 0 ≤ (older + C.getD who 0) % (n : Int) ∧ (older + C.getD who 0) % (n : Int) < n := ⟨Int.emod_nonneg _ (by omega), Int.emod_lt_of_pos _ (by omega)⟩
    have hgn : 0 ≤ (newer + C.getD giver 0) % (n : Int) ∧ (newer + C.getD giver 0) % (n : Int) < n := ⟨Int.emod_nonneg _ (by omega), Int.emod_lt_of_pos _ (by omega)⟩
    obtain ⟨td, htd⟩ := ints_at hC (show C[giver]? = some (C.getD giver 0) by rw [List.getD_eq_getElem?_getD, List.getElem?_eq_getElem (by omega)]; rfl)
    have hS2 : IntsAre (svs'.set (Int.toNat (who : Nat)) (.int older to)) (S₁.set who older) := ints_set hS₁
    have hS3 : IntsAre ((svs'.set (Int.toNat (who : Nat)) (.int older to)).set (Int.toNat (giver : Nat)) (.int newer tn)) ((S₁.set who older).set giver newer) := ints_set hS2
    k_steps
    apply Hold.out
    rename_i t9 h9 tk9 ht9 ht9b h10 tk10 ht10 h11 tk11 ht11 F11 N11
    have hn1 : n - i = (n - (i + 1)) + 1 := by omega
    rw [hn1] at hm
    cases hf : L₁.findIdx? (fun x => x == (older + C.getD who 0) % n) with
    | none =>
      refine call_way_free (n := nl) hL₁ (by omega) (by omega) hf B1 F11 XB N11 TB rfl (by k_upd) ?_
      intro t12 h12 tk12 g2 ht12 T2 B2 F12 N12
      clear KX1 TX1 F11 N11
      have KX2 := XB.keeps B2.stays
      have TX2 := TB.keeps B2.stays
      dsimp only
      k_steps
      apply Hold.out
      rename_i t13 h13 tk13 ht13 ht13b h14 F13 N13 tk14 htk14
      have hL2 : Fresh t13 (lvs'.set who (.int ((older + C.getD who 0) % (n : Int)) t9)) (L₁.set who ((older + C.getD who 0) % (n : Int))) := (hL₁.mono (by dsimp only at *; omega)).set (by omega) (by dsimp only at *; omega) (small_mod hn0 hn8)
      cases hf2 : (L₁.set who ((older + C.getD who 0) % n)).findIdx? (fun x => x == (newer + C.getD giver 0) % n) with
      | none =>
        refine call_way_free (n := nl) hL2 (by simp; omega) (by simp; omega) hf2 B2 F13 XB N13 TB rfl (by k_upd) ?_
        intro t15 h15 tk15 g3 ht15 T3 B3 F15 N15
        clear KX2 TX2 F13 N13
        have KX3 := XB.keeps B3.stays
        have TX3 := TB.keeps B3.stays
        dsimp only
        k_steps
        apply Hold.out
        intro htoks
        have hme : mended n C S L taker giver = (true, (S₁.set who older).set giver newer, (L₁.set who ((older + C.getD who 0) % n)).set giver ((newer + C.getD giver 0) % n)) := by
          rw [← hm]; exact mend_none_none hf hf2
        rw [hme] at hret
        refine hret _ _ _ _ g3 htoks ⟨rfl, _, _, rfl, hS3, ?_⟩ ((T1.trans T2).trans T3) B3 (Fr.keep F15) (NewsG.sub (newsG_of N15) fun p hp => .tail _ (.tail _ hp))
        exact ((hL2.mono (by dsimp only at *; omega)).set (by omega) (by dsimp only at *; omega) (small_mod hn0 hn8))
      | some b2 =>
        refine call_way_blocked (n := nl) hL2 (by simp; omega) (Nat.le_refl _) (by omega) hf2 B2 F13 XB N13 TB rfl (by k_upd) ?_
        intro t15 h15 tk15 g3 ht15 T3 B3 F15 N15
        clear KX2 TX2 F13 N13
        have KX3 := XB.keeps B3.stays
        have TX3 := TB.keeps B3.stays
        dsimp only
        k_steps
        apply Hold.out
        intro htoks
        have hme : mended n C S L taker giver = (false, (S₁.set who older).set giver newer, L₁.set who ((older + C.getD who 0) % n)) := by
          rw [← hm]; exact mend_none_some hf hf2
        rw [hme] at hret
        have hb : (((b2 : Nat) : Int) == -1) = false := by simp
        rw [hb]
        exact hret _ _ _ _ g3 htoks ⟨rfl, _, _, rfl, hS3, hL2.mono (by dsimp only at *; omega)⟩ ((T1.trans T2).trans T3) B3 (Fr.keep F15) (NewsG.sub (newsG_of N15) fun p hp => .tail _ (.tail _ hp))
    | some b =>
      have hbl : b < n := by have := (find_some hf).2.2; omega
      obtain ⟨te, hte⟩ := ints_at hS2 (show (S₁.set who older)[b]? = some ((S₁.set who older).getD b 0) by rw [List.getD_eq_getElem?_getD, List.getElem?_eq_getElem (by simp; omega)]; rfl)
      have hGl : (G.map Int.ofNat).length < 2 ^ 20 := by simp; omega
      have hgv : gvs'.toArray.size ≤ sizeLine := by have := hG.length; simp at this ⊢; unfold sizeLine; omega
      refine call_way_blocked (n := nl) hL₁ (by omega) (by dsimp only at *; omega) (by omega) hf B1 F11 XB N11 TB rfl (by k_upd) ?_
      intro t12 h12 tk12 g2 ht12 T2 B2 F12 N12
      clear KX1 TX1 F11 N11
      have KX2 := XB.keeps B2.stays
      have TX2 := TB.keeps B2.stays
      have hb : (((b : Nat) : Int) == -1) = false := by simp
      dsimp only
      k_steps
      · dsimp only
        apply Hold.out
        intro htoks
        have hme : mended n C S L taker giver = (false, S₁.set who older, L₁) := by
          rw [← hm]; exact mend_in hf (in_of (by assumption))
        rw [hme] at hret
        exact hret _ _ _ _ g2 htoks ⟨rfl, _, _, rfl, hS2, hL₁.mono (by dsimp only at *; omega)⟩ (T1.trans T2) B2 (Fr.keep (by assumption)) (NewsG.sub (newsG_of (by assumption)) fun p hp => .tail _ (.tail _ hp))
      · (try dsimp only)
        (try k_unfold)
        (try dsimp only)
        apply Hold.out
        rw [mend_some hf (not_in_of (by assumption))] at hm
        rename Fr g2 L' _ _ => F20
        rename News g2 L' _ _ => N20
        have hpush : gvs'.toArray.push (Value.int (b : Nat) t12) = (gvs' ++ [Value.int (b : Nat) t12]).toArray := List.push_toArray _ _
        rw [hpush] at N20
        refine ⟨g2, _, _, _, _, rfl, ⟨T1.trans T2, B2⟩, F20, N20, List.forall_mem_cons.mpr ⟨hiq, List.forall_mem_cons.mpr ⟨hic, List.forall_mem_cons.mpr ⟨his, List.forall_mem_cons.mpr ⟨hil, List.forall_mem_nil _⟩⟩⟩⟩, ?_⟩
        refine MendInv.intro _ _ _ ((L₁.set b (-1)).set who ((older + C.getD who 0) % n)) (S₁.set who older) (G ++ [b]) newer ((S₁.set who older).getD b 0) b tn te t12 (gn + 1) (by repeat (first | with_reducible assumption | exact if_pos rfl | exact rfl | refine upd_ne (by decide) ?_)) (by repeat (first | with_reducible assumption | exact if_pos rfl | exact rfl | refine upd_ne (by decide) ?_)) (by repeat (first | with_reducible assumption | exact if_pos rfl | exact rfl | refine upd_ne (by decide) ?_)) (by repeat (first | with_reducible assumption | exact if_pos rfl | exact rfl | refine upd_ne (by decide) ?_)) (by repeat (first | with_reducible assumption | exact if_pos rfl | exact rfl | refine upd_ne (by decide) ?_)) (by repeat (first | with_reducible assumption | exact if_pos rfl | exact rfl | refine upd_ne (by decide) ?_)) (by repeat (first | with_reducible assumption | exact if_pos rfl | exact rfl | refine upd_ne (by decide) ?_)) (by repeat (first | with_reducible assumption | exact if_pos rfl | exact rfl | refine upd_ne (by decide) ?_)) rfl hS2 (by simp [hl1]) ?_ (by simp [hl2]) hbl ?_ (by simp [hg]) hm
        · exact ((hL₁.mono (by dsimp only at *; omega)).set (by omega) (by dsimp only at *; omega) rfl).set (by omega) (by dsimp only at *; omega) (small_mod hn0 hn8)
        · rw [List.map_append]
          exact hG.append (.cons _ _ .nil)
  case done =>
    intro g1 m₁ h tk news₁ hJ ⟨T1, B1⟩ F₁ N₁
    (try k_fold)
    refine hJ.elim ?_
    clear hJ
    rintro lvs' svs' gvs' L₁ S₁ G older newer who to tn tw gn e1 e2 e3 e4 e5 e6 e7 e8 rfl hS₁ hl1 hL₁ hl2 hw hG hg hm
    have KX1 := XB.keeps B1.stays
    have TX1 := TB.keeps B1.stays
    try dsimp only
    k_steps
    apply Hold.out
    intro htoks
    have hme : mended n C S L taker giver = (false, S₁, L₁) := by
      rw [← hm, Nat.sub_self, mend]
    rw [hme] at hret
    exact hret _ _ _ _ g1 htoks ⟨rfl, _, _, rfl, hS₁, hL₁.mono (by dsimp only at *; omega)⟩ T1 B1 (Fr.keep (by assumption)) (NewsG.sub (newsG_of (by assumption)) fun p hp => .tail _ hp)

end
section
open PySem PySem.W PySem.Calls PySem.Spec PyProof.Rows


local macro_rules | `(tactic| walk_at "subscriptTail Name") => `(tactic| (k_here; (with_reducible show wpAny _ _ (subscriptTail _ _ (Value.ref _) (Value.int _ _)) _ _ _); walk_at "my item"))
local macro_rules | `(tactic| walk_at "call type:list") => `(tactic| (k_here; (with_reducible show wpAny _ _ (call (Value.type _) [Value.ref _]) _ _ _); k_dflt (refine' my_listOf ?F ?N ?b ?_ ?z; (case F => k_asm); (case N => k_asm); (case b => k_mem); (case z => omega)); intro q9 c9 h9 F9 N9 l9; (try dsimp only); (try k_sweep)))
local macro_rules | `(tactic| walk_at "call builtin:list.index") => `(tactic| (k_here; (with_reducible show wpAny _ _ (call (Value.builtin _) [Value.ref _, Value.int _ _]) _ _ _); refine hold_of ?_))

noncomputable def MirrAt (xc xs xl q : Addr) (nc ns nl tc : Nat) (cvs svs lvs : List Value) (taker giver : Nat) (tt tg : Nat) (M : Int) (n : Nat) (T : List Int) (p : Int) (m : Str → Option Value) (news : List (Addr × Obj)) : Prop :=
  ∃ tp tm tvs, m (Str.ofString "seats") = some (.ref xs) ∧ m (Str.ofString "looks") = some (.ref xl) ∧ m (Str.ofString "taker") = some (.int (taker : Nat) tt) ∧ m (Str.ofString "giver") = some (.int (giver : Nat) tg) ∧ m (Str.ofString "told") = some (.ref q) ∧
    m (Str.ofString "mirror") = some (.int M tm) ∧ m (Str.ofString "place") = some (.int p tp) ∧ news = [(q, listOf (tvs : List Value).toArray tc), (xc, listOf cvs.toArray nc), (xs, listOf svs.toArray ns), (xl, listOf lvs.toArray nl)] ∧ IntsAre tvs T ∧ T.length = n

theorem mirrored_says {w : World} {xc xs xl : Addr} {cvs svs lvs : List Value} {CC SS LL : List Int} {nc ns nl n : Nat} {taker giver : Nat} {tt tg : Nat} (hC : IntsAre cvs CC) (hS : IntsAre svs SS) (hL : IntsAre lvs LL) (h5 : CC.length = n) (h6 : SS.length = n) (h7 : LL.length = n) (hn8 : n < 200) (hn9 : taker < n) (hn10 : giver < n) (hn0 : 0 < n) (hp : ∀ x : Int, 0 ≤ x → x < n → LL.findIdx? (fun y => y == x) ≠ none) :
    Says w 8 120 195 [.ref xc, .ref xs, .ref xl, .int (taker : Nat) tt, .int (giver : Nat) tg] (fun g tk₀ => True) [(xc, listOf cvs.toArray nc), (xs, listOf svs.toArray ns), (xl, listOf lvs.toArray nl)] (fun tk₀ tk₁ v need' => ∃ q tvs tc, v = .ref q ∧ need' = [(q, listOf (tvs : List Value).toArray tc), (xc, listOf cvs.toArray nc), (xs, listOf svs.toArray ns), (xl, listOf lvs.toArray nl)] ∧ IntsAre tvs (mirrored n CC SS LL taker giver) ∧ @LT.lt Nat _ xc q ∧ @LT.lt Nat _ xs q ∧ @LT.lt Nat _ xl q) := by
  intro mean mg mb dp un gd outer base g s R S N hpre hd hu hret
  have B := S.below
  have KX := S.frag
  have T := S.top
  have XB := S.frag0
  have TB := S.top0

  refine codeAny_hold_toks ?_
  refine' enter (binds := [(Str.ofString "coins", .ref xc), (Str.ofString "seats", .ref xs), (Str.ofString "looks", .ref xl), (Str.ofString "taker", .int taker tt), (Str.ofString "giver", .int giver tg)]) S N ?k6 ?k7 ?k8 ?k9 ?kB ?_ ?c2 ?c3 ?c4 ?c5
  case k6 => k_is
  case k7 => k_is
  case k8 => k_room
  case k9 => exact BindsTo.of_eq rfl
  case kB => exact locs rfl
  case c2 => exact rfl
  case c3 => exact rfl
  case c4 => exact rfl
  case c5 => decide
  intro L' h' F' N'
  try dsimp only
  k_fold
  have lC := hC.length
  have lS := hS.length
  have lL := hL.length
  obtain ⟨ta, hta⟩ := ints_at hS (show SS[taker]? = some (SS.getD taker 0) by rw [List.getD_eq_getElem?_getD, List.getElem?_eq_getElem (by omega)]; rfl)
  obtain ⟨tb, htb⟩ := ints_at hS (show SS[giver]? = some (SS.getD giver 0) by rw [List.getD_eq_getElem?_getD, List.getElem?_eq_getElem (by omega)]; rfl)
  obtain ⟨tc, htc⟩ := ints_at hC (show CC[taker]? = some (CC.getD taker 0) by rw [List.getD_eq_getElem?_getD, List.getElem?_eq_getElem (by omega)]; rfl)
  k_steps
  apply Hold.out
  rename Fr g L' _ _ => F1
  rename News g L' _ _ => N1
  rename_i q c9 k1 lq k2 k3 k4 k5 k6 k7 k8 k9 k10 k11 k12 tk6 htk6
  have hcq : @LT.lt Nat _ xc q := lq _ (.head _)
  have hsq : @LT.lt Nat _ xs q := lq _ (.tail _ (.head _))
  have hlq : @LT.lt Nat _ xl q := lq _ (.tail _ (.tail _ (.head _)))
  clear lq
  refine wpAny_mono (Q := fun f s₃ => Hold (f = .next ∧ ∃ h tk m₁ news₁ T p, s₃ = ⟨h, s.gens, s.drawn, tk, s.os⟩ ∧ Fr g L' h m₁ ∧ News g L' h news₁ ∧ MirrAt xc xs xl q nc ns nl c9 cvs svs lvs taker giver tt tg (SS.getD taker 0 + CC.getD taker 0 + SS.getD giver 0) n T p m₁ news₁ ∧ mirr n SS LL taker giver (SS.getD taker 0 + CC.getD taker 0 + SS.getD giver 0) n SS (SS.getD giver 0) = (T, p))) ?loop ?rest (fun _ _ e => e)
  case rest =>
    rintro f s₃ ⟨rfl, H⟩
    (try dsimp only)
    (try k_fold)
    refine ex6 H fun h tk m₁ news₁ T₁ p H1 => an5 H1 fun z1 F₁ N₁ HM hm => ex3 HM fun tp tm tvs H2 => an10 H2 fun e1 e2 e3 e4 e5 e6 e7 z2 hT hlT => ?_
    clear H H1 HM H2
    subst z1 z2
    (try dsimp only)
    have lT := hT.length
    k_steps
    dsimp only
    apply Hold.out
    intro htoks
    refine hret _ _ _ _ htoks ⟨q, _, c9, rfl, rfl, ?_, hcq, hsq, hlq⟩ (Fr.keep (by assumption)) (newsG_of (by assumption))
    unfold mirrored
    rw [hm]
    exact ints_set hT
  case loop =>
    refine' for_range (n := n) (fun g' => g' = g) (fun i tk m news => ∃ T p, MirrAt xc xs xl q nc ns nl c9 cvs svs lvs taker giver tt tg (SS.getD taker 0 + CC.getD taker 0 + SS.getD giver 0) n T p m news ∧ mirr n SS LL taker giver (SS.getD taker 0 + CC.getD taker 0 + SS.getD giver 0) n SS (SS.getD giver 0) = mirr n SS LL taker giver (SS.getD taker 0 + CC.getD taker 0 + SS.getD giver 0) (n - i) T p) ?hh ?hx ?hp ?hE ?hs rfl ?hn F1 N1 ?he ?hJ ?turn ?done
    case hh => rfl
    case hx => rfl
    case hp => rfl
    case hE => passes_own
    case hs => intro _; rfl
    case hn => omega
    case he =>
      k_steps
      apply Hold.out
      exact range_ready (by assumption) (by assumption) (by omega) ⟨_, _, by dsimp only at *; omega, rfl⟩
    case hJ =>
      intro tk htk
      exact ⟨SS, SS.getD giver 0, ⟨_, _, _, rfl, rfl, rfl, rfl, rfl, rfl, rfl, rfl, hS, h6⟩, rfl⟩
    case done =>
      rintro g1 m₁ h tk news₁ ⟨T₁, p, hM, hm⟩ rfl F₁ N₁
      rw [Nat.sub_self] at hm
      exact ⟨rfl, h, tk, m₁, news₁, T₁, p, rfl, F₁, N₁, hM, hm⟩
    case turn =>
      clear hta htb htc
      rintro i g1 m₁ h tk it o news₁ hin ⟨T₁, p, HM, hm⟩ rfl F₁ N₁ hne
      (try dsimp only)
      (try k_fold)
      refine ex3 HM fun tp tm tvs H2 => an10 H2 fun e1 e2 e3 e4 e5 e6 e7 z2 hT hlT => ?_
      clear HM H2
      subst z2
      have hiq := neN (show q ≠ it from hne _ (.head _))
      have hn1 : n - i = (n - (i + 1)) + 1 := by omega
      rw [hn1] at hm
      have lT := hT.length
      (try dsimp only)
      k_steps
      apply Hold.out
      rename Fr g1 L' _ _ => F2
      rename News g1 L' _ _ => N2
      rw [h6, Int.fmod_eq_emod_of_nonneg _ (show (0 : Int) ≤ (n : Nat) by omega)]
      cases hf : LL.findIdx? (fun x => x == ((SS.getD taker 0 + CC.getD taker 0 + SS.getD giver 0) - p) % n) with
      | none => exact absurd hf (hp _ (Int.emod_nonneg _ (by omega)) (Int.emod_lt_of_pos _ (by omega)))
      | some k =>
        have hk := (find_some hf).2.2
        obtain ⟨td, htd⟩ := ints_at hS (show SS[k]? = some (SS.getD k 0) by rw [List.getD_eq_getElem?_getD, List.getElem?_eq_getElem (by omega)]; rfl)
        refine my_index N2 (by k_mem) hL hf (by omega) ?_
        (try dsimp only)
        k_steps
        · (try dsimp only)
          (try k_unfold)
          (try dsimp only)
          apply Hold.out
          have hkt : k = taker := by omega
          have hmm : mirr n SS LL taker giver (SS.getD taker 0 + CC.getD taker 0 + SS.getD giver 0) (n - (i + 1) + 1) T₁ p = (T₁, p) := by
            simp only [mirr, hf, hkt, true_or, or_true, if_true]
          rw [hmm] at hm
          exact ⟨(by first | rfl | trivial), _, _, _, _, T₁, p, rfl, by assumption, news_sub (by assumption) (fun p hp => .tail _ hp), ⟨tp, tm, tvs, by repeat (first | with_reducible assumption | exact if_pos rfl | exact rfl | refine upd_ne (by decide) ?_), by repeat (first | with_reducible assumption | exact if_pos rfl | exact rfl | refine upd_ne (by decide) ?_), by repeat (first | with_reducible assumption | exact if_pos rfl | exact rfl | refine upd_ne (by decide) ?_), by repeat (first | with_reducible assumption | exact if_pos rfl | exact rfl | refine upd_ne (by decide) ?_), by repeat (first | with_reducible assumption | exact if_pos rfl | exact rfl | refine upd_ne (by decide) ?_), by repeat (first | with_reducible assumption | exact if_pos rfl | exact rfl | refine upd_ne (by decide) ?_), by repeat (first | with_reducible assumption | exact if_pos rfl | exact rfl | refine upd_ne (by decide) ?_), rfl, hT, hlT⟩, hm⟩
        · (try dsimp only)
          (try k_unfold)
          (try dsimp only)
          apply Hold.out
          have hkt : k = giver := by omega
          have hmm : mirr n SS LL taker giver (SS.getD taker 0 + CC.getD taker 0 + SS.getD giver 0) (n - (i + 1) + 1) T₁ p = (T₁, p) := by
            simp only [mirr, hf, hkt, true_or, or_true, if_true]
          rw [hmm] at hm
          exact ⟨(by first | rfl | trivial), _, _, _, _, T₁, p, rfl, by assumption, news_sub (by assumption) (fun p hp => .tail _ hp), ⟨tp, tm, tvs, by repeat (first | with_reducible assumption | exact if_pos rfl | exact rfl | refine upd_ne (by decide) ?_), by repeat (first | with_reducible assumption | exact if_pos rfl | exact rfl | refine upd_ne (by decide) ?_), by repeat (first | with_reducible assumption | exact if_pos rfl | exact rfl | refine upd_ne (by decide) ?_), by repeat (first | with_reducible assumption | exact if_pos rfl | exact rfl | refine upd_ne (by decide) ?_), by repeat (first | with_reducible assumption | exact if_pos rfl | exact rfl | refine upd_ne (by decide) ?_), by repeat (first | with_reducible assumption | exact if_pos rfl | exact rfl | refine upd_ne (by decide) ?_), by repeat (first | with_reducible assumption | exact if_pos rfl | exact rfl | refine upd_ne (by decide) ?_), rfl, hT, hlT⟩, hm⟩
        · (try dsimp only)
          (try k_unfold)
          (try dsimp only)
          apply Hold.out
          have hmm : mirr n SS LL taker giver (SS.getD taker 0 + CC.getD taker 0 + SS.getD giver 0) (n - (i + 1) + 1) T₁ p = mirr n SS LL taker giver (SS.getD taker 0 + CC.getD taker 0 + SS.getD giver 0) (n - (i + 1)) (T₁.set k p) (SS.getD k 0) := by
            have h1 : k ≠ taker := by omega
            have h2 : k ≠ giver := by omega
            simp only [mirr, hf, h1, h2, or_self, if_false]
          rw [hmm] at hm
          rename Fr g1 L' _ _ => F20
          rename News g1 L' _ _ => N20
          refine ⟨g1, _, _, _, _, rfl, rfl, F20, N20, List.forall_mem_cons.mpr ⟨hiq, fun p hp => hne p (.tail _ hp)⟩, T₁.set k p, SS.getD k 0, ⟨_, tm, _, by repeat (first | with_reducible assumption | exact if_pos rfl | exact rfl | refine upd_ne (by decide) ?_), by repeat (first | with_reducible assumption | exact if_pos rfl | exact rfl | refine upd_ne (by decide) ?_), by repeat (first | with_reducible assumption | exact if_pos rfl | exact rfl | refine upd_ne (by decide) ?_), by repeat (first | with_reducible assumption | exact if_pos rfl | exact rfl | refine upd_ne (by decide) ?_), by repeat (first | with_reducible assumption | exact if_pos rfl | exact rfl | refine upd_ne (by decide) ?_), by repeat (first | with_reducible assumption | exact if_pos rfl | exact rfl | refine upd_ne (by decide) ?_), by repeat (first | with_reducible assumption | exact if_pos rfl | exact rfl | refine upd_ne (by decide) ?_), rfl, ints_set hT, by simp [hlT]⟩, hm⟩

end
section
open PySem PySem.W PySem.Calls PySem.Spec PyProof.Rows

theorem while_inv {prog : Program} {w : World} {A : Around} {E : Value → Shared → Prop} {s : Shared} {env : Env} {test : PySem.Expr} {pos : Pos} {body orelse : List Stmt} {Q : Flow → Shared → Prop} (Inv : Nat → Shared → Prop) (n : Nat)
    (hE : PassesOwn (model prog w) A env E) (h0 : Inv n s)
    (turn : ∀ k s', Inv k s' → wpAny (model prog w) A (isTrue test env (eval test env)) (fun b s₂ =>
        if b = true then wpAny (model prog w) A (execs body env) (fun f s₃ => match f with
          | .next | .cont => Hold (∃ k', k' < k ∧ Inv k' s₃)
          | .brk => Q .next s₃
          | .ret v => Q (.ret v) s₃) E s₂
        else wpAny (model prog w) A (execs orelse env) Q E s₂) E s') :
    wpAny (model prog w) A (exec (.While test body orelse pos) env) Q E s := by
  refine wpAny_While (codeAny_whileLoop Inv (fun k s' hI => wpAny_passesOwn hE (wpAny_mono (turn k s' hI) (fun b s₂ h₂ => ?_) fun _ _ e => e)) n h0)
  cases b with
  | true =>
    simp only [if_true] at h₂ ⊢
    exact wpAny_passesOwn hE (wpAny_mono h₂ (fun f s₃ h₃ => by cases f <;> exact h₃) fun _ _ e => e)
  | false =>
    simp only [Bool.false_eq_true, if_false] at h₂ ⊢
    exact wpAny_passesOwn hE h₂

/-- a row: a blanks, d dots, b blanks -/
noncomputable def rowL (a d b : Nat) : List Nat := List.replicate a 32 ++ (List.replicate d 46 ++ List.replicate b 32)
noncomputable def row (a d b : Nat) : Str := ⟨(rowL a d b).toArray⟩
theorem row_len {a d b : Nat} : (row a d b).length = a + d + b := by simp [row, rowL, Str.length]; omega
theorem rowL_length {a d b : Nat} : (rowL a d b).length = a + d + b := by simp [rowL]; omega
theorem rowL_at {a d b i : Nat} (h : i < a + d + b) : (rowL a d b)[i]? = some (if i < a then 32 else if i < a + d then 46 else 32) := by
  unfold rowL
  by_cases h1 : i < a
  · rw [List.getElem?_append_left (by simp; exact h1), List.getElem?_replicate, if_pos h1, if_pos h1]
  · rw [List.getElem?_append_right (by simp; omega), List.length_replicate, if_neg h1]
    by_cases h2 : i < a + d
    · rw [List.getElem?_append_left (by simp; omega), List.getElem?_replicate, if_pos (by omega), if_pos h2]
    · rw [List.getElem?_append_right (by simp; omega), List.length_replicate, List.getElem?_replicate, if_pos (by omega), if_neg h2]
theorem row_ascii {a d b : Nat} : (row a d b).cps.all (· < 128) = true := by
  simp [row, rowL]

theorem my_stritem {prog : Program} {w : World} {A : Around} {E : Value → Shared → Prop} {s : Shared} {value slice : PySem.Expr} {x : Str} {t u : Tok} {i : Int} {c : Nat} {Q : Value → Shared → Prop}
    (h0 : 0 ≤ i) (hz : i < 2 ^ 62) (hc : x.cps[i.toNat]? = some c) (h : Q (.str ⟨#[c]⟩ s.toks) { s with toks := s.toks + 1 })
    (hs : subscripted slice false (.str x t) (.int i u) = operate [.str x t, .int i u] (getItem (.str x t) (.int i u)) := by with_unfolding_all rfl)
    (ht : ∀ r, letTemporaryGo value (.str x t) r = pure () := by intro _; with_unfolding_all rfl) :
    wpAny (model prog w) A (subscriptTail value slice (.str x t) (.int i u)) Q E s := by
  have hlt : i.toNat < x.length := by
    have := (Array.getElem?_eq_some_iff.mp hc).1
    exact this
  refine tail_of_ItemOn ⟨"str", _, PySem.F.slot_str_getitem.lookup, typeIs_str _ _ _, PySem.P.getItem_str (c := c) ?_ ?_ h⟩ hs ht
  · simp; omega
  · unfold seqIndex?
    have h1 : ¬ i < 0 := by omega
    have h2 : i < (x.length : Int) := by omega
    simp only [h1, if_false]
    rw [if_pos (by simp [h0, h2])]
    exact hc
theorem my_strlen {prog : Program} {w : World} {A : Around} {E : Value → Shared → Prop} {s : Shared} {x : Str} {t : Tok} {n : Nat} {Q : Value → Shared → Prop} (hn : x.length = n) (hz : n < 2 ^ 30) (h : Q (.int (n : Nat) (s.toks + 1)) { s with toks := s.toks + 1 + 1 }) :
    wpAny (model prog w) A (call (.builtin "len") [.str x t]) Q E s := PySem.P.len_str (by omega) (by rw [hn]; exact h)
theorem row_at {a d b i : Nat} (h : i < a + d + b) : (row a d b).cps[i]? = some (if i < a then 32 else if i < a + d then 46 else 32) := by
  rw [← rowL_at h]
  simp [row]

theorem drop_replicate_app {n k : Nat} {x : Nat} {l : List Nat} (h : k ≤ n) : (List.replicate n x ++ l).drop k = List.replicate (n - k) x ++ l := by
  rw [List.drop_append_of_le_length (by simp; exact h), List.drop_replicate]
theorem row_slice {a d b f e : Nat} (hf : f ≤ a) (he : e ≤ b) : Txt.slice (row a d b) (some (f : Nat)) (some ((a + d + b : Nat) - (e : Nat) : Int)) = row (a - f) d (b - e) := by
  have h := slice_closes (x := row a d b) (i := (f : Nat)) (j := ((a + d + b : Nat) - (e : Nat) : Int)) ⟨by omega, by omega, by simp [row, rowL]; omega⟩
  rw [eq_of_beq h]
  have h1 : (((a + d + b : Nat) : Int) - (e : Nat) - (f : Nat)).toNat = (a - f) + (d + (b - e)) := by omega
  rw [h1]
  show (⟨_⟩ : Str) = ⟨_⟩
  congr 1
  simp only [row, Int.toNat_natCast]
  congr 1
  show List.take _ (List.drop f (rowL a d b)) = rowL (a - f) d (b - e)
  unfold rowL
  rw [drop_replicate_app hf]
  rw [List.take_append, List.take_append]
  simp

end
section
open PySem PySem.W PySem.Calls PySem.Spec PyProof.Rows


local macro_rules | `(tactic| walk_at "subscriptTail Name Name str int") => `(tactic| (k_here; k_dflt (refine' my_stritem ?h0 ?h1 ?hx ?_; (case h0 => omega); (case h1 => omega); (case hx => assumption)); (try dsimp only)))
local macro_rules | `(tactic| walk_at "call builtin:len") => `(tactic| (k_here; (with_reducible show wpAny _ _ (call (Value.builtin "len") [Value.str (row _ _ _) _]) _ _ _); refine my_strlen row_len (by omega) ?_))
noncomputable def StripAt (a d b : Nat) (t : Tok) (i y : Int) (m : Str → Option Value) : Prop := ∃ tz ty, m (Str.ofString "s") = some (.str (row a d b) t) ∧ m (Str.ofString "lpos") = some (.int i tz) ∧ m (Str.ofString "amount") = some (.int y ty)
noncomputable def StripAt2 (a d b : Nat) (t : Tok) (i j y : Int) (m : Str → Option Value) : Prop := StripAt a d b t i y m ∧ ∃ tr, m (Str.ofString "rpos") = some (.int j tr)

theorem strip_says {w : World} {a d b k : Nat} {t tk : Nat} (hd1 : 1 ≤ d) (hz : a + d + b < 2 ^ 20) (hkz : k < 2 ^ 30) :
    Says w 8 120 38 [.str (row a d b) t, .int (k : Nat) tk] (fun g tk₀ => True) [] (fun tk₀ tk₁ v need' => (∃ t : Nat, v = .str (row (a - k) d (b - (k - a))) t) ∧ need' = []) := by
  intro mean mg mb dp un gd outer base g s R S N hpre hd hu hret
  have B := S.below
  have KX := S.frag
  have T := S.top
  have XB := S.frag0
  have TB := S.top0

  refine codeAny_hold_toks ?_
  refine' enter (binds := [(Str.ofString "s", .str (row a d b) t), (Str.ofString "amount", .int (k : Nat) tk)]) S N ?k6 ?k7 ?k8 ?k9 ?kB ?_ ?c2 ?c3 ?c4 ?c5
  case k6 => k_is
  case k7 => k_is
  case k8 => k_room
  case k9 => exact BindsTo.of_eq rfl
  case kB => exact locs rfl
  case c2 => exact rfl
  case c3 => exact rfl
  case c4 => exact rfl
  case c5 => decide
  intro L' h' F' N'
  try dsimp only
  k_fold
  k_steps
  apply Hold.out
  rename Fr g L' _ _ => F1
  refine wpAny_mono (Q := fun f s₃ => Hold (f = .next ∧ ∃ h tk m y, s₃ = ⟨h, s.gens, s.drawn, tk, s.os⟩ ∧ Fr g L' h m ∧ StripAt a d b t (min k a : Nat) y m ∧ y = ((k - a : Nat) : Int))) ?loop ?rest (fun _ _ e => e)
  case loop =>
    refine while_inv (fun n s' => ∃ h tk m i z y, s' = ⟨h, s.gens, s.drawn, tk, s.os⟩ ∧ Fr g L' h m ∧ StripAt a d b t z y m ∧ z = ((i : Nat) : Int) ∧ y = (k : Int) - (i : Nat) ∧ i ≤ a ∧ i ≤ k ∧ n = a - i) a (by passes_own) ?init ?turn
    case init =>
      exact ⟨_, _, _, 0, 0, k, rfl, F1, ⟨_, _, rfl, rfl, rfl⟩, rfl, by omega, by omega, by omega, by omega⟩
    case turn =>
      intro n s' H
      (try dsimp only)
      (try k_fold)
      refine ex6 H fun h tk1 m i z y H1 => an8 H1 fun z1 F2 HS z2 hy hi1 hi2 z3 => ex2 HS fun tz ty H2 => an3 H2 fun e1 e2 e3 => ?_
      clear H H1 HS H2
      subst z1 z2 z3
      have hrow := row_at (a := a) (d := d) (b := b) (i := i) (by omega)
      by_cases hia : i < a
      · rw [if_pos hia] at hrow
        try dsimp only
        k_steps
        · (try dsimp only)
          (try k_unfold)
          (try dsimp only)
          apply Hold.out
          refine ⟨a - (i + 1), by omega, _, _, _, i + 1, _, _, rfl, by assumption, ⟨_, _, by repeat (first | with_reducible assumption | exact if_pos rfl | exact rfl | refine upd_ne (by decide) ?_), by repeat (first | with_reducible assumption | exact if_pos rfl | exact rfl | refine upd_ne (by decide) ?_), by repeat (first | with_reducible assumption | exact if_pos rfl | exact rfl | refine upd_ne (by decide) ?_)⟩, rfl, by omega, by omega, by omega, rfl⟩
        · (try dsimp only)
          (try k_unfold)
          (try dsimp only)
          apply Hold.out
          exact ⟨(by first | rfl | trivial), _, _, _, y, rfl, by assumption, ⟨tz, ty, e1, by rw [show min k a = i by omega]; exact e2, e3⟩, by omega⟩
      · rw [if_neg hia, if_pos (by omega)] at hrow
        try dsimp only
        k_steps
        · (try dsimp only)
          (try k_unfold)
          (try dsimp only)
          apply Hold.out
          exact ⟨(by first | rfl | trivial), _, _, _, y, rfl, by assumption, ⟨tz, ty, e1, by rw [show min k a = i by omega]; exact e2, e3⟩, by omega⟩
        · (try dsimp only)
          (try k_unfold)
          (try dsimp only)
          apply Hold.out
          exact ⟨(by first | rfl | trivial), _, _, _, y, rfl, by assumption, ⟨tz, ty, e1, by rw [show min k a = i by omega]; exact e2, e3⟩, by omega⟩
  case rest =>
    rintro f s₃ ⟨rfl, H⟩
    (try dsimp only)
    (try k_fold)
    refine ex4 H fun h tk1 m y H1 => an4 H1 fun z1 F2 HS hy => ex2 HS fun tz ty H2 => an3 H2 fun e1 e2 e3 => ?_
    clear H H1 HS H2
    subst z1
    (try dsimp only)
    k_steps
    apply Hold.out
    rename Fr g L' _ _ => F3
    refine wpAny_mono (Q := fun f s₃ => Hold (f = .next ∧ ∃ h tk m j tr y, s₃ = ⟨h, s.gens, s.drawn, tk, s.os⟩ ∧ Fr g L' h m ∧ StripAt a d b t (min k a : Nat) y m ∧ m (Str.ofString "rpos") = some (.int j tr) ∧ j + 1 = ((a + d + b : Nat) : Int) - (min (k - a) b : Nat))) ?loop ?rest (fun _ _ e => e)
    case loop =>
      refine while_inv (fun n s' => ∃ h tk m i z y tr, s' = ⟨h, s.gens, s.drawn, tk, s.os⟩ ∧ Fr g L' h m ∧ StripAt a d b t (min k a : Nat) y m ∧ m (Str.ofString "rpos") = some (.int z tr) ∧ z = ((a + d + b : Nat) : Int) - 1 - (i : Nat) ∧ y = ((k - a : Nat) : Int) - (i : Nat) ∧ i ≤ b ∧ i ≤ k - a ∧ n = b - i) b (by passes_own) ?init ?turn
      case init =>
        exact ⟨_, _, _, 0, _, y, _, rfl, F3, ⟨_, _, by repeat (first | with_reducible assumption | exact if_pos rfl | exact rfl | refine upd_ne (by decide) ?_), by repeat (first | with_reducible assumption | exact if_pos rfl | exact rfl | refine upd_ne (by decide) ?_), by repeat (first | with_reducible assumption | exact if_pos rfl | exact rfl | refine upd_ne (by decide) ?_)⟩, rfl, by omega, by omega, by omega, by omega, by omega⟩
      case turn =>
        intro n s' H
        (try dsimp only)
        (try k_fold)
        refine ex7 H fun h tk1 m i z y tr H1 => an9 H1 fun z1 F2 HS e4 hz2 hy hi1 hi2 z3 => ex2 HS fun tz ty H2 => an3 H2 fun e1 e2 e3 => ?_
        clear H H1 HS H2
        subst z1 z3
        by_cases hia : i < b
        · have hrow : (row a d b).cps[z.toNat]? = some 32 := by
            rw [row_at (by omega), if_neg (by omega), if_neg (by omega)]
          try dsimp only
          k_steps
          · (try dsimp only)
            (try k_unfold)
            (try dsimp only)
            apply Hold.out
            refine ⟨b - (i + 1), by omega, _, _, _, i + 1, _, _, _, rfl, by assumption, ⟨_, _, by repeat (first | with_reducible assumption | exact if_pos rfl | exact rfl | refine upd_ne (by decide) ?_), by repeat (first | with_reducible assumption | exact if_pos rfl | exact rfl | refine upd_ne (by decide) ?_), by repeat (first | with_reducible assumption | exact if_pos rfl | exact rfl | refine upd_ne (by decide) ?_)⟩, by repeat (first | with_reducible assumption | exact if_pos rfl | exact rfl | refine upd_ne (by decide) ?_), by omega, by omega, by omega, by omega, rfl⟩
          · (try dsimp only)
            (try k_unfold)
            (try dsimp only)
            apply Hold.out
            exact ⟨(by first | rfl | trivial), _, _, _, z, tr, y, rfl, by assumption, ⟨tz, ty, e1, e2, e3⟩, e4, by omega⟩
        · have hrow : (row a d b).cps[z.toNat]? = some 46 := by
            rw [row_at (by omega), if_neg (by omega), if_pos (by omega)]
          try dsimp only
          k_steps
          · (try dsimp only)
            (try k_unfold)
            (try dsimp only)
            apply Hold.out
            exact ⟨(by first | rfl | trivial), _, _, _, z, tr, y, rfl, by assumption, ⟨tz, ty, e1, e2, e3⟩, e4, by omega⟩
          · (try dsimp only)
            (try k_unfold)
            (try dsimp only)
            apply Hold.out
            exact ⟨(by first | rfl | trivial), _, _, _, z, tr, y, rfl, by assumption, ⟨tz, ty, e1, e2, e3⟩, e4, by omega⟩
    case rest =>
      rintro f s₃ ⟨rfl, H⟩
      (try dsimp only)
      (try k_fold)
      refine ex6 H fun h tk1 m j tr y H1 => an5 H1 fun z1 F2 HS e4 hj => ex2 HS fun tz ty H2 => an3 H2 fun e1 e2 e3 => ?_
      clear H H1 HS H2
      subst z1
      (try dsimp only)
      k_steps
      rename Fr g L' _ _ => F9
      have hsl : Txt.slice (row a d b) (some (min k a : Nat)) (some (j + 1)) = row (a - k) d (b - (k - a)) := by
        rw [hj, row_slice (Nat.min_le_right _ _) (Nat.min_le_right _ _)]
        congr 1 <;> omega
      refine slice_str_ss (hsz := by rw [row_len]; unfold sizeLine; omega) (s := ⟨_, _, _, _, _⟩) F9 ?_
      intro h6 t6 k6 F6
      rw [hsl]
      k_steps
      (try dsimp only)
      (try k_unfold)
      (try dsimp only)
      apply Hold.out
      intro htoks
      refine hret _ _ _ _ htoks ?_ (Fr.keep (by assumption)) NewsG.nil
      exact ⟨⟨_, rfl⟩, rfl⟩

end
section
open PySem PySem.W PySem.Calls PySem.Spec PyProof.Rows

/-- one line of the book: blanks ahead, blanks behind, dots -/
noncomputable abbrev Line := Nat × Nat × Nat
noncomputable abbrev lineObj (x : Line) (t1 t2 t3 : Tok) (c : Nat) : Obj := listOf ([Value.int (x.1 : Nat) t1, Value.int (x.2.1 : Nat) t2, Value.int (x.2.2 : Nat) t3] : List Value).toArray c

/-- the book's lines, made objects each -/
inductive Ents : List (Addr × Obj) → List Addr → List Line → Prop
  | nil : Ents [] [] []
  | cons (e : Addr) (x : Line) (t1 t2 t3 : Tok) (c : Nat) {ents es xs} : Ents ents es xs → Ents ((e, lineObj x t1 t2 t3 c) :: ents) (e :: es) (x :: xs)

theorem Ents.fst {ents : List (Addr × Obj)} {es : List Addr} {xs : List Line} (h : Ents ents es xs) : ents.map (·.1) = es := by
  induction h with
  | nil => rfl
  | cons e x t1 t2 t3 c h ih => simp [ih]
theorem Ents.len {ents : List (Addr × Obj)} {es : List Addr} {xs : List Line} (h : Ents ents es xs) : es.length = xs.length := by
  induction h with
  | nil => rfl
  | cons e x t1 t2 t3 c h ih => simp [ih]
theorem Ents.off {ents : List (Addr × Obj)} {es : List Addr} {xs : List Line} (h : Ents ents es xs) {d : Addr} (hd : d ∉ es) : ∀ p ∈ ents, p.1 ≠ d := fun p hp q => hd (by
  rw [← h.fst, ← q]
  exact List.mem_map_of_mem hp)

theorem Ents.at {ents : List (Addr × Obj)} {es : List Addr} {xs : List Line} (h : Ents ents es xs) : ∀ {i : Nat} {x : Line}, xs[i]? = some x → ∃ e t1 t2 t3 c, es[i]? = some e ∧ (e, lineObj x t1 t2 t3 c) ∈ ents := by
  induction h with
  | nil => intro i x hx; simp at hx
  | cons e y t1 t2 t3 c h ih =>
    intro i x hx
    cases i with
    | zero =>
      simp at hx
      subst hx
      exact ⟨e, t1, t2, t3, c, by simp, .head _⟩
    | succ i =>
      simp at hx
      obtain ⟨e', u1, u2, u3, c', h1, h2⟩ := ih hx
      exact ⟨e', u1, u2, u3, c', by simpa using h1, .tail _ h2⟩

theorem Ents.upd {ents : List (Addr × Obj)} {es : List Addr} {xs : List Line} (h : Ents ents es xs) : ∀ {i : Nat} {e : Addr} {o : Obj} (y : Line) (t1 t2 t3 : Tok) (c : Nat), es.Nodup → es[i]? = some e → (e, o) ∈ ents →
    ∃ ents', Upd e o (lineObj y t1 t2 t3 c) ents ents' ∧ Ents ents' es (xs.set i y) := by
  induction h with
  | nil => intro i e o y t1 t2 t3 c _ hx; simp at hx
  | cons e0 y0 u1 u2 u3 c0 h ih =>
    intro i e o y t1 t2 t3 c hn hx hm
    have hne := List.nodup_cons.mp hn
    cases i with
    | zero =>
      simp at hx
      subst hx
      rcases List.mem_cons.mp hm with hm | hm
      · cases hm
        exact ⟨_, .head (h.off hne.1), .cons _ _ _ _ _ _ h⟩
      · exact absurd rfl (h.off hne.1 _ hm)
    | succ i =>
      simp at hx
      rcases List.mem_cons.mp hm with hm | hm
      · cases hm
        exact absurd (List.mem_of_getElem? hx) hne.1
      · obtain ⟨ents', hu, he⟩ := ih y t1 t2 t3 c hne.2 hx hm
        refine ⟨_, .tail (fun q => hne.1 ?_) hu, .cons _ _ _ _ _ _ he⟩
        rw [show e0 = e from q]
        exact List.mem_of_getElem? hx

theorem Ents.mem_of {ents : List (Addr × Obj)} {es : List Addr} {xs : List Line} (h : Ents ents es xs) {i : Nat} {x : Line} {e : Addr} (hx : xs[i]? = some x) (he : es[i]? = some e) : ∃ t1 t2 t3 c, (e, lineObj x t1 t2 t3 c) ∈ ents := by
  obtain ⟨e', t1, t2, t3, c, h1, h2⟩ := h.at hx
  rw [he] at h1
  cases h1
  exact ⟨t1, t2, t3, c, h2⟩

/-- the rows as they lie in a list -/
inductive RowsAre : List Value → List Line → Prop
  | nil : RowsAre [] []
  | cons (x : Line) (t : Tok) {vs xs} : RowsAre vs xs → RowsAre (.str (row x.1 x.2.2 x.2.1) t :: vs) (x :: xs)
theorem RowsAre.len {vs : List Value} {xs : List Line} (h : RowsAre vs xs) : vs.length = xs.length := by
  induction h with
  | nil => rfl
  | cons x t h ih => simp [ih]
theorem RowsAre.at {vs : List Value} {xs : List Line} (h : RowsAre vs xs) : ∀ {i : Nat} {x : Line}, xs[i]? = some x → ∃ t : Nat, vs[i]? = some (.str (row x.1 x.2.2 x.2.1) t) := by
  induction h with
  | nil => intro i x hx; simp at hx
  | cons y t h ih =>
    intro i x hx
    cases i with
    | zero => simp at hx; subst hx; exact ⟨t, rfl⟩
    | succ i => simp at hx; obtain ⟨t', ht⟩ := ih hx; exact ⟨t', by simpa using ht⟩
theorem RowsAre.set {vs : List Value} {xs : List Line} (h : RowsAre vs xs) : ∀ {i : Nat} {y : Line} {t : Tok}, RowsAre (vs.set i (.str (row y.1 y.2.2 y.2.1) t)) (xs.set i y) := by
  induction h with
  | nil => intro i y t; exact .nil
  | cons x u h ih =>
    intro i y t
    cases i with
    | zero => exact .cons _ _ h
    | succ i => exact .cons _ _ ih

end
section
open PySem PySem.W PySem.Calls PySem.Spec PyProof.Rows

theorem foldl_reps (c : Nat) : ∀ (k : Nat) (acc : Array Nat), (List.replicate k (#[c] : Array Nat)).foldl (· ++ ·) acc = acc ++ (List.replicate k c).toArray
  | 0, acc => by simp
  | k + 1, acc => by
    rw [List.replicate_succ, List.foldl_cons, foldl_reps c k, List.replicate_succ]
    apply Array.toList_inj.mp
    simp
theorem mul_reps (c k : Nat) : Txt.mul ⟨#[c]⟩ (k : Nat) = ⟨(List.replicate k c).toArray⟩ := by
  unfold Txt.mul
  by_cases h : (k : Int) < 1
  · rw [if_pos h]
    have : k = 0 := by omega
    subst this
    rfl
  · rw [if_neg h]
    split
    · rename_i h1
      have : k = 1 := by
        simp [Str.length] at h1
        omega
      subst this
      rfl
    · rw [Int.toNat_natCast, foldl_reps]
      simp

section
variable {prog : Program} {w : World} {A : Around} {E : Value → Shared → Prop} {s : Shared}
theorem my_reps {x : Str} {c k : Nat} {n : Int} {t u : Tok} {Q : Value → Shared → Prop} (hx : x = ⟨#[c]⟩) (hn : n = (k : Nat)) (hz : k < 2 ^ 20) (h : ∀ t' tk, Q (.str ⟨(List.replicate k c).toArray⟩ t') { s with toks := tk }) :
    wpAny (model prog w) A (binaryOp .Mult (.str x t) (.int n u)) Q E s := by
  subst hx hn
  refine SB.mul ⟨by simp; omega, fun h1 _ => ?_, fun _ _ => ?_⟩ (fun t' tk => ?_)
  · have h2 : (1 : Int) ≤ (2 ^ 63 - 1) / (k : Int) := (Int.le_ediv_iff_mul_le (by omega)).mpr (by omega)
    simp only [Str.length, List.size_toArray, List.length_cons, List.length_nil]
    omega
  · simp [Str.length, Builtin.Str.tooLong, sizeLine]; omega
  · rw [mul_reps]; exact h t' tk
theorem my_blanks {k : Nat} {n : Int} {t u : Tok} {Q : Value → Shared → Prop} (hn : n = (k : Nat)) (hz : k < 2 ^ 20) (h : ∀ t' tk, Q (.str (row k 0 0) t') { s with toks := tk }) :
    wpAny (model prog w) A (binaryOp .Mult (.str (Str.ofString " ") t) (.int n u)) Q E s :=
  my_reps (c := 32) (by decide +kernel) hn hz fun t' tk => by simpa [row, rowL] using h t' tk
theorem my_dots {k : Nat} {n : Int} {t u : Tok} {Q : Value → Shared → Prop} (hn : n = (k : Nat)) (hz : k < 2 ^ 20) (h : ∀ t' tk, Q (.str (row 0 k 0) t') { s with toks := tk }) :
    wpAny (model prog w) A (binaryOp .Mult (.str (Str.ofString ".") t) (.int n u)) Q E s :=
  my_reps (c := 46) (by decide +kernel) hn hz fun t' tk => by simpa [row, rowL] using h t' tk
theorem my_glue {x y z : Str} {t u : Tok} {Q : Value → Shared → Prop} (hz : x ++ y = z) (hl : x.length + y.length < 2 ^ 22) (h : ∀ t' tk, Q (.str z t') { s with toks := tk }) :
    wpAny (model prog w) A (binaryOp .Add (.str x t) (.str y u)) Q E s := by
  subst hz
  exact PyProof.Rows.add_str h (by unfold sizeLine; omega)
end

theorem cps_row {a d b : Nat} : (row a d b).cps.toList = rowL a d b := by simp [row]
theorem str_eq {x y : Str} (h : x.cps.toList = y.cps.toList) : x = y := by
  cases x; cases y; simp at h; rw [h]
theorem blanks_row {m a d b : Nat} : row m 0 0 ++ row a d b = row (m + a) d b := by
  apply str_eq
  rw [Str.cps_append, Array.toList_append, cps_row, cps_row, cps_row]
  simp [rowL, ← List.replicate_append_replicate]
theorem row_blanks {m a d b : Nat} : row a d b ++ row m 0 0 = row a d (b + m) := by
  apply str_eq
  rw [Str.cps_append, Array.toList_append, cps_row, cps_row, cps_row]
  simp [rowL, ← List.replicate_append_replicate]
theorem blanks_dots {m d : Nat} : row m 0 0 ++ row 0 d 0 = row m d 0 := by
  apply str_eq
  rw [Str.cps_append, Array.toList_append, cps_row, cps_row, cps_row]
  simp [rowL]

end
section
open PySem PySem.W PySem.Calls PySem.Spec PyProof.Rows


local macro_rules | `(tactic| walk_at "subscriptTail Name") => `(tactic| (k_here; (with_reducible show wpAny _ _ (subscriptTail _ _ (Value.ref _) (Value.int _ _)) _ _ _); walk_at "my item"))
local macro_rules | `(tactic| walk_at "call builtin:len") => `(tactic| (k_here; (with_reducible show wpAny _ _ (call (Value.builtin "len") [Value.str (row _ _ _) _]) _ _ _); refine my_strlen row_len (by omega) ?_))

section
variable {w : World} {mean : ExcName → Option Value} {mg mb : Str → Option Value} {dp un : Nat} {gd : Option (List Code)} {outer : List Env} {A₀ : Around} {base h₀ : Heap} {L : Addr} {m : Str → Option Value} {news news' : List (Addr × Obj)}
    {cn : Str} {cs : Scope} {a : Addr} {ccd : Value} {cl : List (Str × Addr)} {s : Shared} {Q E : Value → Shared → Prop}
theorem call_strip {p d b k : Nat} {t tk : Nat} (B : Below A₀ base outer h₀) (F : Fr h₀ L s.heap m) (X : (hd.heap_1 w.params).In base) (N : News h₀ L s.heap news) (T : Top VW LO mean mg mb base) (hk : cs.kind = .function)
    (hd : dp + 8 < recursionLimit) (hu : un + 120 < cLine) (hd1 : 1 ≤ d) (hz : p + d + b < 2 ^ 20) (hkz : k < 2 ^ 30)
    (h : ∀ (t : Nat) h' (tk' : Nat), s.toks ≤ tk' → Fr h₀ L h' m → News h₀ L h' news → Q (.str (row (p - k) d (b - (k - p))) t) { s with heap := h', toks := tk' }) :
    wpAny (model PR w) (ar dp un gd (envX cn cs L a ccd cl :: outer)) (call (.ref 38) [.str (row p d b) t, .int (k : Nat) tk]) Q E s :=
  (strip_says hd1 hz hkz).call news B F X N T hk (fun _ hp => nomatch hp) (fun p hp => hp) no_need (fun _ k hr => trivial) hd hu (by rintro v need' h' tk' ht ⟨⟨t, rfl⟩, rfl⟩ F' N'; exact h t h' tk' ht F' N')
end
local macro_rules | `(tactic| walk_at "call ref") => `(tactic| (k_here; (with_reducible show wpAny _ _ (call (Value.ref 38) _) _ _ _); k_dflt (refine' call_strip ?B ?F ?X ?N ?T ?hk ?hd ?hu ?z1 ?z2 ?z3 ?_; walk_at "my prem"; (case z1 => omega); (case z2 => omega); (case z3 => omega)); walk_at "my out6"))

theorem line_eq {E1 E2 : Int} {x : Line} {t1 t2 t3 : Tok} {c : Nat} (h1 : E1 = (x.1 : Nat)) (h2 : E2 = (x.2.1 : Nat)) : listOf #[.int E1 t1, .int E2 t2, .int (x.2.2 : Nat) t3] c = lineObj x t1 t2 t3 c := by
  subst h1 h2
  rfl
theorem ledger4 {l1 l2 l3 l4 : Addr} {o1 o2 o3 o4 o1' o2' o3' o4' : Obj} (h1 : o1 = o1') (h2 : o2 = o2') (h3 : o3 = o3') (h4 : o4 = o4') : [(l1, o1), (l2, o2), (l3, o3), (l4, o4)] = [(l1, o1'), (l2, o2'), (l3, o3'), (l4, o4')] := by
  subst h1 h2 h3 h4
  rfl
local macro_rules | `(tactic| walk_at $s:str) => if ["binaryOp Mult str int", "binaryOp Add str str", "exec If"].contains s.getString then `(tactic| (refine hold_of ?_)) else Lean.Macro.throwUnsupported

theorem handed_says {w : World} {xr xb eg et : Addr} {vs bvs : List Value} {a b d a' b' d' nr nb cg ct giver taker k : Nat} {tt tg ta ug ut g1 g2 g3 t1 t2 t3 : Nat} (h1 : xr ≠ xb) (h2 : xr ≠ eg) (h3 : xr ≠ et) (h4 : xb ≠ eg) (h5 : xb ≠ et) (h6 : eg ≠ et) (hgt : giver ≠ taker) (hvg : vs[giver]? = some (.str (row a d b) ug)) (hvt : vs[taker]? = some (.str (row a' d' b') ut)) (hbg : bvs[giver]? = some (.ref eg)) (hbt : bvs[taker]? = some (.ref et)) (hg8 : giver < 200) (ht8 : taker < 200) (hd1 : 1 ≤ d) (hz : a + d + b < 2 ^ 10) (hz' : a' + d' + b' < 2 ^ 10) (hk : k < 2 ^ 20) {ahead : Bool} :
    Says w 18 220 202 [.ref xr, .ref xb, .int (taker : Nat) tt, .int (giver : Nat) tg, .int (k : Nat) ta, .bool ahead] (fun g tk₀ => True) [(xr, listOf vs.toArray nr), (xb, listOf bvs.toArray nb), (eg, lineObj (a, b, d) g1 g2 g3 cg), (et, lineObj (a', b', d') t1 t2 t3 ct)] (fun tk₀ tk₁ v need' => v = .none ∧ ∃ (ul ur q1 q2 p1 p2 : Tok), need' = [(xr, listOf ((vs.set giver (.str (row (a - k) d (b - (k - a))) ul)).set taker (.str (if ahead then row (min k (a + b) + a') d' b' else row a' d' (b' + min k (a + b))) ur)).toArray nr), (xb, listOf bvs.toArray nb), (eg, lineObj (a - k, b - (k - a), d) q1 q2 g3 cg), (et, lineObj (if ahead then (min k (a + b) + a', b', d') else (a', b' + min k (a + b), d')) p1 p2 t3 ct)]) := by
  intro mean mg mb dp un gd outer base g s R S N hpre hd hu hret
  have B := S.below
  have KX := S.frag
  have T := S.top
  have XB := S.frag0
  have TB := S.top0

  refine codeAny_hold_toks ?_
  refine' enter (binds := [(Str.ofString "rows", .ref xr), (Str.ofString "book", .ref xb), (Str.ofString "taker", .int (taker : Nat) tt), (Str.ofString "giver", .int (giver : Nat) tg), (Str.ofString "asked", .int (k : Nat) ta), (Str.ofString "ahead", .bool ahead)]) S N ?k6 ?k7 ?k8 ?k9 ?kB ?_ ?c2 ?c3 ?c4 ?c5
  case k6 => k_is
  case k7 => k_is
  case k8 => k_room
  case k9 => exact BindsTo.of_eq rfl
  case kB => exact locs rfl
  case c2 => exact rfl
  case c3 => exact rfl
  case c4 => exact rfl
  case c5 => decide
  intro L' h' F' N'
  try dsimp only
  k_fold
  obtain ⟨n1, n2, n3, n4, n5, n6⟩ := (⟨neN h1, neN h2, neN h3, neN h4, neN h5, neN h6⟩ : _ ∧ _ ∧ _ ∧ _ ∧ _ ∧ _)
  clear h1 h2 h3 h4 h5 h6
  have lg := (List.getElem?_eq_some_iff.mp hvg).1
  have lt := (List.getElem?_eq_some_iff.mp hvt).1
  have hrest : (a - k) + d + (b - (k - a)) ≤ a + d + b := by omega
  k_steps
  apply Hold.out
  rename Fr g L' _ _ => F1
  rename News g L' _ _ => N1
  refine my_blanks (k := min k (a + b)) (by omega) (by omega) ?_
  intro t10 tk10
  try dsimp only
  k_steps
  apply Hold.out
  rename_i tl q1 q2 q3 q4 q5 q6 q7 q8 q9 t9 h9 tk9 ht9 ht9b h20 tk20 ht20 h21 tk21 ht21 F21 N21
  have hvt2 : (vs.set (Int.toNat (giver : Nat)) (.str (row (a - k) d (b - (k - a))) tl))[Int.toNat (taker : Nat)]? = some (.str (row a' d' b') ut) := by
    rw [List.getElem?_set_ne (by simpa using hgt)]; exact hvt
  have lt2 : taker < (vs.set (Int.toNat (giver : Nat)) (.str (row (a - k) d (b - (k - a))) tl)).length := by simpa using lt
  have rb := @blanks_row
  refine wpAny_mono (Q := fun f s₃ => Hold (f = .next ∧ ∃ (h : Heap) (tk : Nat) (u : Tok), s₃ = ⟨h, s.gens, s.drawn, tk, s.os⟩ ∧ Fr g L' h (fun y => if y = Str.ofString "blanks" then some (.str (row (min k (a + b)) 0 0) t10) else if y = Str.ofString "left" then some (.str (row (a - k) d (b - (k - a))) tl) else
          List.lookup y [(Str.ofString "rows", .ref xr), (Str.ofString "book", .ref xb), (Str.ofString "taker", .int (taker : Nat) tt), (Str.ofString "giver", .int (giver : Nat) tg), (Str.ofString "asked", .int (k : Nat) ta), (Str.ofString "ahead", .bool ahead)].reverse) ∧
      News g L' h [(xr, listOf ((vs.set (Int.toNat (giver : Nat)) (.str (row (a - k) d (b - (k - a))) tl)).set (Int.toNat (taker : Nat)) (.str (if ahead then row (min k (a + b) + a') d' b' else row a' d' (b' + min k (a + b))) u)).toArray nr), (xb, listOf bvs.toArray nb), (eg, lineObj (a, b, d) g1 g2 g3 cg), (et, lineObj (a', b', d') t1 t2 t3 ct)])) ?ifs ?rest (fun _ _ e => e)
  case ifs =>
    cases ahead with
    | true =>
      refine wpAny_If ?_
      k_steps
      apply Hold.out
      refine my_glue (z := row (min k (a + b) + a') d' b') blanks_row (by rw [row_len, row_len]; omega) ?_
      intro t40 tk40
      try dsimp only
      k_steps
      apply Hold.out
      exact ⟨rfl, _, _, _, rfl, by assumption, by assumption⟩
    | false =>
      refine wpAny_If ?_
      k_steps
      apply Hold.out
      refine my_glue (z := row a' d' (b' + min k (a + b))) row_blanks (by rw [row_len, row_len]; omega) ?_
      intro t40 tk40
      try dsimp only
      k_steps
      apply Hold.out
      exact ⟨rfl, _, _, _, rfl, by assumption, by assumption⟩
  case rest =>
    rintro f s₃ ⟨rfl, h30, tk30, u30, rfl, F30, N30⟩
    clear F21 N21 S N hvt2 lt2 lt lg hvt hvg hpre KX T ht20 ht21 ht9 ht9b q3 q6
    have KX := XB.keeps B.stays
    have T := TB.keeps B.stays
    try dsimp only
    k_steps
    · have ha : ahead = true := by assumption
      subst ha
      apply Hold.out
      intro htoks
      rename News g L' _ _ => NN
      refine hret _ _ _ _ htoks ⟨rfl, tl, u30, _, _, _, _, ledger4 rfl rfl (line_eq (x := (a - k, b - (k - a), d)) ?_ ?_) (line_eq (x := (min k (a + b) + a', b', d')) ?_ ?_)⟩ (Fr.keep (by assumption)) (newsG_of NN)
      · show (a : Int) - _ = _; dsimp only; split <;> omega
      · show (b : Int) - _ = _; dsimp only; repeat' split <;> omega
      · show (a' : Int) + _ = _; dsimp only; repeat' split <;> omega
      · rfl
    · have ha : ahead = false := by first | assumption | simpa using (by assumption : ¬ ahead = true)
      subst ha
      apply Hold.out
      intro htoks
      rename News g L' _ _ => NN
      refine hret _ _ _ _ htoks ⟨rfl, tl, u30, _, _, _, _, ledger4 rfl rfl (line_eq (x := (a - k, b - (k - a), d)) ?_ ?_) (line_eq (x := (a', b' + min k (a + b), d')) ?_ ?_)⟩ (Fr.keep (by assumption)) (newsG_of NN)
      · show (a : Int) - _ = _; dsimp only; split <;> omega
      · show (b : Int) - _ = _; dsimp only; repeat' split <;> omega
      · rfl
      · show (b' : Int) + _ = _; dsimp only; repeat' split <;> omega

end
section
open PySem PySem.W PySem.Calls PySem.Spec PyProof.Rows PyProof.Rows.LCg

theorem off_list {news : List (Addr × Obj)} {I C D : Addr} (h1 : ∀ p ∈ news, p.1 ≠ I) (h2 : ∀ p ∈ news, p.1 ≠ C) (h3 : ∀ p ∈ news, p.1 ≠ D) : Off3 I C D news :=
  Off3.of fun p hp => ⟨h1 p hp, h2 p hp, h3 p hp⟩

section
variable {prog : Program} {w : World} {A : Around} {E : Value → Shared → Prop} {s : Shared} {h₀ : Heap} {L : Addr} {m : Str → Option Value} {env : Env}

theorem Hold.out_of {P : Prop} (h : Hold P) : P := h
/-- one turn of a comprehension: the element's value joins the list, J goes on -/
noncomputable def CompTurn (prog : Program) (w : World) (A : Around) (h₀ : Heap) (L : Addr) (m : Str → Option Value) (env : Env) (elt : PySem.Expr) (x : Str) (scope : Scope) (cl : List (Str × Addr)) (s : Shared) (n : Nat) (P : Nat → Value → Prop)
    (J : Nat → Nat → List Value → List (Addr × Obj) → Prop) : Prop :=
  ∀ i v I oI C oC D m₂ h tk ys news (E' : Value → Shared → Prop), i < n → P i v → NsObj oC m₂ → m₂ x = some v → Fr h₀ L h m → News h₀ L h ((I, oI) :: (C, oC) :: (D, lst ys) :: news) → Off3 I C D news → ((@Ne Nat I C) ∧ (@Ne Nat I D) ∧ (@Ne Nat C D)) → J i tk ys news →
    wpAny (model prog w) A (eval elt (compEnvC scope cl C env)) (fun y s' => Hold (∃ h' tk' news', s' = ⟨h', s.gens, s.drawn, tk', s.os⟩ ∧ Fr h₀ L h' m ∧ News h₀ L h' ((I, oI) :: (C, oC) :: (D, lst ys) :: news') ∧ Off3 I C D news' ∧ J (i + 1) tk' (ys ++ [y]) news')) E' ⟨h, s.gens, s.drawn, tk, s.os⟩

theorem comp_block {elt iter : PySem.Expr} {x : Str} {px : Pos} {scope : Scope} {cl : List (Str × Addr)} {pos : Pos} {I : Addr} {fp : List Addr} {n : Nat} {P : Nat → Value → Prop} {St : Nat → Heap → Prop} {news : List (Addr × Obj)}
    {J : Nat → Nat → List Value → List (Addr × Obj) → Prop} {RR : Value → Addr → Result → Shared → Prop}
    (W : Walks prog w A I fp [I] n P St) (hsz : n ≤ sizeLine) (hIo : ∀ i h, St i h → ∃ o, h.get? I = some o)
    (hSt : ∀ i tk ys h h' o nw, St i h → h.get? I = some o → h'.get? I = some o → (∀ b o, h₀.get? b = some o → h'.get? b = some o) → News h₀ L h' nw → J i tk ys nw → St i h')
    (hcell : ∀ y ∈ scope.names, y.2 ≠ .cell) (hkind : scope.kind = .function) (hx : scope.names.lookup x = some .local) (hst : St 0 s.heap) (hfp : ∀ b ∈ fp, b < s.heap.objs.size)
    (F : Fr h₀ L s.heap m) (N : News h₀ L s.heap news) (hIL : L ≠ I) (hI₀ : h₀.get? I = none) (off : ∀ p ∈ news, p.1 ≠ I) (hJ : J 0 s.toks [] news) (mono : ∀ i tk tk' ys nw, tk ≤ tk' → J i tk ys nw → J i tk' ys nw)
    (turn : CompTurn prog w A h₀ L m env elt x scope cl s n P J)
    (hRR : ∀ D C h tk m' ys news', Fr h₀ L h m → News h₀ L h ((D, lst ys) :: news') → (∀ p ∈ news', p.1 ≠ D) → h.Ns C m' → h₀.get? C = none → h₀.get? D = none → C ≠ L → D ≠ L → C ≠ D → (∀ p ∈ news', p.1 ≠ C) → ys.length = n → s.toks ≤ tk → J n tk ys news' → RR (.ref D) C (.ok .next) { s with heap := h, toks := tk }) :
    wpAny (model prog w) A (newList []) (fun acc s₃ => wpAny (model prog w) A (newFunctionEnv scope env.globals cl [] env.qual none .none (some env)) (fun cenv s₄ =>
      codeAny (model prog w) A (.compStart (.ListComp elt [⟨.Name x px, iter, [], 0⟩] scope pos) 0 (.ref I) acc { cenv with scope := relabel scope env }) (RR acc cenv.locals) s₄) E s₃) E s := by
  have hlt : ∀ b o, s.heap.get? b = some o → b < s.heap.objs.size := fun b o e => Heap.lt_size e
  have fresh : ∀ a, s.heap.objs.size ≤ a → s.heap.get? a = none := fun a ha => by
    cases e : s.heap.get? a with
    | none => rfl
    | some o => exact absurd (hlt a o e) (Nat.not_lt.mpr ha)
  have fresh₀ : ∀ a, s.heap.objs.size ≤ a → h₀.get? a = none := fun a ha => by
    cases e : h₀.get? a with
    | none => rfl
    | some o => have := F.keep a o e; rw [fresh a ha] at this; cases this
  refine wpAny_newObj_type (wpAny_newFunctionEnv hcell (by intro y hy; simp at hy) (fun h₁ hns hsb => ?_) hkind)
  dsimp only at hns hsb ⊢
  obtain ⟨D, hD⟩ : ∃ D : Addr, s.heap.objs.size = D := ⟨_, rfl⟩
  obtain ⟨C, hC⟩ : ∃ C : Addr, (s.heap.push { cls := .type "list", dict := none, data := .seq ([] : List Value).toArray }).objs.size = C := ⟨_, rfl⟩
  have hC1 : C = D + 1 := by rw [← hC, Heap.size_push, hD]
  rw [hC] at hns hsb
  have hCD : C ≠ D := by rw [hC1]; exact Nat.succ_ne_self _
  have hIlt : I < D := hD ▸ hfp I (W.sub I (List.mem_singleton.mpr rfl))
  have hLlt : L < D := hD ▸ F.ns.lt
  have hID : I ≠ D := Nat.ne_of_lt hIlt
  have hIC : I ≠ C := by rw [hC1]; exact Nat.ne_of_lt (Nat.lt_succ_of_lt hIlt)
  have hDL : D ≠ L := Nat.ne_of_gt hLlt
  have hCL : C ≠ L := by rw [hC1]; exact Nat.ne_of_gt (Nat.lt_succ_of_lt hLlt)
  have hD₀ : h₀.get? D = none := fresh₀ D (Nat.le_of_eq hD)
  have hC₀ : h₀.get? C = none := fresh₀ C (by rw [hC1, hD]; exact Nat.le_succ _)
  have hDf : D ∉ fp := fun hm => Nat.lt_irrefl _ (hD ▸ hfp _ hm)
  have hCf : C ∉ fp := fun hm => by
    have := hfp _ hm
    rw [hC1, hD] at this
    exact Nat.not_succ_lt_self this
  have old : ∀ b o, s.heap.get? b = some o → h₁.get? b = some o := fun b o e => by
    have hb := hlt b o e
    rw [hD] at hb
    exact hsb.extBut b o (by rw [hC1]; exact Nat.ne_of_lt (Nat.lt_succ_of_lt hb)) (Heap.get?_push_of_some _ (Heap.get?_push_of_some _ e))
  have hacc : h₁.get? D = some (lst []) := hsb.extBut _ _ (Ne.symm hCD) (Heap.get?_push_of_some _ (hD ▸ Heap.get?_push_size _ rfl))
  have offn : ∀ p ∈ news, p.1 ≠ C ∧ p.1 ≠ D := fun p hp => by
    have := hlt _ _ (N p hp).1
    rw [hD] at this
    exact ⟨by rw [hC1]; exact Nat.ne_of_lt (Nat.lt_succ_of_lt this), Nat.ne_of_lt this⟩
  have loop : ∀ s₃ : Shared, s₃ = { s with heap := h₁, toks := s.toks + ([] : List (Str × Value)).length } →
      codeAny (model prog w) A (.compLoop (.ListComp elt [⟨.Name x px, iter, [], 0⟩] scope pos) 0 (.ref I) (.ref D) (compEnvC scope cl C env)) (RR (.ref D) C) s₃ := by
    rintro s₃ rfl
    refine codeAny_compLoop_tests (fun k s' => ∃ h' tk i ys m' nw, s' = { s with heap := h', toks := tk } ∧ i ≤ n ∧ k = n + 1 - i ∧ ys.length = i ∧ s.toks ≤ tk ∧ St i h' ∧ Fr h₀ L h' m ∧ h'.Ns C m' ∧ News h₀ L h' ((D, lst ys) :: nw) ∧ Off3 I C D nw ∧ J i tk ys nw)
      ?_ (n + 1) ⟨h₁, _, 0, [], _, news, rfl, Nat.zero_le _, rfl, rfl, Nat.le_refl _, W.frame _ _ _ hst fun b _ o e => old b o e, F.keeps old, hns, ?_, Off3.of fun p hp => ⟨off p hp, offn p hp⟩, hJ⟩
    · rintro k s' ⟨h', tk, i, ys, m', nw, rfl, hi, rfl, hyl, htk, hst', F', hn', N', off', hJ'⟩
      refine wpAny_with_toks (n := tk) (Nat.le_refl _) ?_
      by_cases hin : i < n
      · refine W.item i _ _ _ hin hst' fun v h₂ tk₂ hPv hst₂ hk₂ => ?_
        intro ht2
        refine wpAny_assign_Name (wpAny_storeName_local (lookup_relabel_local hx) (hn'.at' fun o e => hk₂ _ o (by simpa using Ne.symm hIC) e) (fun h₃ hn₃ hs₃ => ?_) (by simp [compEnvC, relabel, hkind]))
        refine wpAny_tests_nil ?_
        simp only [if_true]
        have hst₃ : St (i + 1) h₃ := W.frame _ _ _ hst₂ fun b hb o e => hs₃.extBut b o (fun q => hCf (show C ∈ fp from (show b = C from q) ▸ hb)) e
        obtain ⟨oI, heI⟩ := hIo _ _ hst₃
        obtain ⟨oC, heC, hoC⟩ := ns_obj hn₃
        have up : ∀ b o, b ≠ I → b ≠ C → h'.get? b = some o → h₃.get? b = some o := fun b o hb hb' e => hs₃.extBut b o hb' (hk₂ b o (by simpa using hb) e)
        have F₃ : Fr h₀ L h₃ m := (fr_but F' hk₂ hIL hI₀).change hs₃ hCL hC₀
        have off3 := off'.mem
        have N₃ : News h₀ L h₃ ((I, oI) :: (C, oC) :: (D, lst ys) :: nw) := by
          refine List.forall_mem_cons.mpr ⟨⟨heI, Ne.symm hIL, hI₀⟩, List.forall_mem_cons.mpr ⟨⟨heC, hCL, hC₀⟩, List.forall_mem_cons.mpr ⟨?_, fun p hp => ?_⟩⟩⟩
          · exact ⟨up _ _ (Ne.symm hID) (Ne.symm hCD) (N' _ (.head _)).1, hDL, hD₀⟩
          · exact ⟨up _ _ (off3 p hp).1 (off3 p hp).2.1 (N' p (.tail _ hp)).1, (N' p (.tail _ hp)).2⟩
        refine wpAny_with_toks (n := tk₂) (Nat.le_succ _) ?_
        refine wpAny_mono (turn i v I oI C oC D _ h₃ (tk₂ + 1) ys nw _ hin hPv hoC (by simp) F₃ N₃ off' ⟨hIC, hID, hCD⟩ (mono _ _ _ _ _ (Nat.le_trans ht2 (Nat.le_succ _)) hJ')) (fun y s₄ hh htk₄ => ?_) fun _ _ e _ => e
        obtain ⟨h₄, tk₄, nw₄, rfl, F₄, N₄, off₄, J₄⟩ := Hold.out_of hh
        have zI := (N₄ (I, oI) (.head _)).1
        have zC := (N₄ (C, oC) (.tail _ (.head _))).1
        have zD := (N₄ (D, lst ys) (.tail _ (.tail _ (.head _)))).1
        have N₄' : News h₀ L h₄ nw₄ := fun p hp => N₄ p (.tail _ (.tail _ (.tail _ hp)))
        have hst₄ : St (i + 1) h₄ := hSt _ _ _ _ _ _ _ hst₃ heI zI F₄.keep N₄' J₄
        have off4 := off₄.mem
        refine append_at (hsz := by show ys.toArray.size ≤ sizeLine; rw [List.size_toArray, hyl]; exact Nat.le_trans hi hsz) zD fun h₅ hs₅ hD₅ => ?_
        refine ⟨n + 1 - (i + 1), by omega, h₅, tk₄, i + 1, ys ++ [y], _, nw₄, rfl, hin, rfl, by rw [List.length_append, List.length_singleton, hyl], Nat.le_trans htk (Nat.le_trans ht2 htk₄), W.frame _ _ _ hst₄ fun b hb o e => hs₅.extBut b o (fun q => hDf (show D ∈ fp from (show b = D from q) ▸ hb)) e,
          F₄.change hs₅ hDL hD₀, (hoC.ns zC).sameBut hs₅ hCD, List.forall_mem_cons.mpr ⟨⟨hD₅.trans (congrArg some (lst_snoc ys y)), hDL, hD₀⟩, fun p hp => ⟨hs₅.extBut _ _ (off4 p hp).2.2 (N₄' p hp).1, (N₄' p hp).2⟩⟩, off₄, J₄⟩
      · obtain rfl : i = n := Nat.le_antisymm hi (Nat.not_lt.mp hin)
        have off3 := off'.mem
        refine W.done _ _ _ hst' fun h₂ tk₂ hk₂ ht2 => ?_
        refine hRR _ _ h₂ tk₂ _ ys nw (fr_but F' hk₂ hIL hI₀) (news_but N' hk₂ (List.forall_mem_cons.mpr ⟨Ne.symm hID, fun p hp => (off3 p hp).1⟩)) (fun p hp => (off3 p hp).2.2) (hn'.at' fun o e => hk₂ _ o (by simpa using Ne.symm hIC) e) hC₀ hD₀ hCL hDL hCD (fun p hp => (off3 p hp).2.1) hyl (Nat.le_trans htk ht2) (mono _ _ _ _ _ ht2 hJ')
    · exact List.forall_mem_cons.mpr ⟨⟨hacc, hDL, hD₀⟩, fun p hp => ⟨old _ _ (N p hp).1, (N p hp).2⟩⟩
  rw [hC, hD]
  exact codeAny_compStart_list (loop _ rfl) (W.self 0 _ _ _ (W.frame _ _ _ hst fun b _ o e => old b o e) (loop _ rfl))

/-- where a comprehension takes its items -/
noncomputable def CompFrom (h₀ : Heap) (L : Addr) (m : Str → Option Value) (s : Shared) (n : Nat) (P : Nat → Value → Prop) (J : Nat → Nat → List Value → List (Addr × Obj) → Prop) (xv : Value) (s₁ : Shared) : Prop :=
  ∃ h tk news, s₁ = ⟨h, s.gens, s.drawn, tk, s.os⟩ ∧ s.toks ≤ tk ∧ Fr h₀ L h m ∧ News h₀ L h news ∧ J 0 tk [] news ∧
    ((∃ ax its, xv = .ref ax ∧ its.size = n ∧ (∀ i v, its[i]? = some v → P i v) ∧ ∀ i tk ys nw, J i tk ys nw → SrcAt h₀ ax its nw) ∨
     (∃ r t u v, xv = .ref r ∧ h.get? r = some (rangeObj n t u v) ∧ ∀ (i : Nat) t, P i (.int (i : Nat) t)))

theorem CompFrom.list {s : Shared} {n : Nat} {P : Nat → Value → Prop} {J : Nat → Nat → List Value → List (Addr × Obj) → Prop} {ax : Addr} {vs : List Value} {h : Heap} {tk : Nat} {news : List (Addr × Obj)}
    (F : Fr h₀ L h m) (N : News h₀ L h news) (ht : s.toks ≤ tk) (hJ : J 0 tk [] news) (hn : vs.length = n) (hP : ∀ i v, vs[i]? = some v → P i v) (hS : ∀ i tk ys nw, J i tk ys nw → SrcAt h₀ ax vs.toArray nw) : CompFrom h₀ L m s n P J (.ref ax) ⟨h, s.gens, s.drawn, tk, s.os⟩ :=
  ⟨h, tk, news, rfl, ht, F, N, hJ, .inl ⟨ax, vs.toArray, rfl, by simpa using hn, fun i v e => hP i v (by simpa using e), hS⟩⟩

theorem walks_mono {I : Addr} {fp wr : List Addr} {n : Nat} {P P' : Nat → Value → Prop} {St : Nat → Heap → Prop} (W : Walks prog w A I fp wr n P St) (h : ∀ i v, P i v → P' i v) : Walks prog w A I fp wr n P' St :=
  { sub := W.sub, frame := W.frame, done := W.done, self := W.self, item := fun i s Q E hi st hQ => W.item i s Q E hi st fun v h' tk hv => hQ v h' tk (h i v hv) }

theorem comp_source {n : Nat} {P : Nat → Value → Prop} {J : Nat → Nat → List Value → List (Addr × Obj) → Prop} {elt iter : PySem.Expr} {x : Str} {px : Pos} {scope : Scope} {cl : List (Str × Addr)} {pos : Pos} {xv : Value} {s₁ : Shared} {RR : Value → Addr → Result → Shared → Prop}
    (hh : A.handled = none) (hcell : ∀ y ∈ scope.names, y.2 ≠ .cell) (hkind : scope.kind = .function) (hx : scope.names.lookup x = some .local) (hn : n < 2 ^ 20) (mono : ∀ i tk tk' ys nw, tk ≤ tk' → J i tk ys nw → J i tk' ys nw)
    (turn : CompTurn prog w A h₀ L m env elt x scope cl s n P J)
    (hRR : ∀ D C h tk m' ys news', Fr h₀ L h m → News h₀ L h ((D, lst ys) :: news') → (∀ p ∈ news', p.1 ≠ D) → h.Ns C m' → h₀.get? C = none → h₀.get? D = none → C ≠ L → D ≠ L → C ≠ D → (∀ p ∈ news', p.1 ≠ C) → ys.length = n → s.toks ≤ tk → J n tk ys news' → RR (.ref D) C (.ok .next) ⟨h, s.gens, s.drawn, tk, s.os⟩)
    (h₁ : CompFrom h₀ L m s n P J xv s₁) :
    wpAny (model prog w) A (pyIter xv) (fun it s₂ => wpAny (model prog w) A (newList []) (fun acc s₃ => wpAny (model prog w) A (newFunctionEnv scope env.globals cl [] env.qual none .none (some env)) (fun cenv s₄ =>
      codeAny (model prog w) A (.compStart (.ListComp elt [⟨.Name x px, iter, [], 0⟩] scope pos) 0 it acc { cenv with scope := relabel scope env }) (RR acc cenv.locals) s₄) E s₃) E s₂) E s₁ := by
  have hns : n ≤ sizeLine := by unfold sizeLine; omega
  obtain ⟨h, tk, news, rfl, ht, F, N, hJ, ⟨ax, its, rfl, hz, hP, hS⟩ | ⟨r, t, u, v, rfl, hr, hP⟩⟩ := h₁
  · have hl : h.IsList ax its := (hS _ _ _ _ hJ).list F.keep N
    have hlt : ax < h.objs.size := by obtain ⟨_, e, _⟩ := hl; exact Heap.lt_size e
    refine wpAny_pyIter_list hl ?_
    have up : ∀ b o, h.get? b = some o → (h.push { cls := .type "list_iterator", data := .fields #[.ref ax, .int 0 0] }).get? b = some o := fun b o e => Heap.get?_push_of_some _ e
    subst hz
    refine comp_block (s := ⟨_, _, _, _, _⟩) (P := P) (St := fun i h => h.IsListIter _ ax i ∧ h.IsList ax its) (J := J) (n := its.size) (fp := [_, ax]) (I := h.objs.size)
      (walks_mono (Walks.list hh h.objs.size ax (Nat.ne_of_lt hlt) its) hP)
      hns (fun i h st => by obtain ⟨o, e, _⟩ := st.1; exact ⟨o, e⟩) (fun i tk ys h h' o nw st e e' k N J => list_st (h₀ := h₀) (L := L) i h h' o nw st e e' k N (hS _ _ _ _ J)) hcell hkind hx ⟨⟨_, Heap.get?_push_size _ rfl, rfl, rfl⟩, hl.push _⟩ (fun b hb => ?_)
      (F.keeps up) (N.grown up) (Nat.ne_of_lt F.ns.lt) (next_is_new F) (fun p hp => Nat.ne_of_lt (Heap.lt_size (N p hp).1)) hJ mono turn ?_
    · show b < (h.push _).objs.size
      rw [Heap.size_push]
      rcases List.mem_cons.mp hb with rfl | hb
      · exact Nat.lt_succ_self _
      · rw [List.mem_singleton.mp hb]; exact Nat.lt_succ_of_lt hlt
    · intro D C h' tk' m' ys news' a1 a2 a3 a4 a5 a6 a7 a8 a9 a10 a11 a12 a13
      exact hRR D C h' tk' m' ys news' a1 a2 a3 a4 a5 a6 a7 a8 a9 a10 a11 (Nat.le_trans ht a12) a13
  · have hsz : Builtin.Range.rangeSize 0 n 1 = (n : Int) := by rw [rangeSize_one]; split <;> omega
    refine wpAny_pyIter_range hr (small_one (by decide) (by decide) (by omega) (by omega)) ?_
    have up : ∀ b o, h.get? b = some o → (h.push (rangeIt 0 (Builtin.Range.rangeSize 0 n 1))).get? b = some o := fun b o e => Heap.get?_push_of_some _ e
    refine comp_block (s := ⟨_, _, _, _, _⟩) (P := P) (J := J) (I := h.objs.size) (fp := [h.objs.size]) (St := fun i h' => IsRangeIter h' h.objs.size (0 + (i : Nat) * 1) ((n : Int) - (i : Nat)) 1)
      (walks_mono (range_walks hh 0 n) (fun i v hv => by obtain ⟨t, rfl⟩ := hv; rw [Int.zero_add]; exact hP i t)) hns (fun i h st => ⟨_, st⟩) (fun i tk ys h1 h' o nw st e e' k N J => range_st (h₀ := h₀) (L := L) i h1 h' o nw st e e' k N trivial) hcell hkind hx
      (by show IsRangeIter _ _ _ _ _; rw [hsz]; simpa using Heap.get?_push_size _ rfl) (fun b hb => ?_)
      (F.keeps up) (N.grown up) (Nat.ne_of_lt F.ns.lt) (next_is_new F) (fun p hp => Nat.ne_of_lt (Heap.lt_size (N p hp).1)) hJ mono turn ?_
    · rw [List.mem_singleton.mp hb]
      show h.objs.size < (h.push _).objs.size
      rw [Heap.size_push]; exact Nat.lt_succ_self _
    · intro D C h' tk' m' ys news' a1 a2 a3 a4 a5 a6 a7 a8 a9 a10 a11 a12 a13
      exact hRR D C h' tk' m' ys news' a1 a2 a3 a4 a5 a6 a7 a8 a9 a10 a11 (Nat.le_trans ht a12) a13

/-- a comprehension over one name, by J -/
theorem comp_eval {n : Nat} {P : Nat → Value → Prop} (J : Nat → Nat → List Value → List (Addr × Obj) → Prop) {elt iter : PySem.Expr} {x : Str} {px : Pos} {scope : Scope} {cl : List (Str × Addr)} {pos : Pos} {Q : Value → Shared → Prop} (F₀ : Fr h₀ L s.heap m)
    (hh : A.handled = none) (hclos : closureFor scope env = pure cl) (hcell : ∀ y ∈ scope.names, y.2 ≠ .cell) (hkind : scope.kind = .function)
    (hnames : ∀ y ∈ scope.names, y.2 = .local → scope.names.lookup y.1 = some .local) (hx : scope.names.lookup x = some .local) (hn : n < 2 ^ 20) (mono : ∀ i tk tk' ys nw, tk ≤ tk' → J i tk ys nw → J i tk' ys nw)
    (he : wpAny (model prog w) A (eval iter env) (CompFrom h₀ L m s n P J) E s) (turn : CompTurn prog w A h₀ L m env elt x scope cl s n P J)
    (done : ∀ D h tk ys news, Fr h₀ L h m → News h₀ L h ((D, lst ys) :: news) → (∀ p ∈ news, p.1 ≠ D) → ys.length = n → s.toks ≤ tk → J n tk ys news → Q (.ref D) ⟨h, s.gens, s.drawn, tk, s.os⟩)
    (hs : ∀ x, foldedSetIterable iter env x = pure x := by intro _; rfl) :
    wpAny (model prog w) A (eval (.ListComp elt [⟨.Name x px, iter, [], 0⟩] scope pos) env) Q E s := by
  rw [eval_ListComp]
  refine wpAny_comprehension_free (use := none) rfl hs hclos hkind hnames (wpAny_mono he (fun xv s₁ h₁ => ?_) fun _ _ e => e)
  refine comp_source (s := s) hh hcell hkind hx hn mono turn ?_ h₁
  intro D C h tk m' ys news' F N o1 hn' hC₀ hD₀ hCL hDL hCD offC hyl ht hJ
  refine ⟨m', hn', fun h'' hs'' => done D h'' tk ys news' (F.change hs'' hCL hC₀) (fun p hp => ?_) o1 hyl ht hJ⟩
  refine ⟨hs''.extBut _ _ ?_ (N p hp).1, (N p hp).2⟩
  rcases List.mem_cons.mp hp with rfl | hp
  · exact Ne.symm hCD
  · exact offC p hp

theorem comp_assign {n : Nat} {P : Nat → Value → Prop} (J : Nat → Nat → List Value → List (Addr × Obj) → Prop) {elt iter : PySem.Expr} {x y : Str} {px py : Pos} {scope : Scope} {cl : List (Str × Addr)} {pos spos : Pos} {Q : Flow → Shared → Prop} (F₀ : Fr h₀ L s.heap m) (hLe : env.locals = L)
    (hsw : swapsWith (.ListComp elt [⟨.Name x px, iter, [], 0⟩] scope pos) (some (.Name y py)) spos.line env = pure true)
    (hh : A.handled = none) (hclos : closureFor scope env = pure cl) (hcell : ∀ z ∈ scope.names, z.2 ≠ .cell) (hkind : scope.kind = .function)
    (hnames : ∀ z ∈ scope.names, z.2 = .local → scope.names.lookup z.1 = some .local) (hx : scope.names.lookup x = some .local)
    (hy : env.kindOf y = some .local) (hp : (env.scope.kind == .class || (env.scope.kind == .module && env.locals != env.globals)) = false) (hn : n < 2 ^ 20) (mono : ∀ i tk tk' ys nw, tk ≤ tk' → J i tk ys nw → J i tk' ys nw)
    (he : wpAny (model prog w) A (eval iter env) (CompFrom h₀ L m s n P J) E s) (turn : CompTurn prog w A h₀ L m env elt x scope cl s n P J)
    (done : ∀ D h tk ys news, Fr h₀ L h (fun z => if z = y then some (.ref D) else m z) → News h₀ L h ((D, lst ys) :: news) → (∀ p ∈ news, p.1 ≠ D) → ys.length = n → s.toks ≤ tk → J n tk ys news → Q .next ⟨h, s.gens, s.drawn, tk, s.os⟩)
    (hs : ∀ x, foldedSetIterable iter env x = pure x := by intro _; rfl) :
    wpAny (model prog w) A (exec (.Assign [.Name y py] (.ListComp elt [⟨.Name x px, iter, [], 0⟩] scope pos) spos) env) Q E s := by
  subst hLe
  rw [exec_Assign_Name_used _ _ _ _ hsw]
  refine wpAny_bind (wpAny_standAt (wpAny_bind ?_))
  show wpAny _ A (do let _ ← comprehension (.ListComp elt [⟨.Name x px, iter, [], 0⟩] scope pos) scope env _ (newList []) false (eval iter env) (some (assign (.Name y py) env))) _ _ s
  refine wpAny_bind (wpAny_mono (wpAny_comprehension_free (use := some (assign (.Name y py) env)) (Q := fun _ s' => Q .next s') rfl hs hclos hkind hnames
    (wpAny_mono he (fun xv s₁ h₁ => ?_) fun _ _ e => e)) (fun _ s' hq => wpAny_pure (wpAny_pure hq)) fun _ _ e => e)
  refine comp_source (s := s) hh hcell hkind hx hn mono turn ?_ h₁
  intro D C h tk m' ys news' F N o1 hn' hC₀ hD₀ hCL hDL hCD offC hyl ht hJ
  show wpAny _ A (assign (.Name y py) env (.ref D)) _ _ _
  refine wpAny_with_toks (n := tk) (Nat.le_refl _) (wpAny_assign_Name (wpAny_storeName_local hy F.ns (fun h₂ hn₂ hs₂ ht₂ => ?_) hp))
  have hL₀ : h₀.get? env.locals = none := Heap.get?_none_of_le F.above
  have F₂ : Fr h₀ env.locals h₂ (fun z => if z = y then some (.ref D) else m z) := ⟨hn₂, fun b o e => hs₂.extBut b o (fun q => by rw [q, hL₀] at e; cases e) (F.keep b o e), F.above⟩
  refine ⟨m', hn'.sameBut hs₂ hCL, fun h'' hs'' => done D h'' _ ys news' (F₂.change hs'' hCL hC₀) (fun p hp => ?_) o1 hyl (Nat.le_trans ht ht₂) (mono _ _ _ _ _ ht₂ hJ)⟩
  have z : h₂.get? p.1 = some p.2 := hs₂.extBut _ _ (N p hp).2.1 (N p hp).1
  refine ⟨hs''.extBut _ _ ?_ z, (N p hp).2⟩
  rcases List.mem_cons.mp hp with rfl | hp
  · exact Ne.symm hCD
  · exact offC p hp
end

end
section
local macro_rules | `(tactic| walk_at "my pad") => `(tactic| skip)
open PySem PySem.W PySem.Calls PySem.Spec PyProof.Rows


open Rx
local macro_rules | `(tactic| walk_at "subscriptTail") => `(tactic| (k_here; (with_reducible show wpAny _ _ (subscriptTail _ _ (Value.ref _) (Value.int _ _)) _ _ _); walk_at "my item"))
local macro_rules | `(tactic| walk_at $s:str) => if ["binaryOp Add str str", "setItem ref int", "call builtin:str.split", "exec If"].contains s.getString then `(tactic| (refine hold_of ?_)) else Lean.Macro.throwUnsupported

local macro_rules | `(tactic| walk_at "call ref") => `(tactic| ((with_reducible show wpAny _ _ (call (Value.ref 162) _) _ _ _); refine hold_of ?_))

local macro_rules | `(tactic| walk_at "eval Subscript") => `(tactic| ((with_reducible show wpAny _ _ (eval (Expr.Subscript (Expr.Tuple _ _ _) _ _) _) _ _ _); refine hold_of ?_))

noncomputable def sentLine (x : Line) : Line := if x.1 = 0 then (0, x.2.1, x.2.2 + 1) else x
noncomputable def endsOf (k : Nat) : List Nat := if k % 3 = 0 then [10] else if k % 3 = 1 then [13] else [13, 10]
noncomputable def rowOf (x : Line) : List Nat := rowL x.1 x.2.2 x.2.1
noncomputable def sentText (hour : Nat) : Nat → List Line → List (List Nat × List Nat)
  | _, [] => []
  | i, x :: xs => (rowOf x, endsOf (i + hour)) :: sentText hour (i + 1) xs
theorem sentText_rows (hour : Nat) : ∀ (xs : List Line) (i : Nat), (sentText hour i xs).map (·.1) = xs.map rowOf
  | [], _ => rfl
  | x :: xs, i => by simp [sentText, sentText_rows hour xs]
theorem sentText_snoc (hour : Nat) : ∀ (xs : List Line) (i : Nat) (y : Line), sentText hour i (xs ++ [y]) = sentText hour i xs ++ [(rowOf y, endsOf (i + xs.length + hour))]
  | [], i, y => by simp [sentText]
  | x :: xs, i, y => by
    rw [List.cons_append, sentText, sentText_snoc hour xs (i + 1) y, sentText, List.length_cons, show i + 1 + xs.length = i + (xs.length + 1) by omega]
    rfl

theorem endsOf_len (k : Nat) : (endsOf k).length ≤ 2 := by unfold endsOf; split <;> (try split) <;> decide
theorem sentText_len (hour : Nat) : ∀ (xs : List Line) (i : Nat), (∀ x ∈ xs, x.1 + x.2.1 + x.2.2 < 100) → (lines2 (sentText hour i xs)).length ≤ 102 * xs.length
  | [], i, _ => by simp [sentText, lines2]
  | x :: xs, i, h => by
    have ih := sentText_len hour xs (i + 1) fun y hy => h y (.tail _ hy)
    have h1 := h x (.head _)
    have h2 := endsOf_len (i + hour)
    simp only [lines2, sentText, List.map_cons, List.flatten_cons, List.length_append, List.length_cons] at ih ⊢
    have h3 : (rowOf x).length = x.1 + x.2.2 + x.2.1 := rowL_length
    omega

theorem sent_set {xs : List Line} {i : Nat} {x : Line} (h : xs[i]? = some x) : ((xs.take i).map sentLine ++ xs.drop i).set i (sentLine x) = (xs.take (i + 1)).map sentLine ++ xs.drop (i + 1) := by
  obtain ⟨hi, hx⟩ := List.getElem?_eq_some_iff.mp h
  have hl : ((xs.take i).map sentLine).length = i := by simp; omega
  rw [List.set_append_right _ _ (by omega), hl, Nat.sub_self, List.drop_eq_getElem_cons hi, List.set_cons_zero, List.take_add_one, h, ← hx]
  simp [hx]

theorem set_self_of {α : Type} {l : List α} {i : Nat} {x : α} (h : l[i]? = some x) : l.set i x = l := by
  apply List.ext_getElem?
  intro j
  by_cases hj : i = j
  · subst hj
    rw [h, List.getElem?_set_self (List.getElem?_eq_some_iff.mp h).1]
  · rw [List.getElem?_set_ne hj]

theorem tup3 {prog : Program} {w : World} {A : Around} {E : Value → Shared → Prop} {s : Shared} {value slice : PySem.Expr} {D : Addr} {a b c : Str} {t1 t2 t3 : Tok} {k : Int} {u : Tok} {j : Nat} {Q : Value → Shared → Prop}
    (hD : s.heap.get? D = some { cls := .type "tuple", data := .seq #[.str a t1, .str b t2, .str c t3] }) (hk : k = (j : Nat)) (hj : j < 3) (h : ∀ y u, y = (if j = 0 then a else if j = 1 then b else c) → Q (.str y u) s)
    (hs : subscripted slice false (.ref D) (.int k u) = operate [.ref D, .int k u] (getItem (.ref D) (.int k u)) := by with_unfolding_all rfl) :
    wpAny (model prog w) A (subscriptTail value slice (.ref D) (.int k u)) Q E s := by
  have ht : IsTup s.heap D #[.str a t1, .str b t2, .str c t3] := ⟨_, hD, rfl, _, rfl⟩
  subst hk
  obtain rfl | rfl | rfl : j = 0 ∨ j = 1 ∨ j = 2 := by omega
  · exact tail_any ht.typeIs PySem.F.slot_tuple_getitem.lookup (getItem_tuple (j := 0) (x := .str a t1) ht (by decide) (by decide) rfl rfl (h _ _ rfl)) hs
  · exact tail_any ht.typeIs PySem.F.slot_tuple_getitem.lookup (getItem_tuple (j := 1) (x := .str b t2) ht (by decide) (by decide) rfl rfl (h _ _ rfl)) hs
  · exact tail_any ht.typeIs PySem.F.slot_tuple_getitem.lookup (getItem_tuple (j := 2) (x := .str c t3) ht (by decide) (by decide) rfl rfl (h _ _ rfl)) hs

theorem sentText_ok (hour : Nat) : ∀ (xs : List Line) (i : Nat), (∀ x ∈ xs, 1 ≤ x.2.2) → ∀ p ∈ sentText hour i xs, LineOk p
  | [], _, _, p, hp => nomatch hp
  | x :: xs, i, h, p, hp => by
    rcases List.mem_cons.mp hp with rfl | hp
    · have h1 := h x (.head _)
      refine ⟨fun q => ?_, fun c hc => ?_, ?_⟩
      · have q1 := congrArg List.length q
        simp only [rowOf, rowL_length, List.length_nil] at q1
        omega
      · simp only [rowOf, rowL, List.mem_append, List.mem_replicate] at hc
        omega
      · simp only [endsOf]
        split
        · exact .inl rfl
        · split
          · exact .inr (.inl rfl)
          · exact .inr (.inr rfl)
    · exact sentText_ok hour xs (i + 1) (fun y hy => h y (.tail _ hy)) p hp

theorem dotted_row {x : Line} (h : 1 ≤ x.2.2) : dotted (rowOf x) = rowOf (sentLine x) := by
  obtain ⟨a, b, d⟩ := x
  dsimp only at h
  obtain ⟨d, rfl⟩ : ∃ k, d = k + 1 := ⟨d - 1, by omega⟩
  cases a with
  | zero => simp [dotted, rowOf, sentLine, rowL, List.replicate_succ]
  | succ a => simp [dotted, rowOf, sentLine, rowL, List.replicate_succ]
theorem dotted_rows {xs : List Line} (h : ∀ x ∈ xs, 1 ≤ x.2.2 ∧ x.1 + x.2.1 + x.2.2 < 100) : (xs.map rowOf).map dotted = (xs.map sentLine).map rowOf := by
  rw [List.map_map, List.map_map]
  exact List.map_congr_left fun x hx => dotted_row (h x hx).1
theorem crlen : ∀ {xs : List Line}, (∀ x ∈ xs, 1 ≤ x.2.2 ∧ x.1 + x.2.1 + x.2.2 < 100) → (linesCr ((xs.map sentLine).map rowOf)).length ≤ 103 * xs.length
  | [], _ => by simp [linesCr]
  | x :: xs, h => by
    have ih := crlen (xs := xs) fun y hy => h y (.tail _ hy)
    have h1 := (h x (.head _)).2
    have h3 : (rowOf (sentLine x)).length ≤ x.1 + x.2.2 + x.2.1 + 1 := by
      unfold rowOf
      rw [rowL_length]
      unfold sentLine
      split <;> (try dsimp only) <;> omega
    simp only [linesCr, List.map_cons, List.flatten_cons, List.length_append, List.length_cons, List.length_nil] at ih ⊢
    omega

theorem slice_last {vs : List Value} (h : vs ≠ []) : slicePick vs.toArray none (some (-1)) none = vs.dropLast.toArray := by
  have hl : 0 < vs.length := List.length_pos_iff.mpr h
  have e : slicePick vs.toArray none (some (-1)) none = slicePick vs.toArray none (some ((vs.length - 1 : Nat) : Int)) none := by
    unfold slicePick
    have : sliceBounds none (some (-1)) none vs.toArray.size = sliceBounds none (some ((vs.length - 1 : Nat) : Int)) none vs.toArray.size := by
      simp only [sliceBounds, Option.getD_none, List.size_toArray, show (1 : Int) > 0 by decide, if_true, show (-1 : Int) < 0 by decide]
      rw [if_neg (show ¬ (((vs.length - 1 : Nat) : Int) < 0) by omega)]
      congr 1
      congr 1
      omega
    rw [this]
  rw [e, slicePick_upto vs.toArray (vs.length - 1) (by simp)]
  rw [List.dropLast_eq_take]
theorem rows_of : ∀ {l : List (Str × Tok)} {ys : List Line}, l.map (·.1) = (ys.map rowOf).map (fun r => (⟨r.toArray⟩ : Str)) → RowsAre (strValues l) ys
  | [], [], _ => .nil
  | [], _ :: _, h => nomatch h
  | _ :: _, [], h => nomatch h
  | (x, t) :: l, y :: ys, h => by
    have h1 : x = row y.1 y.2.2 y.2.1 := (List.cons.inj h).1
    subst h1
    exact .cons y t (rows_of (List.cons.inj h).2)
theorem rows_last {l : List (Str × Tok)} {ys : List Line} {z : Str} (h : l.map (·.1) = (ys.map rowOf).map (fun r => (⟨r.toArray⟩ : Str)) ++ [z]) :
    slicePick (strValues l).toArray none (some (-1)) none = (strValues l).dropLast.toArray ∧ RowsAre (strValues l).dropLast ys := by
  have hne : l ≠ [] := fun q => by subst q; simp at h
  refine ⟨slice_last (by simpa [strValues] using hne), ?_⟩
  have e : (strValues l).dropLast = strValues l.dropLast := by simp [strValues, List.map_dropLast]
  rw [e]
  apply rows_of
  rw [List.map_dropLast, h, List.dropLast_concat]

noncomputable def SentAt (xr xb : Addr) (nr nb hour th n : Nat) (vs bvs : List Value) (es : List Addr) (xs : List Line) (i : Nat) (tk : Nat) (m : Str → Option Value) (news : List (Addr × Obj)) : Prop :=
  ∃ (tx : Str) (tt : Tok) (ents : List (Addr × Obj)), m (Str.ofString "rows") = some (.ref xr) ∧ m (Str.ofString "book") = some (.ref xb) ∧ m (Str.ofString "hour") = some (.int (hour : Nat) th) ∧ m (Str.ofString "text") = some (.str tx tt) ∧
    tx.cps.toList = lines2 (sentText hour 0 (xs.take i)) ∧ news = (xr, listOf vs.toArray nr) :: (xb, listOf bvs.toArray nb) :: ents ∧ Ents ents es ((xs.take i).map sentLine ++ xs.drop i)

theorem sent_says {w : World} {xr xb : Addr} {vs bvs : List Value} {es : List Addr} {xs : List Line} {ents : List (Addr × Obj)} {nr nb hour n : Nat} {th : Nat} (hxe : xr ≠ xb) (hxr : xr ∉ es) (hxb : xb ∉ es) (hes : es.Nodup) (hE : Ents ents es xs) (hR : RowsAre vs xs) (hb : bvs = es.map .ref) (hn : xs.length = n) (hn8 : n < 200) (hh8 : hour < 200) (hd1 : ∀ x ∈ xs, 1 ≤ x.2.2 ∧ x.1 + x.2.1 + x.2.2 < 100) :
    Says w 18 220 209 [.ref xr, .ref xb, .int (hour : Nat) th] (fun g tk₀ => True) ((xr, listOf vs.toArray nr) :: (xb, listOf bvs.toArray nb) :: ents) (fun tk₀ tk₁ v need' => ∃ q ws c ents', v = .ref q ∧ need' = (q, listOf (ws : List Value).toArray c) :: (xr, listOf vs.toArray nr) :: (xb, listOf bvs.toArray nb) :: ents' ∧ Ents ents' es (xs.map sentLine) ∧ RowsAre ws (xs.map sentLine) ∧ q ≠ xr ∧ q ≠ xb ∧ q ∉ es) := by
  intro mean mg mb dp un gd outer base g s R S N hpre hd hu hret
  have B := S.below
  have KX := S.frag
  have T := S.top
  have XB := S.frag0
  have TB := S.top0

  refine codeAny_hold_toks ?_
  refine' enter (binds := [(Str.ofString "rows", .ref xr), (Str.ofString "book", .ref xb), (Str.ofString "hour", .int (hour : Nat) th)]) S N ?k6 ?k7 ?k8 ?k9 ?kB ?_ ?c2 ?c3 ?c4 ?c5
  case k6 => k_is
  case k7 => k_is
  case k8 => k_room
  case k9 => exact BindsTo.of_eq rfl
  case kB => exact locs rfl
  case c2 => exact rfl
  case c3 => exact rfl
  case c4 => exact rfl
  case c5 => decide
  intro L' h' F' N'
  try dsimp only
  k_fold
  have lvs := hR.len
  have les := hE.len
  have lbv : bvs.length = n := by rw [hb, List.length_map, les, hn]
  k_steps
  apply Hold.out
  rename Fr g L' _ _ => F1
  rename News g L' _ _ => N1
  refine' for_range (n := n) (fun g' => g' = g) (SentAt xr xb nr nb hour th n vs bvs es xs) ?hh ?hx ?hp ?hE ?hs rfl ?hn F1 N1 ?he ?hJ ?turn ?done
  case hh => rfl
  case hx => rfl
  case hp => rfl
  case hE => passes_own
  case hs => intro _; rfl
  case hn => omega
  case he =>
    k_steps
    apply Hold.out
    exact range_ready (by assumption) (by assumption) (by omega) ⟨_, _, by dsimp only at *; omega, rfl⟩
  case hJ =>
    intro tk htk
    exact ⟨_, _, ents, rfl, rfl, rfl, rfl, by rw [List.take_zero]; rfl, rfl, by simpa using hE⟩
  case turn =>
    rintro i g1 m₁ h tk it o news₁ hin H rfl F₁ N₁ hne
    (try dsimp only)
    (try k_fold)
    refine ex3 H fun tx tt ents1 H1 => an7 H1 fun e1 e2 e3 e4 htx z1 hE1 => ?_
    clear H H1
    subst z1
    obtain ⟨⟨a, b, d⟩, hx⟩ : ∃ x, xs[i]? = some x := ⟨_, List.getElem?_eq_getElem (by omega)⟩
    obtain ⟨tr, htr⟩ := hR.at hx
    obtain ⟨e, he⟩ : ∃ e, es[i]? = some e := ⟨_, List.getElem?_eq_getElem (by omega)⟩
    have hbe : bvs[i]? = some (.ref e) := by rw [hb, List.getElem?_map, he]; rfl
    have hxi : ((xs.take i).map sentLine ++ xs.drop i)[i]? = some (a, b, d) := by
      rw [List.getElem?_append_right (by simp; omega), List.getElem?_drop]
      simp only [List.length_map, List.length_take]
      rw [show min i xs.length = i by omega, Nat.sub_self, Nat.add_zero]
      exact hx
    obtain ⟨q1, q2, q3, qc, hem⟩ := hE1.mem_of hxi he
    have hem' : (e, lineObj (a, b, d) q1 q2 q3 qc) ∈ ((it, o) :: (xr, listOf vs.toArray nr) :: (xb, listOf bvs.toArray nb) :: ents1) := .tail _ (.tail _ (.tail _ hem))
    have hst := sent_set hx
    have hnext : ∀ (y : Str), y.cps.toList = endsOf (i + hour) → (tx ++ row a d b ++ y).cps.toList = lines2 (sentText hour 0 (xs.take (i + 1))) := by
      intro y hy
      rw [List.take_add_one, hx, Option.toList_some, sentText_snoc, Str.cps_append, Str.cps_append, Array.toList_append, Array.toList_append, hy, htx, cps_row]
      simp only [lines2, List.map_append, List.flatten_append, List.length_take, Nat.zero_add]
      rw [show min i xs.length = i by omega]
      simp [rowOf]
    try dsimp only
    k_steps
    apply Hold.out
    have hlx := hd1 (a, b, d) (List.mem_of_getElem? hx)
    have hlt := sentText_len hour (xs.take i) 0 (fun y hy => (hd1 y (List.mem_of_mem_take hy)).2)
    have hlt2 : tx.length ≤ 20400 := by
      have : tx.length = tx.cps.toList.length := by simp [Str.length]
      rw [this, htx]
      simp at hlt
      omega
    refine my_glue rfl (by rw [row_len]; omega) ?_
    intro t1 tk1
    try dsimp only
    k_steps
    apply Hold.out
    rename Fr g1 _ _ _ => F2
    rename News g1 _ _ _ => N2
    refine wpAny_mono (Q := fun v s₃ => Hold (∃ (y : Str) (u : Tok) (hh : Heap) (kk : Nat), v = .str y u ∧ y.cps.toList = endsOf (i + hour) ∧ s₃ = ⟨hh, s.gens, s.drawn, kk, s.os⟩ ∧ Fr g1 L' hh (fun z => if z = Str.ofString "place" then some (.int (i : Nat) tk) else m₁ z) ∧ News g1 L' hh ((it, o) :: (xr, listOf vs.toArray nr) :: (xb, listOf bvs.toArray nb) :: ents1))) ?tup ?rest (fun _ _ e => e)
    case tup =>
      refine Subscript_ ?_
      k_steps
      rename News g1 _ _ _ => N3
      refine tup3 (j := (i + hour) % 3) (N3 _ (.head _)).1 (by rw [Int.fmod_eq_emod_of_nonneg _ (by decide)]; omega) (by omega) ?_
      intro y u hy
      apply Hold.out
      refine ⟨y, u, _, _, rfl, ?_, rfl, by assumption, news_sub N3 (fun p hp => .tail _ hp)⟩
      rw [hy]
      unfold endsOf
      split
      · decide +kernel
      · split <;> decide +kernel
    case rest =>
      rintro v s₃ ⟨y, u, h3, tk3, rfl, hy, rfl, F3, N3⟩
      have hyl : y.length ≤ 2 := by
        have : y.length = y.cps.toList.length := by simp [Str.length]
        rw [this, hy]
        exact endsOf_len _
      refine my_glue rfl (by rw [show (tx ++ row a d b).length = tx.length + (row a d b).length by simp [Str.length, Str.cps_append], row_len]; dsimp only at hlx; omega) ?_
      intro t5 tk5
      try dsimp only
      k_steps
      apply Hold.out
      rename Fr g1 _ _ _ => F4
      rename News g1 _ _ _ => N4
      refine wpAny_If ?_
      k_steps
      · have ha : a = 0 := by have := (by assumption : ((a, b, d).fst : Int) = 0); dsimp only at this; omega
        rename Fr g1 _ _ _ => F5
        refine wpAny_getItem_list (items := ([Value.int (a : Nat) q1, Value.int (b : Nat) q2, Value.int (d : Nat) q3] : List Value).toArray) ⟨_, (N4 _ hem').1, rfl, _, rfl⟩ (by decide) (by decide) (show ([Value.int (a : Nat) q1, Value.int (b : Nat) q2, Value.int (d : Nat) q3] : List Value).toArray[Int.toNat 2]? = some (.int (d : Nat) q3) from rfl) ?_
        try dsimp only
        k_steps
        apply Hold.out
        rename Fr g1 _ _ _ => F6
        rename_i tka htka tkb htkb
        obtain ⟨ents2, hU, hE2⟩ := hE1.upd (o := lineObj (a, b, d) q1 q2 q3 qc) (a, b, d + 1) q1 q2 _ qc hes he hem
        have hofs : ∀ p ∈ ((it, o) :: (xr, listOf vs.toArray nr) :: (xb, listOf bvs.toArray nb) :: ([] : List (Addr × Obj))), p.1 ≠ e := by
          have hmem := List.mem_of_getElem? he
          refine List.forall_mem_cons.mpr ⟨Ne.symm (hne (e, _) (.tail _ (.tail _ hem))), List.forall_mem_cons.mpr ⟨fun q => hxr (by rw [show xr = e from q]; exact hmem), List.forall_mem_cons.mpr ⟨fun q => hxb (by rw [show xb = e from q]; exact hmem), List.forall_mem_nil _⟩⟩⟩
        refine set_list (D := e) (vs := [Value.int (a : Nat) q1, Value.int (b : Nat) q2, Value.int (d : Nat) q3]) (n := qc) F6 N4 (.tail (hofs _ (.head _)) (.tail (hofs _ (.tail _ (.head _))) (.tail (hofs _ (.tail _ (.tail _ (.head _)))) hU))) (by decide) (show 2 < 3 by decide) (by decide) ?_
        intro h7 F7 N7
        try dsimp only
        k_steps
        (try dsimp only)
        (try k_unfold)
        (try dsimp only)
        apply Hold.out
        rw [show sentLine (a, b, d) = (a, b, d + 1) by simp [sentLine, ha]] at hst
        refine ⟨_, _, _, _, _, rfl, rfl, F7, N7, ?_, _, _, ents2, by repeat (first | with_reducible assumption | exact if_pos rfl | exact rfl | refine upd_ne (by decide) ?_), by repeat (first | with_reducible assumption | exact if_pos rfl | exact rfl | refine upd_ne (by decide) ?_), by repeat (first | with_reducible assumption | exact if_pos rfl | exact rfl | refine upd_ne (by decide) ?_), by repeat (first | with_reducible assumption | exact if_pos rfl | exact rfl | refine upd_ne (by decide) ?_), hnext y hy, rfl, by rw [← hst]; exact hE2⟩
        refine List.forall_mem_cons.mpr ⟨hne _ (.head _), List.forall_mem_cons.mpr ⟨hne _ (.tail _ (.head _)), ?_⟩⟩
        exact hE2.off fun hm => by
          obtain ⟨p, hp, hpe⟩ := List.mem_map.mp (hE1.fst ▸ hm)
          exact hne p (.tail _ (.tail _ hp)) hpe
      · have ha : a ≠ 0 := by have := (by assumption : ¬ ((a, b, d).fst : Int) = 0); dsimp only at this; omega
        (try dsimp only)
        (try k_unfold)
        (try dsimp only)
        apply Hold.out
        rename Fr g1 _ _ _ => F6
        rw [show sentLine (a, b, d) = (a, b, d) by simp [sentLine, ha]] at hst
        rw [set_self_of hxi] at hst
        refine ⟨_, _, _, _, _, rfl, rfl, F6, N4, hne, _, _, ents1, by repeat (first | with_reducible assumption | exact if_pos rfl | exact rfl | refine upd_ne (by decide) ?_), by repeat (first | with_reducible assumption | exact if_pos rfl | exact rfl | refine upd_ne (by decide) ?_), by repeat (first | with_reducible assumption | exact if_pos rfl | exact rfl | refine upd_ne (by decide) ?_), by repeat (first | with_reducible assumption | exact if_pos rfl | exact rfl | refine upd_ne (by decide) ?_), hnext y hy, rfl, by rw [← hst]; exact hE1⟩
  case done =>
    rintro g1 m₁ h tk news₁ H rfl F₁ N₁
    (try dsimp only)
    (try k_fold)
    refine ex3 H fun tx tt ents1 H1 => an7 H1 fun e1 e2 e3 e4 htx z1 hE1 => ?_
    clear H H1
    subst z1
    rw [show xs.take n = xs by rw [← hn]; exact List.take_length] at htx hE1
    rw [show xs.drop n = [] by rw [← hn]; exact List.drop_length, List.append_nil] at hE1
    have hlt := sentText_len hour xs 0 (fun y hy => (hd1 y hy).2)
    have htl : tx.cps.size = (lines2 (sentText hour 0 xs)).length := by rw [← htx]; simp
    have hok : ∀ p ∈ sentText hour 0 xs, LineOk p := sentText_ok hour xs 0 fun x hx => (hd1 x hx).1
    try dsimp only
    k_steps
    apply Hold.out
    rename Fr g1 _ _ _ => F2
    rename News g1 _ _ _ => N2
    refine (quote_says (ls := sentText hour 0 xs) (by omega) hok htx).call _ B F2 XB N2 TB rfl (fun _ hp => nomatch hp) (fun p hp => hp) no_need (fun _ _ _ => trivial) (by dsimp only [ar, Around.deeper]; omega) (by dsimp only [ar, Around.deeper]; omega) ?_
    rintro v need' h3 tk3 ht3 ⟨⟨x3, u3, rfl, hx3⟩, rfl⟩ F3 N3
    dsimp only at ht3 ⊢
    k_steps
    apply Hold.out
    rename Fr g1 _ _ _ => F4
    rename News g1 _ _ _ => N4
    have hrows : (sentText hour 0 xs).map (·.1) = xs.map rowOf := sentText_rows hour xs 0
    rw [hrows, dotted_rows hd1] at hx3
    have hsp : Txt.split x3 (Str.ofString "\r\n") = ((xs.map sentLine).map rowOf).map (fun r => (⟨r.toArray⟩ : Str)) ++ [Str.empty] := by
      by_cases hx0 : xs = []
      · subst hx0
        have : x3 = ⟨#[]⟩ := str_eq (by rw [hx3]; rfl)
        rw [this]
        decide +kernel
      · refine split_cr (by decide +kernel) (by simpa using hx0) (fun r hr c hc => ?_) hx3
        obtain ⟨y, hy, rfl⟩ := List.mem_map.mp hr
        simp only [rowOf, rowL, List.mem_append, List.mem_replicate] at hc
        omega
    have hx3l : x3.length ≤ 40000 := by
      have : x3.length = x3.cps.toList.length := by simp [Str.length]
      rw [this, hx3]
      have := crlen hd1
      omega
    refine KSpl.split1 F4 N4 (by decide +kernel) ?_ (by unfold sizeLine; omega)
    intro D l h5 tk5 hl ha F5 N5 hD
    rw [hsp] at hl
    obtain ⟨hw1, hw2⟩ := rows_last hl
    k_steps
    apply Hold.out
    intro htoks
    rename News g1 _ _ _ => N6
    rw [hw1] at N6
    have lt6 : ∀ p ∈ ((D, listOf (strValues l).toArray 0) :: ([] ++ (xr, listOf vs.toArray nr) :: (xb, listOf bvs.toArray nb) :: ents1)), p.1 ≠ h5.objs.size + 1 := fun p hp => Nat.ne_of_lt (Nat.lt_succ_of_lt (Heap.lt_size (N5 p hp).1))
    refine hret _ ((h5.objs.size + 1, listOf ((strValues l).dropLast).toArray 0) :: (xr, listOf vs.toArray nr) :: (xb, listOf bvs.toArray nb) :: ents1) _ _ htoks ⟨_, _, 0, ents1, rfl, rfl, hE1, hw2, ?_, ?_, ?_⟩ (Fr.keep (by assumption)) (NewsG.sub (newsG_of N6) (List.forall_mem_cons.mpr ⟨.head _, fun p hp => .tail _ (.tail _ hp)⟩))
    · exact Ne.symm (lt6 _ (.tail _ (.head _)))
    · exact Ne.symm (lt6 _ (.tail _ (.tail _ (.head _))))
    · intro hm
      obtain ⟨p, hp, hpe⟩ := List.mem_map.mp (hE1.fst ▸ hm)
      exact lt6 p (.tail _ (.tail _ (.tail _ hp))) hpe

end
section
open PySem PySem.W PySem.Calls PySem.Spec PyProof.Rows

theorem gset {l : List Int} {i j : Nat} {a : Int} (hi : i < l.length) : (l.set i a).getD j 0 = if i = j then a else l.getD j 0 := by
  rw [List.getD_eq_getElem?_getD, List.getD_eq_getElem?_getD, List.getElem?_set]
  split
  · rename_i h; subst h; simp [hi]
  · rfl

/-- the ints 0 .. n-1 in some order -/
structure PN (n : Nat) (l : List Int) : Prop where
  len : l.length = n
  lo : ∀ i, i < n → 0 ≤ l.getD i 0 ∧ l.getD i 0 < n
  inj : ∀ i j, i < n → j < n → l.getD i 0 = l.getD j 0 → i = j

theorem nodup_le : ∀ (n : Nat) (l : List Int), l.Nodup → (∀ x ∈ l, 0 ≤ x ∧ x < n) → l.length ≤ n
  | 0, [], _, _ => Nat.le_refl _
  | 0, x :: l, _, h => by have := h x (.head _); omega
  | n + 1, l, hn, h => by
    by_cases hm : (n : Int) ∈ l
    · have h1 := nodup_le n (l.erase n) (hn.erase _) (fun x hx => by
        have h2 := h x (List.mem_of_mem_erase hx)
        have h3 : x ≠ n := fun q => by subst q; exact (hn.not_mem_erase) hx
        omega)
      rw [List.length_erase_of_mem hm] at h1
      omega
    · have h1 := nodup_le n l hn (fun x hx => by
        have h2 := h x hx
        have h3 : x ≠ n := fun q => by subst q; exact hm hx
        omega)
      omega

theorem PN.nodup {n : Nat} {l : List Int} (h : PN n l) : l.Nodup := by
  rw [List.nodup_iff_pairwise_ne, List.pairwise_iff_getElem]
  intro i j hi hj hij e
  have h1 : l.getD i 0 = l.getD j 0 := by
    rw [List.getD_eq_getElem?_getD, List.getD_eq_getElem?_getD, List.getElem?_eq_getElem hi, List.getElem?_eq_getElem hj, e]
  have := h.inj i j (by rw [← h.len]; exact hi) (by rw [← h.len]; exact hj) h1
  omega
theorem PN.mem {n : Nat} {l : List Int} (h : PN n l) {x : Int} (hx : x ∈ l) : ∃ i, i < n ∧ l.getD i 0 = x := by
  obtain ⟨i, hi, rfl⟩ := List.getElem_of_mem hx
  exact ⟨i, by rw [← h.len]; exact hi, by rw [List.getD_eq_getElem?_getD, List.getElem?_eq_getElem hi]; rfl⟩
theorem PN.onto {n : Nat} {l : List Int} (h : PN n l) {v : Int} (h0 : 0 ≤ v) (h1 : v < n) : ∃ i, i < n ∧ l.getD i 0 = v := by
  by_cases hm : v ∈ l
  · exact h.mem hm
  · have := nodup_le n (v :: l) (List.nodup_cons.mpr ⟨hm, h.nodup⟩) (fun x hx => by
      rcases List.mem_cons.mp hx with rfl | hx
      · exact ⟨h0, h1⟩
      · obtain ⟨i, hi, rfl⟩ := h.mem hx
        exact h.lo i hi)
    rw [List.length_cons, h.len] at this
    omega
theorem PN.swap {n : Nat} {l l' : List Int} (h : PN n l) {a b : Nat} (ha : a < n) (hb : b < n) (hl : l'.length = n) (he : ∀ i, i < n → l'.getD i 0 = if i = a then l.getD b 0 else if i = b then l.getD a 0 else l.getD i 0) : PN n l' := by
  refine ⟨hl, fun i hi => ?_, fun i j hi hj e => ?_⟩
  · rw [he i hi]
    split
    · exact h.lo b hb
    · split
      · exact h.lo a ha
      · exact h.lo i hi
  · rw [he i hi, he j hj] at e
    have key : ∀ {x y : Nat}, x < n → y < n → l.getD x 0 = l.getD y 0 → x = y := fun hx hy q => h.inj _ _ hx hy q
    by_cases i1 : i = a
    · rw [if_pos i1] at e
      by_cases j1 : j = a
      · omega
      · rw [if_neg j1] at e
        by_cases j2 : j = b
        · rw [if_pos j2] at e; have := key hb ha e; omega
        · rw [if_neg j2] at e; have := key hb hj e; omega
    · rw [if_neg i1] at e
      by_cases i2 : i = b
      · rw [if_pos i2] at e
        by_cases j1 : j = a
        · rw [if_pos j1] at e; have := key ha hb e; omega
        · rw [if_neg j1] at e
          by_cases j2 : j = b
          · omega
          · rw [if_neg j2] at e; have := key ha hj e; omega
      · rw [if_neg i2] at e
        by_cases j1 : j = a
        · rw [if_pos j1] at e; have := key hi hb e; omega
        · rw [if_neg j1] at e
          by_cases j2 : j = b
          · rw [if_pos j2] at e; have := key hi ha e; omega
          · rw [if_neg j2] at e; exact key hi hj e

theorem find_some_of {l : List Int} {v : Int} {i : Nat} (hi : i < l.length) (h : l.getD i 0 = v) : ∃ b, l.findIdx? (fun x => x == v) = some b := by
  cases hf : l.findIdx? (fun x => x == v) with
  | some b => exact ⟨b, rfl⟩
  | none =>
    rw [List.findIdx?_eq_none_iff] at hf
    have := hf l[i] (List.getElem_mem hi)
    rw [List.getD_eq_getElem?_getD, List.getElem?_eq_getElem hi] at h
    simp at h
    simp [h] at this
theorem find_getD {l : List Int} {v : Int} {b : Nat} (h : l.findIdx? (fun x => x == v) = some b) : l.getD b 0 = v ∧ b < l.length := by
  obtain ⟨h1, _, h2⟩ := find_some h
  exact ⟨by rw [List.getD_eq_getElem?_getD, h1]; rfl, h2⟩
theorem find_none_of {l : List Int} {v : Int} (h : ∀ i, i < l.length → l.getD i 0 ≠ v) : l.findIdx? (fun x => x == v) = none := by
  cases hf : l.findIdx? (fun x => x == v) with
  | none => rfl
  | some b => exact absurd (find_getD hf).1 (h b (find_getD hf).2)
theorem none_getD {l : List Int} {v : Int} (h : l.findIdx? (fun x => x == v) = none) {i : Nat} (hi : i < l.length) : l.getD i 0 ≠ v := fun q => by
  obtain ⟨b, hb⟩ := find_some_of hi q
  rw [h] at hb
  cases hb

structure Inv (n : Nat) (C S0 L0 : List Int) (t g : Nat) (m : Int) (S L T : List Int) (gone : List Nat) (older newer : Int) (who : Nat) : Prop where
  lS : S.length = n
  lL : L.length = n
  lT : T.length = n
  hw : who < n
  hwg : who ≠ g
  wg : who ∈ gone
  gg : g ∈ gone
  tg : t ∈ gone
  gn : gone.Nodup
  gl : ∀ x ∈ gone, x < n
  hS : PN n ((S.set who older).set g newer)
  hT : T.set g newer = (S.set who older).set g newer
  hL : PN n ((L.set who (L0.getD t 0)).set g (L0.getD g 0))
  rel : ∀ i, i < n → i ≠ who → i ≠ g → L.getD i 0 = (S.getD i 0 + C.getD i 0) % n
  wm : L.getD who 0 = -1
  gm : L.getD g 0 = -1
  goal : (older + C.getD who 0) % n = (m - newer) % n
  old : ∀ x, x < n → x ∉ gone → S.getD x 0 = S0.getD x 0 ∧ L.getD x 0 = L0.getD x 0
  prev : ∀ x ∈ gone, x ≠ who → x ≠ g → ∃ y ∈ gone, y ≠ g ∧ y < n ∧ L.getD x 0 = (m - ((S.set who older).set g newer).getD y 0) % n

theorem emod_inj {n : Nat} {a x y : Int} (h : (a - x) % n = (a - y) % n) (hx : 0 ≤ x ∧ x < n) (hy : 0 ≤ y ∧ y < n) : x = y := by
  have h1 : (y - x) % n = 0 := by
    have := Int.emod_emod_of_dvd
    have h2 : ((a - x) - (a - y)) % n = 0 := Int.emod_eq_emod_iff_emod_sub_eq_zero.mp h
    rw [show y - x = (a - x) - (a - y) by omega]
    exact h2
  have h3 : (n : Int) ∣ (y - x) := Int.dvd_of_emod_eq_zero h1
  obtain ⟨k, hk⟩ := h3
  have : k = 0 := by
    rcases Int.lt_trichotomy k 0 with h | h | h
    · have : (n : Int) * k ≤ n * (-1) := Int.mul_le_mul_of_nonneg_left (by omega) (by omega)
      omega
    · exact h
    · have : (n : Int) * 1 ≤ n * k := Int.mul_le_mul_of_nonneg_left (by omega) (by omega)
      omega
  subst this
  omega

theorem set_getD_self {S : List Int} {i : Nat} : S.set i (S.getD i 0) = S := by
  apply List.ext_getElem?
  intro j
  rw [List.getElem?_set]
  split
  · rename_i h
    subst h
    split
    · rename_i h
      rw [List.getD_eq_getElem?_getD, List.getElem?_eq_getElem h]
      rfl
    · rename_i h
      rw [List.getElem?_eq_none (by omega)]
  · rfl

/-- what the mending comes to -/
noncomputable def Good (n : Nat) (C : List Int) (r : Bool × List Int × List Int) (M : List Int) : Prop :=
  r.1 = true ∧ r.2.1 = M ∧ PN n r.2.1 ∧ PN n r.2.2 ∧ ∀ i, i < n → r.2.2.getD i 0 = (r.2.1.getD i 0 + C.getD i 0) % n

theorem mod_lo {n : Nat} (hn : 0 < n) (x : Int) : 0 ≤ x % n ∧ x % n < n := ⟨Int.emod_nonneg _ (by omega), Int.emod_lt_of_pos _ (by omega)⟩
theorem mod_uni {n : Nat} {x y : Int} (h : x % n = y % n) (hx : 0 ≤ x ∧ x < n) (hy : 0 ≤ y ∧ y < n) : x = y := by
  rw [Int.emod_eq_of_lt hx.1 hx.2, Int.emod_eq_of_lt hy.1 hy.2] at h
  exact h
theorem mod_cancel {n : Nat} {a b c d : Int} (h : (a + b) % n = (c + d) % n) (h' : a % n = c % n) : b % n = d % n := by
  have h1 := Int.emod_eq_emod_iff_emod_sub_eq_zero.mp h
  have h2 := Int.emod_eq_emod_iff_emod_sub_eq_zero.mp h'
  apply Int.emod_eq_emod_iff_emod_sub_eq_zero.mpr
  have h3 := Int.dvd_of_emod_eq_zero h1
  have h4 := Int.dvd_of_emod_eq_zero h2
  have h5 := Int.dvd_sub h3 h4
  rw [show (a + b - (c + d)) - (a - c) = b - d by omega] at h5
  exact Int.emod_eq_zero_of_dvd h5

theorem mend_end {n : Nat} {C S0 L0 : List Int} {t g : Nat} {m : Int} {S L T : List Int} {gone : List Nat} {older newer : Int} {who : Nat} (hn : 0 < n) (hL0 : PN n L0) (htg : t ≠ g) (ht : t < n) (hg : g < n)
    (hsum : (L0.getD t 0 + L0.getD g 0) % n = (m + C.getD g 0) % n) (I : Inv n C S0 L0 t g m S L T gone older newer who) (hf : L.findIdx? (fun x => x == (older + C.getD who 0) % n) = none) (f : Nat) :
    Good n C (mend n C g (f + 1) S L gone older newer who) (((mirr n S0 L0 t g m (f + 1) T newer).1.set g (mirr n S0 L0 t g m (f + 1) T newer).2)) := by
  obtain ⟨lS, lL, lT, hw, hwg, wg, gg, tg, gn, gl, hS, hT, hL, rel, wm, gm, goal, old, prev⟩ := I
  have hA := hL0.lo t ht
  have hB := hL0.lo g hg
  have hAB : L0.getD t 0 ≠ L0.getD g 0 := fun q => htg (hL0.inj t g ht hg q)
  have Lt : ∀ i, ((L.set who (L0.getD t 0)).set g (L0.getD g 0)).getD i 0 = if g = i then L0.getD g 0 else if who = i then L0.getD t 0 else L.getD i 0 := fun i => by
    rw [gset (by simp; omega), gset (by omega)]
  have hgo := mod_lo hn (older + C.getD who 0)
  have hg2 := mod_lo hn (newer + C.getD g 0)
  obtain ⟨q, hq, hqv⟩ := hL.onto hgo.1 hgo.2
  rw [Lt] at hqv
  have hfree : ∀ i, i < n → L.getD i 0 ≠ (older + C.getD who 0) % n := fun i hi => none_getD hf (by omega)
  -- the goal is one of the two places left
  have hcase : L0.getD t 0 = (older + C.getD who 0) % n ∨ L0.getD g 0 = (older + C.getD who 0) % n := by
    by_cases h1 : g = q
    · rw [if_pos h1] at hqv; exact .inr hqv
    · rw [if_neg h1] at hqv
      by_cases h2 : who = q
      · rw [if_pos h2] at hqv; exact .inl hqv
      · rw [if_neg h2] at hqv; exact absurd hqv (hfree q hq)
  have hsum2 : ((older + C.getD who 0) % n + (newer + C.getD g 0) % n) % n = (L0.getD t 0 + L0.getD g 0) % n := by
    rw [hsum, goal, ← Int.add_emod, show m - newer + (newer + C.getD g 0) = m + C.getD g 0 by omega]
  -- and the giver's is the other
  have hother : (L0.getD t 0 = (older + C.getD who 0) % n ∧ L0.getD g 0 = (newer + C.getD g 0) % n) ∨ (L0.getD g 0 = (older + C.getD who 0) % n ∧ L0.getD t 0 = (newer + C.getD g 0) % n) := by
    rcases hcase with h | h
    · refine .inl ⟨h, ?_⟩
      rw [← h] at hsum2
      exact (mod_uni (mod_cancel hsum2 rfl) hg2 hB).symm
    · refine .inr ⟨h, ?_⟩
      rw [← h, Int.add_comm (L0.getD t 0)] at hsum2
      exact (mod_uni (mod_cancel hsum2 rfl) hg2 hA).symm
  have Lf : ∀ i, ((L.set who ((older + C.getD who 0) % n)).set g ((newer + C.getD g 0) % n)).getD i 0 = if g = i then (newer + C.getD g 0) % n else if who = i then (older + C.getD who 0) % n else L.getD i 0 := fun i => by
    rw [gset (by simp; omega), gset (by omega)]
  have hLf : PN n ((L.set who ((older + C.getD who 0) % n)).set g ((newer + C.getD g 0) % n)) := by
    rcases hother with ⟨h1, h2⟩ | ⟨h1, h2⟩
    · rw [← h1, ← h2]; exact hL
    · refine hL.swap (a := who) (b := g) hw hg (by simp; omega) fun i hi => ?_
      rw [Lf, Lt, Lt, Lt]
      by_cases e1 : g = i
      · subst e1
        rw [if_pos rfl, if_neg (Ne.symm hwg), if_pos rfl, if_neg (Ne.symm hwg), if_pos rfl]
        exact h2.symm
      · rw [if_neg e1]
        by_cases e2 : who = i
        · subst e2
          rw [if_pos rfl, if_pos rfl, if_pos rfl]
          exact h1.symm
        · rw [if_neg e2, if_neg (Ne.symm e2), if_neg (Ne.symm e1), if_neg e1, if_neg e2]
  have hf2 : (L.set who ((older + C.getD who 0) % n)).findIdx? (fun x => x == (newer + C.getD g 0) % n) = none := by
    apply find_none_of
    intro i hi e
    have hi' : i < n := by simp at hi; omega
    by_cases e1 : g = i
    · subst e1
      rw [gset (by omega), if_neg hwg, gm] at e
      omega
    · have := hLf.inj i g hi' hg (by
        rw [Lf, Lf, if_neg e1, if_pos rfl, ← e, gset (by omega)])
      omega
  rw [mend_none_none hf hf2]
  have hmir : mirr n S0 L0 t g m (f + 1) T newer = (T, newer) := by
    rw [goal] at hcase
    have : ∃ k, L0.findIdx? (fun x => x == (m - newer) % n) = some k ∧ (k = t ∨ k = g) := by
      rcases hcase with h | h
      · obtain ⟨k, hk⟩ := find_some_of (by rw [hL0.len]; exact ht) h
        exact ⟨k, hk, .inl (hL0.inj k t (by have := (find_getD hk).2; rw [hL0.len] at this; exact this) ht ((find_getD hk).1.trans h.symm))⟩
      · obtain ⟨k, hk⟩ := find_some_of (by rw [hL0.len]; exact hg) h
        exact ⟨k, hk, .inr (hL0.inj k g (by have := (find_getD hk).2; rw [hL0.len] at this; exact this) hg ((find_getD hk).1.trans h.symm))⟩
    obtain ⟨k, hk, hkk⟩ := this
    simp only [mirr, hk]
    rw [if_pos hkk]
  rw [hmir]
  refine ⟨rfl, hT.symm, hS, hLf, fun i hi => ?_⟩
  show ((L.set who ((older + C.getD who 0) % n)).set g ((newer + C.getD g 0) % n)).getD i 0 = (((S.set who older).set g newer).getD i 0 + C.getD i 0) % n
  rw [Lf, gset (by simp; omega), gset (by omega)]
  by_cases e1 : g = i
  · subst e1; rw [if_pos rfl, if_pos rfl]
  · by_cases e2 : who = i
    · subst e2; rw [if_neg e1, if_pos rfl, if_neg e1, if_pos rfl]
    · rw [if_neg e1, if_neg e2, if_neg e1, if_neg e2]
      exact rel i hi (Ne.symm e2) (Ne.symm e1)

theorem mend_next {n : Nat} {C S0 L0 : List Int} {t g : Nat} {m : Int} {S L T : List Int} {gone : List Nat} {older newer : Int} {who b : Nat} (hn : 0 < n) (hL0 : PN n L0) (ht : t < n) (hg : g < n)
    (I : Inv n C S0 L0 t g m S L T gone older newer who) (hf : L.findIdx? (fun x => x == (older + C.getD who 0) % n) = some b) :
    b ∉ gone ∧ L0.findIdx? (fun x => x == (m - newer) % n) = some b ∧ (S.set who older).getD b 0 = S0.getD b 0 ∧
      Inv n C S0 L0 t g m (S.set who older) ((L.set b (-1)).set who ((older + C.getD who 0) % n)) (T.set b newer) (gone ++ [b]) newer (S0.getD b 0) b := by
  obtain ⟨lS, lL, lT, hw, hwg, wg, gg, tg, gn, gl, hS, hT, hL, rel, wm, gm, goal, old, prev⟩ := I
  obtain ⟨hb, hbl⟩ := find_getD hf
  have hbn : b < n := by omega
  have hgo := mod_lo hn (older + C.getD who 0)
  have hbw : b ≠ who := fun q => by rw [q, wm] at hb; omega
  have hbg : b ≠ g := fun q => by rw [q, gm] at hb; omega
  have Sh : ∀ i, ((S.set who older).set g newer).getD i 0 = if g = i then newer else if who = i then older else S.getD i 0 := fun i => by
    rw [gset (by simp; omega), gset (by omega)]
  have hbgone : b ∉ gone := fun hm => by
    obtain ⟨y, hy, hyg, hyn, hye⟩ := prev b hm hbw hbg
    rw [hb, goal] at hye
    have h1 := emod_inj hye (by have := hS.lo g hg; rw [Sh, if_pos rfl] at this; exact this) (hS.lo y hyn)
    have h2 : ((S.set who older).set g newer).getD g 0 = newer := by rw [Sh, if_pos rfl]
    exact hyg (hS.inj y g hyn hg (by rw [h2]; exact h1.symm))
  obtain ⟨oS, oL⟩ := old b hbn hbgone
  have hSb : (S.set who older).getD b 0 = S0.getD b 0 := by rw [gset (by omega), if_neg (Ne.symm hbw)]; exact oS
  have hL0b : L0.getD b 0 = (m - newer) % n := by rw [← oL, hb, goal]
  have hfind : L0.findIdx? (fun x => x == (m - newer) % n) = some b := by
    obtain ⟨k, hk⟩ := find_some_of (by rw [hL0.len]; exact hbn) hL0b
    have hkn : k < n := by have := (find_getD hk).2; rw [hL0.len] at this; exact this
    rw [hk, hL0.inj k b hkn hbn ((find_getD hk).1.trans hL0b.symm)]
  have Ln : ∀ i, ((L.set b (-1)).set who ((older + C.getD who 0) % n)).getD i 0 = if who = i then (older + C.getD who 0) % n else if b = i then -1 else L.getD i 0 := fun i => by
    rw [gset (by simp; omega), gset (by omega)]
  have S2 : ∀ i, (((S.set who older).set b newer).set g (S0.getD b 0)).getD i 0 = if g = i then S0.getD b 0 else if b = i then newer else if who = i then older else S.getD i 0 := fun i => by
    rw [gset (by simp; omega), gset (by simp; omega), gset (by omega)]
  refine ⟨hbgone, hfind, hSb, ?_⟩
  refine ⟨by simp [lS], by simp [lL], by simp [lT], hbn, hbg, by simp, by simp [gg], by simp [tg], ?_, ?_, ?_, ?_, ?_, ?_, ?_, ?_, ?_, ?_, ?_⟩
  · rw [List.nodup_append]
    refine ⟨gn, by simp, fun x hx y hy => ?_⟩
    rw [List.mem_singleton.mp hy]
    exact fun q => hbgone (q ▸ hx)
  · intro x hx
    rcases List.mem_append.mp hx with hx | hx
    · exact gl x hx
    · rw [List.mem_singleton.mp hx]; exact hbn
  · refine hS.swap (a := g) (b := b) hg hbn (by simp [lS]) fun i hi => ?_
    rw [S2, Sh, Sh, Sh]
    by_cases e1 : g = i
    · subst e1
      rw [if_pos rfl, if_pos rfl, if_neg (Ne.symm hbg), if_neg (Ne.symm hbw), oS]
    · rw [if_neg e1, if_neg (Ne.symm e1)]
      by_cases e2 : b = i
      · subst e2; rw [if_pos rfl, if_pos rfl, if_pos rfl]
      · rw [if_neg e2, if_neg (Ne.symm e2), if_neg e1]
  · apply List.ext_getElem?
    intro j
    have h0 := congrArg (fun l : List Int => l[j]?) hT
    simp only [List.getElem?_set, List.length_set] at h0 ⊢
    by_cases e1 : g = j
    · subst e1; simp [lT, lS]
    · rw [if_neg e1, if_neg e1] at h0 ⊢
      by_cases e2 : b = j
      · subst e2; simp [lT, lS]
      · rw [if_neg e2, if_neg e2]
        exact h0
  · refine hL.swap (a := who) (b := b) hw hbn (by simp [lL]) fun i hi => ?_
    have Lt : ∀ i, ((L.set who (L0.getD t 0)).set g (L0.getD g 0)).getD i 0 = if g = i then L0.getD g 0 else if who = i then L0.getD t 0 else L.getD i 0 := fun i => by
      rw [gset (by simp; omega), gset (by omega)]
    have Lu : ((((L.set b (-1)).set who ((older + C.getD who 0) % n)).set b (L0.getD t 0)).set g (L0.getD g 0)).getD i 0 = if g = i then L0.getD g 0 else if b = i then L0.getD t 0 else if who = i then (older + C.getD who 0) % n else if b = i then -1 else L.getD i 0 := by
      rw [gset (by simp; omega), gset (by simp; omega), Ln]
    rw [Lu, Lt, Lt, Lt]
    by_cases e0 : g = i
    · subst e0; rw [if_pos rfl, if_neg (Ne.symm hwg), if_neg (Ne.symm hbg), if_pos rfl]
    · rw [if_neg e0]
      by_cases e1 : b = i
      · subst e1
        rw [if_pos rfl, if_neg hbw, if_pos rfl, if_neg (Ne.symm hwg), if_pos rfl]
      · rw [if_neg e1]
        by_cases e2 : who = i
        · subst e2
          rw [if_pos rfl, if_pos rfl, if_neg (Ne.symm hbg), if_neg (Ne.symm hbw), hb]
        · rw [if_neg e2, if_neg e1, if_neg (Ne.symm e2), if_neg (Ne.symm e1), if_neg e0, if_neg e2]
  · intro i hi h1 h2
    rw [Ln, gset (by omega)]
    by_cases e2 : who = i
    · subst e2; rw [if_pos rfl, if_pos rfl]
    · rw [if_neg e2, if_neg (Ne.symm h1), if_neg e2]
      exact rel i hi (Ne.symm e2) h2
  · rw [Ln, if_neg (Ne.symm hbw), if_pos rfl]
  · rw [Ln, if_neg hwg, if_neg hbg, gm]
  · have h1 := rel b hbn hbw hbg
    rw [hb, goal, oS] at h1
    have h2 := Int.emod_eq_emod_iff_emod_sub_eq_zero.mp h1
    apply Int.emod_eq_emod_iff_emod_sub_eq_zero.mpr
    have h3 := Int.dvd_of_emod_eq_zero h2
    have h4 : (n : Int) ∣ -(m - newer - (S0.getD b 0 + C.getD b 0)) := Int.dvd_neg.mpr h3
    rw [show newer + C.getD b 0 - (m - S0.getD b 0) = -(m - newer - (S0.getD b 0 + C.getD b 0)) by omega]
    exact Int.emod_eq_zero_of_dvd h4
  · intro x hx hxg
    have h1 : x ∉ gone := fun h => hxg (List.mem_append_left _ h)
    have h2 : x ≠ b := fun h => hxg (by rw [h]; simp)
    have h3 : x ≠ who := fun h => h1 (h ▸ wg)
    obtain ⟨q1, q2⟩ := old x hx h1
    refine ⟨?_, ?_⟩
    · rw [gset (by omega), if_neg (Ne.symm h3), q1]
    · rw [Ln, if_neg (Ne.symm h3), if_neg (Ne.symm h2), q2]
  · intro x hx h1 h2
    have hxg : x ∈ gone := by
      rcases List.mem_append.mp hx with h | h
      · exact h
      · exact absurd (List.mem_singleton.mp h) h1
    by_cases e2 : who = x
    · subst e2
      refine ⟨b, by simp, hbg, hbn, ?_⟩
      rw [Ln, if_pos rfl, S2, if_neg (Ne.symm hbg), if_pos rfl, goal]
    · obtain ⟨y, hy, hyg, hyn, hye⟩ := prev x hxg (Ne.symm e2) h2
      refine ⟨y, List.mem_append_left _ hy, hyg, hyn, ?_⟩
      have hyb : b ≠ y := fun q => hbgone (q ▸ hy)
      rw [Ln, if_neg e2, if_neg (Ne.symm h1), hye, S2, Sh, if_neg (Ne.symm hyg), if_neg (Ne.symm hyg), if_neg hyb]

theorem nat_nodup_le : ∀ (n : Nat) (l : List Nat), l.Nodup → (∀ x ∈ l, x < n) → l.length ≤ n
  | 0, [], _, _ => Nat.le_refl _
  | 0, x :: l, _, h => by have := h x (.head _); omega
  | n + 1, l, hn, h => by
    by_cases hm : n ∈ l
    · have h1 := nat_nodup_le n (l.erase n) (hn.erase _) (fun x hx => by
        have h2 := h x (List.mem_of_mem_erase hx)
        have h3 : x ≠ n := fun q => by subst q; exact (hn.not_mem_erase) hx
        omega)
      rw [List.length_erase_of_mem hm] at h1
      omega
    · have h1 := nat_nodup_le n l hn (fun x hx => by
        have h2 := h x hx
        have h3 : x ≠ n := fun q => by subst q; exact hm hx
        omega)
      omega

theorem mend_good {n : Nat} {C S0 L0 : List Int} {t g : Nat} {m : Int} (hn : 0 < n) (hL0 : PN n L0) (htg : t ≠ g) (ht : t < n) (hg : g < n) (hsum : (L0.getD t 0 + L0.getD g 0) % n = (m + C.getD g 0) % n) :
    ∀ (f : Nat) {S L T : List Int} {gone : List Nat} {older newer : Int} {who : Nat}, gone.length + f = n + 2 → Inv n C S0 L0 t g m S L T gone older newer who →
      Good n C (mend n C g f S L gone older newer who) (((mirr n S0 L0 t g m f T newer).1.set g (mirr n S0 L0 t g m f T newer).2))
  | 0, S, L, T, gone, older, newer, who, hl, I => by
    have := nat_nodup_le n gone I.gn I.gl
    omega
  | f + 1, S, L, T, gone, older, newer, who, hl, I => by
    cases hf : L.findIdx? (fun x => x == (older + C.getD who 0) % n) with
    | none => exact mend_end hn hL0 htg ht hg hsum I hf f
    | some b =>
      obtain ⟨h1, h2, h3, I'⟩ := mend_next hn hL0 ht hg I hf
      have hbt : b ≠ t := fun q => h1 (q ▸ I.tg)
      have hbg : b ≠ g := fun q => h1 (q ▸ I.gg)
      rw [mend_some hf h1, h3]
      have hm : mirr n S0 L0 t g m (f + 1) T newer = mirr n S0 L0 t g m f (T.set b newer) (S0.getD b 0) := by
        simp only [mirr, h2, hbt, hbg, or_self, if_false]
      rw [hm]
      exact mend_good hn hL0 htg ht hg hsum f (by simp; omega) I'

/-- the mending: nobody refused twice, the mirror's seats, the looks by the coins -/
theorem mended_good {n : Nat} {C C0 S L : List Int} {t g : Nat} (hn : 0 < n) (hS : PN n S) (hL : PN n L) (htg : t ≠ g) (ht : t < n) (hg : g < n)
    (hrel : ∀ i, i < n → L.getD i 0 = (S.getD i 0 + C0.getD i 0) % n) (hC : ∀ i, i < n → i ≠ t → i ≠ g → C.getD i 0 = C0.getD i 0) (hCC : C.getD t 0 + C.getD g 0 = C0.getD t 0 + C0.getD g 0) :
    Good n C (mended n C S L t g) (mirrored n C S L t g) := by
  have lS := hS.len
  have lL := hL.len
  unfold mended mirrored
  have L1 : ∀ i, ((L.set t (-1)).set g (-1)).getD i 0 = if g = i then -1 else if t = i then -1 else L.getD i 0 := fun i => by
    rw [gset (by simp; omega), gset (by omega)]
  have S1 : ∀ i, ((S.set t (S.getD t 0)).set g (S.getD g 0)).getD i 0 = S.getD i 0 := fun i => by
    rw [gset (by simp; omega), gset (by omega)]
    by_cases e1 : g = i
    · subst e1; rw [if_pos rfl]
    · rw [if_neg e1]
      by_cases e2 : t = i
      · subst e2; rw [if_pos rfl]
      · rw [if_neg e2]
  refine mend_good hn hL htg ht hg ?_ n (by simp; omega) ⟨lS, by simp [lL], lS, ht, htg, by simp, by simp, by simp, by simp [htg], by simp [ht, hg], ?_, ?_, ?_, ?_, ?_, ?_, ?_, ?_, ?_⟩
  · rw [hrel t ht, hrel g hg, ← Int.add_emod]
    congr 1
    omega
  · exact ⟨by simp [lS], fun i hi => by rw [S1]; exact hS.lo i hi, fun i j hi hj e => by rw [S1, S1] at e; exact hS.inj i j hi hj e⟩
  · rw [set_getD_self, set_getD_self, set_getD_self]
  · have L2 : ∀ i, ((((L.set t (-1)).set g (-1)).set t (L.getD t 0)).set g (L.getD g 0)).getD i 0 = L.getD i 0 := fun i => by
      rw [gset (by simp; omega), gset (by simp; omega), L1]
      by_cases e1 : g = i
      · subst e1; rw [if_pos rfl]
      · rw [if_neg e1]
        by_cases e2 : t = i
        · subst e2; rw [if_pos rfl]
        · rw [if_neg e2, if_neg e1, if_neg e2]
    exact ⟨by simp [lL], fun i hi => by rw [L2]; exact hL.lo i hi, fun i j hi hj e => by rw [L2, L2] at e; exact hL.inj i j hi hj e⟩
  · intro i hi h1 h2
    rw [L1, if_neg (Ne.symm h2), if_neg (Ne.symm h1), hrel i hi, hC i hi h1 h2]
  · rw [L1, if_neg (Ne.symm htg), if_pos rfl]
  · rw [L1, if_pos rfl]
  · congr 1
    omega
  · intro x hx hxg
    have h1 : x ≠ t := fun q => hxg (by rw [q]; simp)
    have h2 : x ≠ g := fun q => hxg (by rw [q]; simp)
    exact ⟨rfl, by rw [L1, if_neg (Ne.symm h2), if_neg (Ne.symm h1)]⟩
  · intro x hx h1 h2
    simp at hx
    rcases hx with h | h
    · exact absurd h h1
    · exact absurd h h2

end
section
open PySem PySem.W PySem.Calls PySem.Spec PyProof.Rows PyProof.V PySem.SeqAt

/-- 0 .. n-1 as ints -/
noncomputable def upto (n : Nat) : List Int := (List.range n).map Int.ofNat
theorem upto_len (n : Nat) : (upto n).length = n := by simp [upto]
theorem upto_getD {n i : Nat} (h : i < n) : (upto n).getD i 0 = i := by
  rw [List.getD_eq_getElem?_getD, upto, List.getElem?_map, List.getElem?_range h]
  rfl
theorem upto_PN (n : Nat) : PN n (upto n) :=
  ⟨upto_len n, fun i hi => by rw [upto_getD hi]; omega, fun i j hi hj e => by rw [upto_getD hi, upto_getD hj] at e; omega⟩

theorem ints_carried : ∀ {vs : List Value} {ns : List Int}, CarriedAll vs (ns.map PyData.int) → IntsAre vs ns := fun {vs ns} h => by
  have := CarriedAll.intsOf (as := ns) (f := id) (vs := vs) h
  simpa using this

theorem reads_rows {h : Heap} : ∀ {vs : List Value} {xs : List Line}, RowsAre vs xs → ReadsAll h vs (xs.map fun x => PyData.str (row x.1 x.2.2 x.2.1)) []
  | _, _, .nil => .nil
  | _, _, .cons x t r => by
    have := ReadsAll.cons (Reads.str (h := h) (row x.1 x.2.2 x.2.1) t) (reads_rows (h := h) r)
    simpa using this
theorem rows_canLay : ∀ xs : List Line, (∀ x ∈ xs, x.1 + x.2.1 + x.2.2 < 2 ^ 20) → PyData.canLayAll0 (xs.map fun x => PyData.str (row x.1 x.2.2 x.2.1)) = true
  | [], _ => by simp [PyData.canLayAll0]
  | x :: r, h => by
    have h2 : PyData.strOk (row x.1 x.2.2 x.2.1) = true := by simp [PyData.strOk, row, rowL]
    simp [PyData.canLayAll0, PyData.canLay0, h2, rows_canLay r (fun y hy => h y (.tail _ hy))]
theorem rows_depth : ∀ xs : List Line, PyData.depthAll (xs.map fun x => PyData.str (row x.1 x.2.2 x.2.1)) ≤ 1
  | [] => by simp [PyData.depthAll]
  | x :: r => by
    have := rows_depth r
    simp only [List.map_cons, PyData.depthAll, PyData.depth]
    omega
theorem rows_noMix : ∀ xs : List Line, noMixAll (xs.map fun x => PyData.str (row x.1 x.2.2 x.2.1)) (xs.map fun x => PyData.str (row x.1 x.2.2 x.2.1)) = true
  | [] => by simp [noMixAll]
  | x :: r => by simp [noMixAll, noMix, rows_noMix r]
theorem rows_same : ∀ xs : List Line, PySem.Spec.sameAll (xs.map fun x => PyData.str (row x.1 x.2.2 x.2.1)) (xs.map fun x => PyData.str (row x.1 x.2.2 x.2.1)) = true
  | [] => by simp [PySem.Spec.sameAll]
  | x :: r => by simp [PySem.Spec.sameAll, PySem.Spec.same, rows_same r]

section
variable {prog : Program} {w : World} {A : Around} {E : Value → Shared → Prop} {s : Shared} {g : Heap} {L : Addr} {m : Str → Option Value} {news : List (Addr × Obj)}

theorem made_list {l : Addr} {vs : List Value} {c : Nat} (N : News g L s.heap news) (hm : (l, listOf vs.toArray c) ∈ news) : s.heap.IsList l vs.toArray := ⟨_, (N _ hm).1, rfl, _, rfl⟩

/-- [x] * n -/
theorem my_times {l : Addr} {v : Value} {c n : Nat} {u : Tok} {Q : Value → Shared → Prop} (F : Fr g L s.heap m) (N : News g L s.heap news) (hm : (l, listOf ([v] : List Value).toArray c) ∈ news) (hn : n < 200)
    (h : ∀ D h', Fr g L h' m → News g L h' ((D, listOf (List.replicate n v).toArray 0) :: news) → (∀ p ∈ news, p.1 < D) → Q (.ref D) { s with heap := h' }) :
    wpAny (model prog w) A (binaryOp .Mult (.ref l) (.int (n : Nat) u)) Q E s := by
  refine KMa.mul (ws := List.replicate n v) F N (made_list N hm) (by omega) (by omega) (by simp; omega) ?_ h
  rw [Int.toNat_natCast]
  clear h hn
  induction n with
  | zero => rfl
  | succ n ih => rw [List.replicate_succ, List.flatten_cons, ih]; rfl

/-- list(range(n)) -/
theorem my_upto {r : Addr} {n : Nat} {t u v : Tok} {Q : Value → Shared → Prop} (hh : A.handled = none) (F : Fr g L s.heap m) (N : News g L s.heap news) (hm : (r, rangeObj n t u v) ∈ news) (hn : n < 200)
    (h : ∀ D h' tk vs c, Fr g L h' m → News g L h' ((D, listOf (vs : List Value).toArray c) :: news) → (∀ p ∈ news, p.1 < D) → IntsAre vs (upto n) → Q (.ref D) { s with heap := h', toks := tk }) :
    wpAny (model prog w) A (call (.type "list") [.ref r]) Q E s := by
  refine list_rangeD (n := n) hh F N (N _ hm).1 (small_one (by decide) (by decide) (by omega) (by omega)) (by rw [rangeSize_one]; split <;> omega) (by omega) ?_
  intro h' tk ys F' N' hk hnone hl hp hc
  obtain ⟨c, hp1⟩ := hp.1
  have e : (rangeInts 0 1 n).map PyData.int = (upto n).map PyData.int := by
    congr 1
    apply List.ext_getElem?
    intro j
    by_cases hj : j < n
    · rw [rangeInts_get hj, upto, List.getElem?_map, List.getElem?_range hj]
      simp
    · rw [List.getElem?_eq_none (by rw [rangeInts_length]; omega), List.getElem?_eq_none (by rw [upto_len]; omega)]
  rw [e] at hc
  have hL : s.heap.objs.size ≠ L := Nat.ne_of_gt F.ns.lt
  refine h _ h' tk ys c F' (fun p hp => ?_) (fun p hp => Heap.lt_size (N p hp).1) (ints_carried hc)
  rcases List.mem_cons.mp hp with rfl | hp
  · exact ⟨hp1, hL, hnone⟩
  · exact N' p hp

theorem my_sum {l : Addr} {vs : List Value} {ns : List Int} {c : Nat} {Q : Value → Shared → Prop} (hh : A.handled = none) (F : Fr g L s.heap m) (N : News g L s.heap news) (hm : (l, listOf vs.toArray c) ∈ news) (hi : IntsAre vs ns)
    (h : ∀ h' tk t', Fr g L h' m → News g L h' news → Q (.int ns.sum t') { s with heap := h', toks := tk }) : wpAny (model prog w) A (call (.builtin "sum") [.ref l]) Q E s := sumK hh F N (made_list N hm) hi h

/-- sorted of the places in some order -/
theorem sorted_upto : ∀ {n : Nat} {l ns : List Int}, PN n l → ns.Perm l → ns.Pairwise (· ≤ ·) → ns = upto n := by
  intro n l ns hl hp hs
  refine List.Perm.eq_of_pairwise (le := (· ≤ ·)) (fun a b _ _ h1 h2 => Int.le_antisymm h1 h2) hs ?_ ?_
  · rw [upto, List.pairwise_map]
    exact List.Pairwise.imp (fun h => Int.ofNat_le.mpr (Nat.le_of_lt h)) List.pairwise_lt_range
  · refine hp.trans ?_
    have h1 : l.Nodup := hl.nodup
    have h2 : (upto n).Nodup := (upto_PN n).nodup
    refine (List.perm_ext_iff_of_nodup h1 h2).mpr fun x => ⟨fun hx => ?_, fun hx => ?_⟩
    · obtain ⟨i, hi, rfl⟩ := hl.mem hx
      have := hl.lo i hi
      rw [upto, List.mem_map]
      exact ⟨(l.getD i 0).toNat, List.mem_range.mpr (by omega), by rw [Int.ofNat_eq_natCast]; omega⟩
    · obtain ⟨i, hi, rfl⟩ := (upto_PN n).mem hx
      obtain ⟨j, hj, e⟩ := hl.onto ((upto_PN n).lo i hi).1 ((upto_PN n).lo i hi).2
      rw [← e, List.getD_eq_getElem?_getD, List.getElem?_eq_getElem (by rw [hl.len]; exact hj)]
      exact List.getElem_mem _

theorem my_sorted {l : Addr} {vs : List Value} {ns : List Int} {c n : Nat} {Q : Value → Shared → Prop} (F : Fr g L s.heap m) (N : News g L s.heap news) (hm : (l, listOf vs.toArray c) ∈ news) (hi : IntsAre vs ns) (hp : PN n ns) (hn : n < 60)
    (h : ∀ D h' vs' e, Fr g L h' m → News g L h' ((D, listOf (vs' : List Value).toArray e) :: news) → (∀ p ∈ news, p.1 < D) → IntsAre vs' (upto n) → Q (.ref D) { s with heap := h' }) :
    wpAny (model prog w) A (call (.builtin "sorted") [.ref l]) Q E s := by
  refine sorted_N F N (made_list N hm) hi (by rw [hi.length, hp.len]; omega) ?_
  intro h' vs' ns' e F' N' hi' hp' hs'
  have := sorted_upto hp hp' hs'
  subst this
  exact h _ h' vs' e F' N' (fun p hp => Nat.lt_succ_of_lt (Heap.lt_size (N p hp).1)) hi'

theorem my_ne_ints {a b : Addr} {vs us : List Value} {ns ms : List Int} {c d : Nat} {Q : Value → Shared → Prop} (N : News g L s.heap news) (ha : (a, listOf vs.toArray c) ∈ news) (hb : (b, listOf us.toArray d) ∈ news) (hi : IntsAre vs ns) (hj : IntsAre us ms) (e : ns = ms) (hu : A.units + 64 < cLine)
    (h : Q (.bool false) s) : wpAny (model prog w) A (compareOp .NotEq (.ref a) (.ref b)) Q E s := by
  refine ne_intsK (made_list N ha) hi (made_list N hb) hj hu ?_
  rw [decide_eq_true e]
  exact h
theorem my_ne_rows {a b : Addr} {vs us : List Value} {xs : List Line} {c d : Nat} {Q : Value → Shared → Prop} (N : News g L s.heap news) (ha : (a, listOf vs.toArray c) ∈ news) (hb : (b, listOf us.toArray d) ∈ news) (hi : RowsAre vs xs) (hj : RowsAre us xs) (hz : ∀ x ∈ xs, x.1 + x.2.1 + x.2.2 < 2 ^ 20) (hu : A.units + 64 < cLine)
    (h : Q (.bool false) s) : wpAny (model prog w) A (compareOp .NotEq (.ref a) (.ref b)) Q E s := by
  have sh : shaped (.list (xs.map fun x => PyData.str (row x.1 x.2.2 x.2.1))) = true := by
    have h1 := rows_depth xs
    have h2 : PyData.depth (.list (xs.map fun x => PyData.str (row x.1 x.2.2 x.2.1))) ≤ 64 := by simp only [PyData.depth]; omega
    show (PyData.canLay0 (.list (xs.map fun x => PyData.str (row x.1 x.2.2 x.2.1))) && decide (PyData.depth (.list (xs.map fun x => PyData.str (row x.1 x.2.2 x.2.1))) ≤ 64)) = true
    rw [Bool.and_eq_true]
    exact ⟨by simp only [PyData.canLay0]; exact rows_canLay xs hz, decide_eq_true h2⟩
  refine ne_dataH_same (Reads.list (N _ ha).1 rfl rfl (by simpa using reads_rows hi)) (Reads.list (N _ hb).1 rfl rfl (by simpa using reads_rows hj)) sh sh hu (by simp only [noMix]; exact rows_noMix xs) ?_
  simp only [PySem.Spec.same, rows_same]
  exact h
end

end
section
open PySem PySem.W PySem.Calls PySem.Spec PyProof.Rows

/-- what of a ledger a call does not need -/
noncomputable def others (need news : List (Addr × Obj)) : List (Addr × Obj) := news.filter fun p => !(need.map (·.1)).contains p.1
theorem others_sub {need news : List (Addr × Obj)} : ∀ p ∈ others need news, p ∈ news := fun p hp => (List.mem_filter.mp hp).1
theorem others_sep {need news : List (Addr × Obj)} : ∀ p ∈ others need news, ∀ q ∈ need, p.1 ≠ q.1 := fun p hp q hq e => by
  have h := (List.mem_filter.mp hp).2
  rw [Bool.not_eq_true', List.contains_eq_mem, decide_eq_false_iff_not] at h
  exact h (e ▸ List.mem_map_of_mem hq)
theorem others_mem {need news : List (Addr × Obj)} {p : Addr × Obj} (hp : p ∈ news) (h : ∀ q ∈ need, p.1 ≠ q.1) : p ∈ others need news := by
  refine List.mem_filter.mpr ⟨hp, ?_⟩
  rw [Bool.not_eq_true', List.contains_eq_mem, decide_eq_false_iff_not]
  intro hm
  obtain ⟨q, hq, e⟩ := List.mem_map.mp hm
  exact h q hq e.symm

theorem Upd.mem {d : Addr} {o o' : Obj} {l l' : List (Addr × Obj)} (U : Upd d o o' l l') : ∀ p ∈ l', p = (d, o') ∨ (p ∈ l ∧ p.1 ≠ d) := by
  intro p hp
  obtain ⟨pre, post, rfl, rfl, h1, h2⟩ := U.split
  rcases List.mem_append.mp hp with hp | hp
  · exact .inr ⟨List.mem_append_left _ hp, h1 p hp⟩
  · rcases List.mem_cons.mp hp with rfl | hp
    · exact .inl rfl
    · exact .inr ⟨List.mem_append_right _ (.tail _ hp), h2 p hp⟩

/-- a call's use, the made objects apart from the rest -/
theorem Says.callN {w : World} {d u : Nat} {f : Addr} {vs : List Value} {Pre : Heap → Nat → Prop} {need : List (Addr × Obj)} {Post : Nat → Nat → Value → List (Addr × Obj) → Prop} (C : Says w d u f vs Pre need Post)
    {mean : ExcName → Option Value} {mg mb : Str → Option Value} {dp un : Nat} {gd : Option (List Code)} {outer : List Env} {A₀ : Around} {base h₀ : Heap} {L : Addr} {m : Str → Option Value} {news : List (Addr × Obj)}
    {cn : Str} {cs : Scope} {a : Addr} {ccd : Value} {cl : List (Str × Addr)} {s : Shared} {Q E : Value → Shared → Prop} (rest : List (Addr × Obj))
    (B : Below A₀ base outer h₀) (F : Fr h₀ L s.heap m) (X : (hd.heap_1 w.params).In base) (N : News h₀ L s.heap news) (T : Top VW LO mean mg mb base) (hk : cs.kind = .function)
    (hn : ∀ p ∈ need, p ∈ news) (hr : ∀ p ∈ rest, p ∈ news) (sep : ∀ p ∈ rest, ∀ q ∈ need, p.1 ≠ q.1)
    (hpre : ∀ g, h₀.StaysIn g → (∀ p ∈ rest, g.get? p.1 = some p.2) → Pre g s.toks) (hd : dp + d < recursionLimit) (hu : un + u < cLine)
    (h : ∀ v need' h' tk', s.toks ≤ tk' → Post s.toks tk' v need' → Fr h₀ L h' m → News h₀ L h' (need' ++ rest) → (∀ p ∈ rest, ∀ q ∈ need', p.1 ≠ q.1) → Q v { s with heap := h', toks := tk' }) :
    wpAny (model PR w) (ar dp un gd (envX cn cs L a ccd cl :: outer)) (PySem.call (.ref f) vs) Q E s := by
  obtain ⟨g, S, NG, st, hrest, _, back⟩ := site_of (dp := dp) (un := un) (gd := gd) (env := envX cn cs L a ccd cl) B F X T (news_sub N hn) (news_sub N hr) sep rfl hk
  refine wpAny_call (C mean mg mb dp un gd _ base g s _ S NG (hpre g st hrest) hd hu fun v need' h' tk' ht hp k N' => ?_)
  obtain ⟨F', N''⟩ := back h' need' k N'
  refine h v need' h' tk' ht hp F' N'' fun p hp q hq e => ?_
  have h1 := hrest p hp
  rw [e, (N' q hq).2] at h1
  cases h1

noncomputable def handedX (X : List Line) (taker giver k : Nat) (ahead : Bool) : List Line :=
  let x := X.getD giver (0, 0, 0)
  let y := X.getD taker (0, 0, 0)
  (X.set giver (x.1 - k, x.2.1 - (k - x.1), x.2.2)).set taker (if ahead then (min k (x.1 + x.2.1) + y.1, y.2.1, y.2.2) else (y.1, y.2.1 + min k (x.1 + x.2.1), y.2.2))

section
variable {w : World} {mean : ExcName → Option Value} {mg mb : Str → Option Value} {dp un : Nat} {gd : Option (List Code)} {outer : List Env} {A₀ : Around} {base h₀ : Heap} {L : Addr} {m : Str → Option Value}
    {cn : Str} {cs : Scope} {a : Addr} {ccd : Value} {cl : List (Str × Addr)} {s : Shared} {Q E : Value → Shared → Prop}

theorem call_handed {fixed ents : List (Addr × Obj)} {xr xb : Addr} {vs : List Value} {es : List Addr} {X : List Line} {nr nb n giver taker k : Nat} {tt tg ta : Nat} {ahead : Bool}
    (B : Below A₀ base outer h₀) (F : Fr h₀ L s.heap m) (XK : (hd.heap_1 w.params).In base) (T : Top VW LO mean mg mb base) (hk : cs.kind = .function)
    (N : News h₀ L s.heap ((xr, listOf vs.toArray nr) :: (xb, listOf (es.map Value.ref).toArray nb) :: (fixed ++ ents))) (hd : dp + 18 < recursionLimit) (hu : un + 220 < cLine)
    (hE : Ents ents es X) (hR : RowsAre vs X) (hl : X.length = n) (hnd : es.Nodup) (hre : xr ∉ es) (hbe : xb ∉ es) (hrb : xr ≠ xb) (hfix : ∀ p ∈ fixed, p.1 ≠ xr ∧ p.1 ≠ xb ∧ p.1 ∉ es) (hg : giver < n) (ht : taker < n) (hgt : giver ≠ taker) (hn : n < 200)
    (hd1 : ∀ x ∈ X, 1 ≤ x.2.2 ∧ x.1 + x.2.1 + x.2.2 < 100) (hkz : k < 2 ^ 20)
    (h : ∀ h' (tk' : Nat) vs' ents', s.toks ≤ tk' → Fr h₀ L h' m → News h₀ L h' ((xr, listOf (vs' : List Value).toArray nr) :: (xb, listOf (es.map Value.ref).toArray nb) :: (fixed ++ ents')) → RowsAre vs' (handedX X taker giver k ahead) → Ents ents' es (handedX X taker giver k ahead) → Q .none { s with heap := h', toks := tk' }) :
    wpAny (model PR w) (ar dp un gd (envX cn cs L a ccd cl :: outer)) (call (.ref 202) [.ref xr, .ref xb, .int (taker : Nat) tt, .int (giver : Nat) tg, .int (k : Nat) ta, .bool ahead]) Q E s := by
  obtain ⟨⟨x1, x2, x3⟩, hx⟩ : ∃ x, X[giver]? = some x := ⟨_, List.getElem?_eq_getElem (by omega)⟩
  obtain ⟨⟨y1, y2, y3⟩, hy⟩ : ∃ x, X[taker]? = some x := ⟨_, List.getElem?_eq_getElem (by omega)⟩
  obtain ⟨ug, hug⟩ := hR.at hx
  obtain ⟨ut, hut⟩ := hR.at hy
  dsimp only at hug hut
  obtain ⟨eg, g1, g2, g3, cg, heg, hmg⟩ := hE.at hx
  obtain ⟨et, t1, t2, t3, ct, het, hmt⟩ := hE.at hy
  have hgm := List.mem_of_getElem? heg
  have htm := List.mem_of_getElem? het
  have hne : eg ≠ et := fun q => by
    have h1 := (List.getElem?_eq_some_iff.mp heg)
    have h2 := (List.getElem?_eq_some_iff.mp het)
    obtain ⟨i1, i2⟩ := h1
    obtain ⟨j1, j2⟩ := h2
    exact hgt ((List.getElem_inj hnd).mp (by rw [i2, j2, q]))
  have bx := hd1 _ (List.mem_of_getElem? hx)
  have by' := hd1 _ (List.mem_of_getElem? hy)
  dsimp only at bx by'
  have hX : handedX X taker giver k ahead = (X.set giver (x1 - k, x2 - (k - x1), x3)).set taker (if ahead then (min k (x1 + x2) + y1, y2, y3) else (y1, y2 + min k (x1 + x2), y3)) := by
    unfold handedX
    rw [List.getD_eq_getElem?_getD, List.getD_eq_getElem?_getD, hx, hy]
    rfl
  have hxr1 : xr ≠ eg := fun q => hre (q ▸ hgm)
  have hxr2 : xr ≠ et := fun q => hre (q ▸ htm)
  have hxb1 : xb ≠ eg := fun q => hbe (q ▸ hgm)
  have hxb2 : xb ≠ et := fun q => hbe (q ▸ htm)
  refine (handed_says (a := x1) (b := x2) (d := x3) (a' := y1) (b' := y2) (d' := y3) (tt := tt) (tg := tg) (ta := ta) (nr := nr) (nb := nb) (cg := cg) (ct := ct) (g1 := g1) (g2 := g2) (g3 := g3) (t1 := t1) (t2 := t2) (t3 := t3) (ahead := ahead) hrb hxr1 hxr2 hxb1 hxb2 hne hgt hug hut (bvs := es.map .ref) (by rw [List.getElem?_map, heg]; rfl) (by rw [List.getElem?_map, het]; rfl) (by omega) (by omega) bx.1 (by omega) (by omega) hkz).call
    (others [(xr, listOf vs.toArray nr), (xb, listOf (es.map Value.ref).toArray nb), (eg, lineObj (x1, x2, x3) g1 g2 g3 cg), (et, lineObj (y1, y2, y3) t1 t2 t3 ct)] ((xr, listOf vs.toArray nr) :: (xb, listOf (es.map Value.ref).toArray nb) :: (fixed ++ ents))) B F XK N T hk ?_ others_sub others_sep (fun _ _ _ => trivial) hd hu ?_
  · refine List.forall_mem_cons.mpr ⟨.head _, List.forall_mem_cons.mpr ⟨.tail _ (.head _), List.forall_mem_cons.mpr ⟨.tail _ (.tail _ (List.mem_append_right _ hmg)), List.forall_mem_cons.mpr ⟨.tail _ (.tail _ (List.mem_append_right _ hmt)), List.forall_mem_nil _⟩⟩⟩⟩
  · rintro v need' h' tk' htk ⟨rfl, ul, ur, q1, q2, p1, p2, rfl⟩ F' N'
    obtain ⟨en1, hU1, hE1⟩ := hE.upd (x1 - k, x2 - (k - x1), x3) q1 q2 g3 cg hnd heg hmg
    have hmt1 : (et, lineObj (y1, y2, y3) t1 t2 t3 ct) ∈ en1 := by
      obtain ⟨pre, post, h1, h2, _, _⟩ := hU1.split
      rw [h1] at hmt
      rw [h2]
      rcases List.mem_append.mp hmt with hp | hp
      · exact List.mem_append_left _ hp
      · rcases List.mem_cons.mp hp with hp | hp
        · exact absurd (congrArg Prod.fst hp) (Ne.symm hne)
        · exact List.mem_append_right _ (.tail _ hp)
    obtain ⟨en2, hU2, hE2⟩ := hE1.upd (if ahead then (min k (x1 + x2) + y1, y2, y3) else (y1, y2 + min k (x1 + x2), y3)) p1 p2 t3 ct hnd het hmt1
    refine h h' tk' ((vs.set giver (.str (row (x1 - k) x3 (x2 - (k - x1))) ul)).set taker (.str (if ahead then row (min k (x1 + x2) + y1) y3 y2 else row y1 y3 (y2 + min k (x1 + x2))) ur)) en2 htk F' (fun p hp => N' p ?_) ?_ (by rw [hX]; exact hE2)
    · rcases List.mem_cons.mp hp with rfl | hp
      · exact List.mem_append_left _ (.head _)
      rcases List.mem_cons.mp hp with rfl | hp
      · exact List.mem_append_left _ (.tail _ (.head _))
      rcases List.mem_append.mp hp with hp | hp
      · obtain ⟨f1, f2, f3⟩ := hfix p hp
        exact List.mem_append_right _ (others_mem (.tail _ (.tail _ (List.mem_append_left _ hp))) (List.forall_mem_cons.mpr ⟨f1, List.forall_mem_cons.mpr ⟨f2, List.forall_mem_cons.mpr ⟨fun q => f3 (q ▸ hgm), List.forall_mem_cons.mpr ⟨fun q => f3 (q ▸ htm), List.forall_mem_nil _⟩⟩⟩⟩))
      · rcases Upd.mem hU2 p hp with rfl | ⟨hp, hpt⟩
        · exact List.mem_append_left _ (.tail _ (.tail _ (.tail _ (.head _))))
        · rcases Upd.mem hU1 p hp with rfl | ⟨hp, hpg⟩
          · exact List.mem_append_left _ (.tail _ (.tail _ (.head _)))
          · have hpe : p.1 ∈ es := hE.fst ▸ List.mem_map_of_mem hp
            exact List.mem_append_right _ (others_mem (.tail _ (.tail _ (List.mem_append_right _ hp))) (List.forall_mem_cons.mpr ⟨fun q => hre ((show p.1 = xr from q) ▸ hpe), List.forall_mem_cons.mpr ⟨fun q => hbe ((show p.1 = xb from q) ▸ hpe), List.forall_mem_cons.mpr ⟨hpg, List.forall_mem_cons.mpr ⟨hpt, List.forall_mem_nil _⟩⟩⟩⟩))
    · rw [hX]
      have hR1 := hR.set (i := giver) (y := (x1 - k, x2 - (k - x1), x3)) (t := ul)
      have hR2 := hR1.set (i := taker) (y := (if ahead then (min k (x1 + x2) + y1, y2, y3) else (y1, y2 + min k (x1 + x2), y3))) (t := ur)
      cases ahead <;> exact hR2

theorem call_mirrored {news : List (Addr × Obj)} {xc xs xl : Addr} {cvs svs lvs : List Value} {CC SS LL : List Int} {nc ns nl n : Nat} {taker giver : Nat} {tt tg : Nat}
    (B : Below A₀ base outer h₀) (F : Fr h₀ L s.heap m) (XK : (hd.heap_1 w.params).In base) (T : Top VW LO mean mg mb base) (hk : cs.kind = .function) (N : News h₀ L s.heap news) (hd : dp + 8 < recursionLimit) (hu : un + 120 < cLine)
    (hc : (xc, listOf cvs.toArray nc) ∈ news) (hs : (xs, listOf svs.toArray ns) ∈ news) (hl : (xl, listOf lvs.toArray nl) ∈ news)
    (hC : IntsAre cvs CC) (hS : IntsAre svs SS) (hL : IntsAre lvs LL) (h5 : CC.length = n) (h6 : PN n SS) (h7 : PN n LL) (hn8 : n < 200) (hn9 : taker < n) (hn10 : giver < n)
    (h : ∀ q h' (tk' : Nat) tvs tc, s.toks ≤ tk' → Fr h₀ L h' m → News h₀ L h' ((q, listOf (tvs : List Value).toArray tc) :: news) → IntsAre tvs (mirrored n CC SS LL taker giver) → (∀ p ∈ news, p.1 ≠ q) → Q (.ref q) { s with heap := h', toks := tk' }) :
    wpAny (model PR w) (ar dp un gd (envX cn cs L a ccd cl :: outer)) (call (.ref 195) [.ref xc, .ref xs, .ref xl, .int (taker : Nat) tt, .int (giver : Nat) tg]) Q E s := by
  refine (mirrored_says (tt := tt) (tg := tg) (nc := nc) (ns := ns) (nl := nl) hC hS hL h5 h6.len h7.len hn8 hn9 hn10 (by omega) (fun x h0 h1 => ?_)).callN
    (others [(xc, listOf cvs.toArray nc), (xs, listOf svs.toArray ns), (xl, listOf lvs.toArray nl)] news) B F XK N T hk ?_ others_sub others_sep (fun _ _ _ => trivial) hd hu ?_
  · obtain ⟨i, hi, e⟩ := h7.onto h0 h1
    obtain ⟨b, hb⟩ := find_some_of (by rw [h7.len]; exact hi) e
    rw [hb]
    exact fun q => nomatch q
  · exact List.forall_mem_cons.mpr ⟨hc, List.forall_mem_cons.mpr ⟨hs, List.forall_mem_cons.mpr ⟨hl, List.forall_mem_nil _⟩⟩⟩
  · rintro v need' h' tk' htk ⟨q, tvs, tc, rfl, rfl, hT, l1, l2, l3⟩ F' N' sp
    have cover : ∀ p ∈ news, p = (xc, listOf cvs.toArray nc) ∨ p = (xs, listOf svs.toArray ns) ∨ p = (xl, listOf lvs.toArray nl) ∨ p ∈ others [(xc, listOf cvs.toArray nc), (xs, listOf svs.toArray ns), (xl, listOf lvs.toArray nl)] news := fun p hp => by
      by_cases e1 : p.1 = xc
      · left
        have h1 := (N p hp).1
        have h2 := (N _ hc).1
        rw [e1] at h1
        rw [h1] at h2
        obtain ⟨p1, p2⟩ := p
        cases e1
        exact congrArg (Prod.mk _) (Option.some.inj h2)
      by_cases e2 : p.1 = xs
      · right; left
        have h1 := (N p hp).1
        have h2 := (N _ hs).1
        rw [e2] at h1
        rw [h1] at h2
        obtain ⟨p1, p2⟩ := p
        cases e2
        exact congrArg (Prod.mk _) (Option.some.inj h2)
      by_cases e3 : p.1 = xl
      · right; right; left
        have h1 := (N p hp).1
        have h2 := (N _ hl).1
        rw [e3] at h1
        rw [h1] at h2
        obtain ⟨p1, p2⟩ := p
        cases e3
        exact congrArg (Prod.mk _) (Option.some.inj h2)
      · right; right; right
        exact others_mem hp (List.forall_mem_cons.mpr ⟨e1, List.forall_mem_cons.mpr ⟨e2, List.forall_mem_cons.mpr ⟨e3, List.forall_mem_nil _⟩⟩⟩)
    refine h q h' tk' tvs tc htk F' (List.forall_mem_cons.mpr ⟨N' _ (.head _), fun p hp => ?_⟩) hT (fun p hp => ?_)
    · rcases cover p hp with rfl | rfl | rfl | hp
      · exact N' _ (.tail _ (.head _))
      · exact N' _ (.tail _ (.tail _ (.head _)))
      · exact N' _ (.tail _ (.tail _ (.tail _ (.head _))))
      · exact N' _ (List.mem_append_right _ hp)
    · rcases cover p hp with rfl | rfl | rfl | hp
      · exact Nat.ne_of_lt l1
      · exact Nat.ne_of_lt l2
      · exact Nat.ne_of_lt l3
      · exact sp p hp _ (.head _)

theorem call_mended {news : List (Addr × Obj)} {xc xs xl : Addr} {cvs svs lvs : List Value} {CC SS LL M : List Int} {nc ns nl n tk0 : Nat} {taker giver : Nat} {tt tg : Nat} {target : List Value → List Value → List (Addr × Obj)}
    (B : Below A₀ base outer h₀) (F : Fr h₀ L s.heap m) (XK : (hd.heap_1 w.params).In base) (T : Top VW LO mean mg mb base) (hk : cs.kind = .function) (N : News h₀ L s.heap news)
    (hc : (xc, listOf cvs.toArray nc) ∈ news) (hs : (xs, listOf svs.toArray ns) ∈ news) (hl : (xl, listOf lvs.toArray nl) ∈ news) (hcs : xc ≠ xs) (hsl : xs ≠ xl) (hcl : xc ≠ xl)
    (hC : IntsAre cvs CC) (hS : IntsAre svs SS) (hL : Fresh tk0 lvs LL) (ht0 : tk0 ≤ s.toks) (h5 : CC.length = n) (h6 : PN n SS) (h7 : PN n LL) (hn8 : n < 200) (hn9 : taker < n) (hn10 : giver < n)
    (hG : Good n CC (mended n CC SS LL taker giver) M)
    (U : ∀ svs' lvs', ∀ p ∈ target svs' lvs', p = (xs, listOf svs'.toArray ns) ∨ p = (xl, listOf lvs'.toArray nl) ∨ (p ∈ news ∧ p.1 ≠ xs ∧ p.1 ≠ xl))
    (h : ∀ h' (tk' : Nat) h₀' svs' lvs' LL', s.toks ≤ tk' → KtsTurn (outer.filterMap (·.frame)) h₀ h₀' → Below A₀ base outer h₀' → Fr h₀' L h' m → News h₀' L h' (target svs' lvs') → IntsAre svs' M → PN n M → Fresh tk' lvs' LL' → PN n LL' → (∀ i, i < n → LL'.getD i 0 = (M.getD i 0 + CC.getD i 0) % n) → Q (.bool true) { s with heap := h', toks := tk' }) :
    wpAny (model PR w) (ar 303 10 (some []) (envX cn cs L a ccd cl :: outer)) (call (.ref 188) [.ref xc, .ref xs, .ref xl, .int (taker : Nat) tt, .int (giver : Nat) tg]) Q E s := by
  obtain ⟨g1, g2, g3, g4, g5⟩ := hG
  refine (mended_says (tt := tt) (tg := tg) (nc := nc) (ns := ns) (nl := nl) hcs hsl hcl hC hS hL h5 h6.len h7.len hn8 hn9 hn10 (by omega)).call
    (others [(xc, listOf cvs.toArray nc), (xs, listOf svs.toArray ns), (xl, listOf lvs.toArray nl)] news) B F XK N T hk ?_ others_sub others_sep (fun _ _ _ => ht0) ?_
  · exact List.forall_mem_cons.mpr ⟨hc, List.forall_mem_cons.mpr ⟨hs, List.forall_mem_cons.mpr ⟨hl, List.forall_mem_nil _⟩⟩⟩
  · rintro v need' h' tk' h₀' htk ⟨rfl, svs', lvs', rfl, hS', hL'⟩ T' B' F' N'
    rw [g1]
    rw [g2] at hS' g3 g5
    refine h h' tk' h₀' svs' lvs' _ htk T' B' F' (fun p hp => N' p ?_) hS' g3 hL' g4 g5
    rcases U svs' lvs' p hp with rfl | rfl | ⟨hp, e2, e3⟩
    · exact .tail _ (.head _)
    · exact .tail _ (.tail _ (.head _))
    · by_cases e1 : p.1 = xc
      · have h1 := (N p hp).1
        have h2 := (N _ hc).1
        rw [e1] at h1
        rw [h1] at h2
        obtain ⟨p1, p2⟩ := p
        cases e1
        rw [show p2 = _ from Option.some.inj h2]
        exact .head _
      · exact List.mem_append_right _ (others_mem hp (List.forall_mem_cons.mpr ⟨e1, List.forall_mem_cons.mpr ⟨e2, List.forall_mem_cons.mpr ⟨e3, List.forall_mem_nil _⟩⟩⟩))

theorem call_sent {fixed ents : List (Addr × Obj)} {xr xb : Addr} {vs : List Value} {es : List Addr} {X : List Line} {nr nb n hour : Nat} {th : Nat}
    (B : Below A₀ base outer h₀) (F : Fr h₀ L s.heap m) (XK : (hd.heap_1 w.params).In base) (T : Top VW LO mean mg mb base) (hk : cs.kind = .function)
    (N : News h₀ L s.heap ((xr, listOf vs.toArray nr) :: (xb, listOf (es.map Value.ref).toArray nb) :: (fixed ++ ents))) (hd : dp + 18 < recursionLimit) (hu : un + 220 < cLine)
    (hE : Ents ents es X) (hR : RowsAre vs X) (hl : X.length = n) (hnd : es.Nodup) (hre : xr ∉ es) (hbe : xb ∉ es) (hrb : xr ≠ xb) (hfix : ∀ p ∈ fixed, p.1 ≠ xr ∧ p.1 ≠ xb ∧ p.1 ∉ es) (hn : n < 200) (hh : hour < 200)
    (hd1 : ∀ x ∈ X, 1 ≤ x.2.2 ∧ x.1 + x.2.1 + x.2.2 < 100)
    (h : ∀ q h' (tk' : Nat) ws c ents', s.toks ≤ tk' → Fr h₀ L h' m → News h₀ L h' ((q, listOf (ws : List Value).toArray c) :: (xr, listOf vs.toArray nr) :: (xb, listOf (es.map Value.ref).toArray nb) :: (fixed ++ ents')) → RowsAre ws (X.map sentLine) → Ents ents' es (X.map sentLine) →
      q ≠ xr → q ≠ xb → q ∉ es → (∀ p ∈ fixed, p.1 ≠ q) → Q (.ref q) { s with heap := h', toks := tk' }) :
    wpAny (model PR w) (ar dp un gd (envX cn cs L a ccd cl :: outer)) (call (.ref 209) [.ref xr, .ref xb, .int (hour : Nat) th]) Q E s := by
  refine (sent_says (th := th) (nr := nr) (nb := nb) hrb hre hbe hnd hE hR rfl hl hn hh hd1).callN
    (others ((xr, listOf vs.toArray nr) :: (xb, listOf (es.map Value.ref).toArray nb) :: ents) ((xr, listOf vs.toArray nr) :: (xb, listOf (es.map Value.ref).toArray nb) :: (fixed ++ ents))) B F XK N T hk ?_ others_sub others_sep (fun _ _ _ => trivial) hd hu ?_
  · refine List.forall_mem_cons.mpr ⟨.head _, List.forall_mem_cons.mpr ⟨.tail _ (.head _), fun p hp => .tail _ (.tail _ (List.mem_append_right _ hp))⟩⟩
  · rintro v need' h' tk' htk ⟨q, ws, c, ents', rfl, rfl, hE', hR', q1, q2, q3⟩ F' N' sp
    have fo : ∀ p ∈ fixed, p ∈ others ((xr, listOf vs.toArray nr) :: (xb, listOf (es.map Value.ref).toArray nb) :: ents) ((xr, listOf vs.toArray nr) :: (xb, listOf (es.map Value.ref).toArray nb) :: (fixed ++ ents)) := fun p hp => by
      obtain ⟨f1, f2, f3⟩ := hfix p hp
      refine others_mem (.tail _ (.tail _ (List.mem_append_left _ hp))) (List.forall_mem_cons.mpr ⟨f1, List.forall_mem_cons.mpr ⟨f2, fun r hr e => f3 ?_⟩⟩)
      rw [e, ← hE.fst]
      exact List.mem_map_of_mem hr
    refine h q h' tk' ws c ents' htk F' (fun p hp => N' p ?_) hR' hE' q1 q2 q3 (fun p hp => sp p (fo p hp) _ (.head _))
    rcases List.mem_cons.mp hp with rfl | hp
    · exact .head _
    rcases List.mem_cons.mp hp with rfl | hp
    · exact .tail _ (.head _)
    rcases List.mem_cons.mp hp with rfl | hp
    · exact .tail _ (.tail _ (.head _))
    rcases List.mem_append.mp hp with hp | hp
    · exact List.mem_append_right _ (fo p hp)
    · exact List.mem_append_left _ (.tail _ (.tail _ (.tail _ hp)))
end

end
section
open PySem PySem.W PySem.Calls PySem.Spec PyProof.Rows

noncomputable def coinsOf (X : List Line) : List Int := X.map fun x => ((x.1 + x.2.1 : Nat) : Int)
theorem coinsOf_len (X : List Line) : (coinsOf X).length = X.length := by simp [coinsOf]
theorem coinsOf_getD {X : List Line} {i : Nat} {x : Line} (h : X[i]? = some x) : (coinsOf X).getD i 0 = ((x.1 + x.2.1 : Nat) : Int) := by
  rw [List.getD_eq_getElem?_getD, coinsOf, List.getElem?_map, h]
  rfl

theorem handedX_len {X : List Line} {t g k : Nat} {a : Bool} : (handedX X t g k a).length = X.length := by simp [handedX]

theorem handedX_at {X : List Line} {t g k : Nat} {a : Bool} {x y : Line} (hg : X[g]? = some x) (ht : X[t]? = some y) (i : Nat) :
    (handedX X t g k a)[i]? = if t = i then some (if a then (min k (x.1 + x.2.1) + y.1, y.2.1, y.2.2) else (y.1, y.2.1 + min k (x.1 + x.2.1), y.2.2)) else if g = i then some (x.1 - k, x.2.1 - (k - x.1), x.2.2) else X[i]? := by
  have h1 := (List.getElem?_eq_some_iff.mp hg).1
  have h2 := (List.getElem?_eq_some_iff.mp ht).1
  unfold handedX
  rw [List.getD_eq_getElem?_getD, List.getD_eq_getElem?_getD, hg, ht]
  dsimp only [Option.getD_some]
  rw [List.getElem?_set, List.getElem?_set]
  simp only [List.length_set, h1, h2, if_true]

/-- what holds of the lines behind i hours -/
noncomputable def LinesOk (i : Nat) (X : List Line) : Prop := ∀ x ∈ X, 1 ≤ x.2.2 ∧ x.1 + x.2.1 ≤ 2 + 8 * i ∧ x.2.2 ≤ 1 + i

theorem handedX_ok {X : List Line} {t g k i : Nat} {a : Bool} (h : LinesOk i X) (hg : g < X.length) (ht : t < X.length) (hk : k ≤ 8) : ∀ x ∈ handedX X t g k a, 1 ≤ x.2.2 ∧ x.1 + x.2.1 ≤ 2 + 8 * (i + 1) ∧ x.2.2 ≤ 1 + i := by
  intro z hz
  obtain ⟨j, hj⟩ := List.getElem?_of_mem hz
  have hgx := List.getElem?_eq_getElem hg
  have htx := List.getElem?_eq_getElem ht
  rw [handedX_at hgx htx] at hj
  have h1 := h _ (List.getElem_mem hg)
  have h2 := h _ (List.getElem_mem ht)
  split at hj
  · cases a
    · simp only [Bool.false_eq_true, if_false, Option.some.injEq] at hj
      subst hj
      dsimp only
      omega
    · simp only [if_true, Option.some.injEq] at hj
      subst hj
      dsimp only
      omega
  · split at hj
    · simp only [Option.some.injEq] at hj
      subst hj
      dsimp only
      omega
    · have := h z (List.mem_of_getElem? hj)
      omega

theorem handedX_coins {X : List Line} {t g k : Nat} {a : Bool} (hg : g < X.length) (ht : t < X.length) (hgt : g ≠ t) :
    (∀ i, i < X.length → i ≠ t → i ≠ g → (coinsOf (handedX X t g k a)).getD i 0 = (coinsOf X).getD i 0) ∧
    (coinsOf (handedX X t g k a)).getD t 0 + (coinsOf (handedX X t g k a)).getD g 0 = (coinsOf X).getD t 0 + (coinsOf X).getD g 0 := by
  have hgx := List.getElem?_eq_getElem hg
  have htx := List.getElem?_eq_getElem ht
  constructor
  · intro i hi h1 h2
    have h3 := List.getElem?_eq_getElem hi
    have h4 := handedX_at (k := k) (a := a) hgx htx i
    rw [if_neg (Ne.symm h1), if_neg (Ne.symm h2), h3] at h4
    rw [coinsOf_getD h4, coinsOf_getD h3]
  · have h4 := handedX_at (k := k) (a := a) hgx htx t
    rw [if_pos rfl] at h4
    have h5 := handedX_at (k := k) (a := a) hgx htx g
    rw [if_neg (Ne.symm hgt), if_pos rfl] at h5
    rw [coinsOf_getD h4, coinsOf_getD h5, coinsOf_getD htx, coinsOf_getD hgx]
    cases a <;> simp only [Bool.false_eq_true, if_false, if_true] <;> omega

theorem sent_coins (X : List Line) : coinsOf (X.map sentLine) = coinsOf X := by
  unfold coinsOf
  rw [List.map_map]
  apply List.map_congr_left
  intro x _
  show (((sentLine x).1 + (sentLine x).2.1 : Nat) : Int) = _
  unfold sentLine
  split
  · rename_i h; dsimp only; rw [h]
  · rfl

theorem sent_ok {X : List Line} {i : Nat} (h : ∀ x ∈ X, 1 ≤ x.2.2 ∧ x.1 + x.2.1 ≤ 2 + 8 * (i + 1) ∧ x.2.2 ≤ 1 + i) : LinesOk (i + 1) (X.map sentLine) := by
  intro y hy
  obtain ⟨x, hx, rfl⟩ := List.mem_map.mp hy
  have h1 := h x hx
  unfold sentLine
  split
  · rename_i h0; dsimp only; omega
  · omega

noncomputable def lensOf (X : List Line) : List Int := X.map fun x => ((x.1 + x.2.2 + x.2.1 : Nat) : Int)
theorem grown_ok : ∀ X : List Line, 0 ≤ (lensOf (X.map sentLine)).sum - (lensOf X).sum ∧ (lensOf (X.map sentLine)).sum - (lensOf X).sum ≤ X.length
  | [] => by simp [lensOf]
  | x :: X => by
    have ih := grown_ok X
    have h1 : 0 ≤ (((sentLine x).1 + (sentLine x).2.2 + (sentLine x).2.1 : Nat) : Int) - ((x.1 + x.2.2 + x.2.1 : Nat) : Int) ∧ (((sentLine x).1 + (sentLine x).2.2 + (sentLine x).2.1 : Nat) : Int) - ((x.1 + x.2.2 + x.2.1 : Nat) : Int) ≤ 1 := by
      unfold sentLine
      split
      · rename_i h0; dsimp only; omega
      · omega
    simp only [lensOf, List.map_cons, List.sum_cons, List.length_cons] at ih ⊢
    omega

/-- who gives and who takes -/
theorem deal {n : Nat} {d : Int} (h5 : 5 ≤ n) (h7 : n ≤ 7) (hd : 0 ≤ d) : ∃ g t : Nat, g < n ∧ t < n ∧ g ≠ t ∧ d.fmod n = (g : Nat) ∧ ((g : Nat) + 1 + (d.fdiv n).fmod ((n : Int) - 1)).fmod n = ((t : Nat) : Int) := by
  obtain rfl | rfl | rfl : n = 5 ∨ n = 6 ∨ n = 7 := by omega
  all_goals
    rw [Int.fmod_eq_emod_of_nonneg _ (by omega), Int.fdiv_eq_ediv_of_nonneg _ (by omega)]
  · refine ⟨(d % 5).toNat, ((d % 5 + 1 + (d / 5) % 4) % 5).toNat, by omega, by omega, by omega, by omega, ?_⟩
    rw [Int.fmod_eq_emod_of_nonneg _ (by omega), Int.fmod_eq_emod_of_nonneg _ (by omega)]
    omega
  · refine ⟨(d % 6).toNat, ((d % 6 + 1 + (d / 6) % 5) % 6).toNat, by omega, by omega, by omega, by omega, ?_⟩
    rw [Int.fmod_eq_emod_of_nonneg _ (by omega), Int.fmod_eq_emod_of_nonneg _ (by omega)]
    omega
  · refine ⟨(d % 7).toNat, ((d % 7 + 1 + (d / 7) % 6) % 7).toNat, by omega, by omega, by omega, by omega, ?_⟩
    rw [Int.fmod_eq_emod_of_nonneg _ (by omega), Int.fmod_eq_emod_of_nonneg _ (by omega)]
    omega

noncomputable def looks0 (n i : Nat) : List Int := (List.range i).map fun (p : Nat) => ((p : Int) + 2) % (n : Int)
theorem looks0_len (n i : Nat) : (looks0 n i).length = i := by simp [looks0]
theorem looks0_getD {n i j : Nat} (h : j < i) : (looks0 n i).getD j 0 = ((j : Int) + 2) % (n : Int) := by
  rw [List.getD_eq_getElem?_getD, looks0, List.getElem?_map, List.getElem?_range h]
  rfl
theorem looks0_PN {n : Nat} (h5 : 5 ≤ n) : PN n (looks0 n n) := by
  refine ⟨looks0_len n n, fun i hi => ?_, fun i j hi hj e => ?_⟩
  · rw [looks0_getD hi]
    exact ⟨Int.emod_nonneg _ (by omega), Int.emod_lt_of_pos _ (by omega)⟩
  · rw [looks0_getD hi, looks0_getD hj] at e
    have key : ∀ k : Nat, k < n → ((k : Int) + 2) % (n : Int) = if k + 2 < n then (k : Int) + 2 else (k : Int) + 2 - n := by
      intro k hk
      split
      · exact Int.emod_eq_of_lt (by omega) (by omega)
      · rw [← Int.sub_emod_right]
        exact Int.emod_eq_of_lt (by omega) (by omega)
    rw [key i hi, key j hj] at e
    split at e <;> split at e <;> omega
theorem Fresh.snoc {tk : Nat} {vs : List Value} {ns : List Int} (F : Fresh tk vs ns) {x : Int} {t : Nat} (h0 : t ≠ 0) (h1 : t < tk) (hs : smallInt x = true) : Fresh tk (vs ++ [.int x t]) (ns ++ [x]) :=
  ⟨F.1.append (.cons _ _ .nil), fun v hv => by
    rcases List.mem_append.mp hv with hv | hv
    · exact F.2 v hv
    · rw [List.mem_singleton.mp hv]
      exact ⟨x, t, rfl, h0, h1, hs⟩⟩
theorem looks0_succ (n i : Nat) : looks0 n (i + 1) = looks0 n i ++ [((i : Int) + 2) % (n : Int)] := by simp [looks0, List.range_succ]

end
section
open PySem PySem.W PySem.Calls PySem.Spec PyProof.Rows


/-- one of these names -/
protected def anyOf (l : List String) (f : Lean.TSyntax `str → Lean.MacroM (Lean.TSyntax `tactic)) : Lean.MacroM (Lean.TSyntax `tactic) := do
  l.foldrM (fun n t => do
    let s ← f (Lean.Syntax.mkStrLit n)
    `(tactic| first | $s:tactic | $t:tactic)) (← `(tactic| fail))
local macro_rules | `(tactic| walk_at "eval Name") => do
  let t ← Mine.anyOf ["size", "book", "seats"] fun n => `(tactic| with_reducible show wpAny _ _ (eval (Expr.Name (Str.ofString $n) _) (envOfC _ _ _ _ _)) _ _ _)
  `(tactic| (k_here; $t:tactic; k_dflt (refine' nameX_C ?N ?c ?m ?d ?_ ?a ?b; (case a => exact rfl); (case b => exact rfl); (case N => k_asm); (case c => exact rfl); (case m => k_mem); (case d => k_asm); k_whole)))
local macro_rules | `(tactic| walk_at "eval Name") => do
  let t ← Mine.anyOf ["deeds", "rows", "looks", "grown", "hour", "giver", "taker", "ahead", "coins", "told", "sent"] fun n => `(tactic| with_reducible show wpAny _ _ (eval (Expr.Name (Str.ofString $n) _) (envOfC _ _ _ _ _)) _ _ _)
  `(tactic| (k_here; $t:tactic; k_dflt (refine' nameX_L ?F ?v ?_ ?a ?b; (case F => k_asm); (case a => exact rfl); (case b => exact rfl); (case v => walk_at "my upd"); k_whole)))
local macro_rules | `(tactic| walk_at "eval Name") => do
  let t ← Mine.anyOf ["_law_handed", "add", "_law_mirrored", "_law_mended", "_law_sent"] fun n => `(tactic| with_reducible show wpAny _ _ (eval (Expr.Name (Str.ofString $n) _) (envOfC _ _ _ _ _)) _ _ _)
  `(tactic| (k_here; $t:tactic; k_dflt (refine' nameX_K ?F ?X ?T ?e ?_ ?a ?b; (case F => k_asm); (case X => k_asm); (case T => k_asm); (case a => exact rfl); (case b => exact rfl); (case e => k_is); k_whole)))
local macro_rules | `(tactic| walk_at "eval Name") => do
  let t ← Mine.anyOf ["range", "list", "len", "sorted", "sum"] fun n => `(tactic| with_reducible show wpAny _ _ (eval (Expr.Name (Str.ofString $n) _) (envOfC _ _ _ _ _)) _ _ _)
  `(tactic| (k_here; $t:tactic; k_dflt (refine' nameX_B ?F ?X ?T ?e ?v ?n ?_ ?a ?b; (case F => k_asm); (case X => k_asm); (case T => k_asm); (case a => exact rfl); (case b => exact rfl); (case e => k_is); (case v => boot_fast); (case n => decide); k_whole)))
local macro_rules | `(tactic| walk_at "storeName") => do
  let t ← Mine.anyOf ["size", "book", "seats"] fun n => `(tactic| with_reducible show wpAny _ _ (storeName (envOfC _ _ _ _ _) (Str.ofString $n) _) _ _ _)
  `(tactic| (k_here; $t:tactic; k_dflt (refine' storeX_C ?F ?N ?c ?U ?d ?_ ?a ?b; (case a => exact rfl); (case b => exact rfl); (case F => k_asm); (case N => k_asm); (case c => exact rfl); (case U => k_updF); (case d => k_asm); k_whole); intro h' o' F' N' d'; (try dsimp only at N'); (try k_sweep)))
local macro_rules | `(tactic| walk_at "storeName") => do
  let t ← Mine.anyOf ["deeds", "rows", "looks", "grown", "hour", "giver", "taker", "ahead", "coins", "told", "sent"] fun n => `(tactic| with_reducible show wpAny _ _ (storeName (envOfC _ _ _ _ _) (Str.ofString $n) _) _ _ _)
  `(tactic| (k_here; $t:tactic; k_dflt (refine' storeX_L ?F ?N ?_ ?a ?b; (case F => k_asm); (case N => k_asm); (case a => exact rfl); (case b => exact rfl); k_whole); intro h' F' N'; (try k_sweep)))
open PyProof.Rows.LCg Rx
local macro_rules | `(tactic| walk_at $s:str) => if ["binaryOp Mult ref int", "eval ListComp", "call type:list", "compareOp NotEq ref ref", "binaryOp Mult str int", "binaryOp Add str str", "call builtin:sorted", "call builtin:sum", "binaryOp Mult int int"].contains s.getString then `(tactic| (refine hold_of ?_)) else Lean.Macro.throwUnsupported

local macro_rules | `(tactic| walk_at "call ref") => `(tactic| ((first | (with_reducible show wpAny _ _ (call (Value.ref 202) _) _ _ _) | (with_reducible show wpAny _ _ (call (Value.ref 195) _) _ _ _) | (with_reducible show wpAny _ _ (call (Value.ref 188) _) _ _ _) | (with_reducible show wpAny _ _ (call (Value.ref 209) _) _ _ _) | (with_reducible show wpAny _ _ (call (Value.ref 73) _) _ _ _)); refine hold_of ?_))

local macro_rules | `(tactic| walk_at "exec Assign cons ListComp") => `(tactic| (first | (with_reducible show wpAny _ _ (exec (Stmt.Assign [Expr.Name (Str.ofString "looks") _] _ _) _) _ _ _) | (with_reducible show wpAny _ _ (exec (Stmt.Assign [Expr.Name (Str.ofString "coins") _] _ _) _) _ _ _)); refine hold_of ?_)


local macro_rules | `(tactic| walk_at "subscriptTail") => do
  let t ← Mine.anyOf ["book", "seats", "entry"] fun n => `(tactic| with_reducible show wpAny _ _ (subscriptTail (Expr.Name (Str.ofString $n) _) _ (Value.ref _) (Value.int _ _)) _ _ _)
  `(tactic| (k_here; (first | $t:tactic | with_reducible show wpAny _ _ (subscriptTail (Expr.Subscript _ _ _) _ (Value.ref _) (Value.int _ _)) _ _ _); walk_at "my item"))
local macro_rules | `(tactic| walk_at "call builtin:len") => `(tactic| (k_here; (with_reducible show wpAny _ _ (call (Value.builtin "len") [Value.str (row _ _ _) _]) _ _ _); refine my_strlen row_len (by omega) ?_))
local macro_rules | `(tactic| walk_at "storeName") => `(tactic| (first | (with_reducible show wpAny _ _ (storeName (envOfC _ _ _ _ _) (Str.ofString "giver") _) _ _ _) | (with_reducible show wpAny _ _ (storeName (envOfC _ _ _ _ _) (Str.ofString "taker") _) _ _ _)); refine hold_of ?_)

theorem my_range {prog : Program} {w : World} {A : Around} {E : Value → Shared → Prop} {s : Shared} {g : Heap} {L : Addr} {m : Str → Option Value} {news : List (Addr × Obj)} {n : Nat} {k : Int} {t : Tok} {Q : Value → Shared → Prop} (F : Fr g L s.heap m) (N : News g L s.heap news) (hk : k = (n : Nat))
    (h : ∀ r h' tk u v, Fr g L h' m → News g L h' ((r, rangeObj n u t v) :: news) → (∀ p ∈ news, p.1 < r) → Q (.ref r) { s with heap := h', toks := tk }) : wpAny (model prog w) A (call (.type "range") [.int k t]) Q E s := by
  subst hk
  obtain ⟨F0, N0, hne⟩ := News.pushed F N (rangeObj n s.toks t (s.toks + 1)) rfl
  exact call_range_1 (h _ _ _ _ _ F0 N0 fun p hp => Heap.lt_size (N p hp).1)

theorem range_from {prog : Program} {w : World} {A : Around} {E : Value → Shared → Prop} {s s₀ : Shared} {g : Heap} {L : Addr} {m : Str → Option Value} {news : List (Addr × Obj)} {n : Nat} {k : Int} {t : Tok} {J : Nat → Nat → List Value → List (Addr × Obj) → Prop} {P : Nat → Value → Prop} (F : Fr g L s.heap m) (N : News g L s.heap news) (hk : k = (n : Nat))
    (hs : ∃ tk h, s₀.toks ≤ tk ∧ s = { s₀ with heap := h, toks := tk }) (hJ : ∀ tk, s₀.toks ≤ tk → J 0 tk [] news) (hP : ∀ (i : Nat) t, P i (.int (i : Nat) t)) : wpAny (model prog w) A (call (.type "range") [.int k t]) (CompFrom g L m s₀ n P J) E s := by
  obtain ⟨tk, h, ht, rfl⟩ := hs
  refine wpAny_with_toks (n := tk) (Nat.le_refl _) (my_range F N hk ?_)
  intro r h' tk' u v F' N' hr htk
  have ht' : s₀.toks ≤ tk' := Nat.le_trans ht htk
  exact ⟨h', tk', news, rfl, ht', F', news_sub N' (fun p hp => .tail _ hp), hJ _ ht', .inr ⟨r, u, t, v, rfl, (N' _ (.head _)).1, hP⟩⟩

theorem Ents.snoc {ents : List (Addr × Obj)} {es : List Addr} {xs : List Line} (h : Ents ents es xs) (e : Addr) (x : Line) (t1 t2 t3 : Tok) (c : Nat) : Ents (ents ++ [(e, lineObj x t1 t2 t3 c)]) (es ++ [e]) (xs ++ [x]) := by
  induction h with
  | nil => exact .cons e x t1 t2 t3 c .nil
  | cons e0 x0 u1 u2 u3 c0 h ih => exact .cons _ _ _ _ _ _ ih

theorem mem_snoc {α : Type} {a b c x : α} {l r : List α} : ∀ p ∈ a :: b :: c :: ((l ++ [x]) ++ r), p ∈ x :: a :: b :: c :: (l ++ r) := by
  intro p hp
  simp only [List.mem_cons, List.mem_append, List.not_mem_nil, or_false] at hp ⊢
  rcases hp with h | h | h | (h | h) | h <;> simp [h]
theorem mem_turn {α : Type} {a : α} {l r : List α} : ∀ p ∈ a :: (r ++ l), p ∈ a :: (l ++ r) := by
  intro p hp
  simp only [List.mem_cons, List.mem_append] at hp ⊢
  rcases hp with h | h | h <;> simp [h]

noncomputable def BookJ (news0 : List (Addr × Obj)) (i tk : Nat) (ys : List Value) (news : List (Addr × Obj)) : Prop :=
  ∃ ents es, news = ents ++ news0 ∧ Ents ents es (List.replicate i (1, 1, 1)) ∧ ys = es.map .ref ∧ es.Nodup ∧ ∀ e ∈ es, ∀ p ∈ news0, p.1 ≠ e

theorem rows_rep {t : Tok} : ∀ n : Nat, RowsAre (List.replicate n (.str (Str.ofString " . ") t)) (List.replicate n (1, 1, 1))
  | 0 => .nil
  | n + 1 => by
    rw [show Str.ofString " . " = row 1 1 1 by decide +kernel, List.replicate_succ, List.replicate_succ]
    exact .cons (1, 1, 1) t (by have := rows_rep (t := t) n; rwa [show Str.ofString " . " = row 1 1 1 by decide +kernel] at this)

theorem row_count {a d b : Nat} : (row a d b).cps.toList.count 32 = a + b := by
  rw [cps_row, rowL, List.count_append, List.count_append]
  simp [List.count_replicate]

theorem RowsAre.snoc {vs : List Value} {xs : List Line} (h : RowsAre vs xs) (y : Line) (t : Tok) : RowsAre (vs ++ [.str (row y.1 y.2.2 y.2.1) t]) (xs ++ [y]) := by
  induction h with
  | nil => exact .cons y t .nil
  | cons x u h ih => exact .cons x u ih
theorem lensOf_len (X : List Line) : (lensOf X).length = X.length := by simp [lensOf]
noncomputable def RunsAt (L' xb xs xl xd : Addr) (o1 o2 o3 : Obj) (es : List Addr) (nb ns nl nd n : Nat) (dvs : List Value) (i tk : Nat) (m : Str → Option Value) (news : List (Addr × Obj)) : Prop :=
  ∃ (xr : Addr) (vs : List Value) (nr : Nat) (svs lvs : List Value) (ents : List (Addr × Obj)) (X : List Line) (S L : List Int) (grown : Int) (tg : Nat),
    m (Str.ofString "deeds") = some (.ref xd) ∧ m (Str.ofString "rows") = some (.ref xr) ∧ m (Str.ofString "looks") = some (.ref xl) ∧ m (Str.ofString "grown") = some (.int grown tg) ∧
    (∀ p ∈ (xr, listOf vs.toArray nr) :: (xb, listOf (es.map Value.ref).toArray nb) :: ([(xs, listOf svs.toArray ns), (xl, listOf lvs.toArray nl), (xd, listOf dvs.toArray nd), (L' + 1, o3), (L' + 1 + 1, o2), (L' + 1 + 1 + 1, o1)] ++ ents), p ∈ news) ∧
    RowsAre vs X ∧ Ents ents es X ∧ X.length = n ∧ IntsAre svs S ∧ PN n S ∧ Fresh tk lvs L ∧ PN n L ∧ (∀ j, j < n → L.getD j 0 = (S.getD j 0 + (coinsOf X).getD j 0) % n) ∧ LinesOk i X ∧ 0 ≤ grown ∧ grown ≤ n ∧
    xr ∉ es ∧ @Ne Nat xr xb ∧ @Ne Nat xr xs ∧ @Ne Nat xr xl ∧ @Ne Nat xr xd ∧ @Ne Nat xr (L' + 1) ∧ @Ne Nat xr (L' + 1 + 1) ∧ @Ne Nat xr (L' + 1 + 1 + 1)
theorem RunsAt.elim {L' xb xs xl xd : Addr} {o1 o2 o3 : Obj} {es : List Addr} {nb ns nl nd n : Nat} {dvs : List Value} {i tk : Nat} {m : Str → Option Value} {news : List (Addr × Obj)} {P : Prop} (H : RunsAt L' xb xs xl xd o1 o2 o3 es nb ns nl nd n dvs i tk m news) (k : ∀ (xr : Addr) (vs : List Value) (nr : Nat) (svs lvs : List Value) (ents : List (Addr × Obj)) (X : List Line) (S L : List Int) (grown : Int) (tg : Nat), (m (Str.ofString "deeds") = some (.ref xd)) → (m (Str.ofString "rows") = some (.ref xr)) → (m (Str.ofString "looks") = some (.ref xl)) → (m (Str.ofString "grown") = some (.int grown tg)) → (∀ p ∈ (xr, listOf vs.toArray nr) :: (xb, listOf (es.map Value.ref).toArray nb) :: ([(xs, listOf svs.toArray ns), (xl, listOf lvs.toArray nl), (xd, listOf dvs.toArray nd), (L' + 1, o3), (L' + 1 + 1, o2), (L' + 1 + 1 + 1, o1)] ++ ents), p ∈ news) → (RowsAre vs X) → (Ents ents es X) → (X.length = n) → (IntsAre svs S) → (PN n S) → (Fresh tk lvs L) → (PN n L) → (∀ j, j < n → L.getD j 0 = (S.getD j 0 + (coinsOf X).getD j 0) % n) → (LinesOk i X) → (0 ≤ grown) → (grown ≤ n) → (xr ∉ es) → (@Ne Nat xr xb) → (@Ne Nat xr xs) → (@Ne Nat xr xl) → (@Ne Nat xr xd) → (@Ne Nat xr (L' + 1)) → (@Ne Nat xr (L' + 1 + 1)) → (@Ne Nat xr (L' + 1 + 1 + 1)) → P) : P := by
  obtain ⟨xr, vs, nr, svs, lvs, ents, X, S, L, grown, tg, h0_, h1_, h2_, h3_, h4_, h5_, h6_, h7_, h8_, h9_, h10_, h11_, h12_, h13_, h14_, h15_, h16_, h17_, h18_, h19_, h20_, h21_, h22_, h23_⟩ := H
  exact k _ _ _ _ _ _ _ _ _ _ _ h0_ h1_ h2_ h3_ h4_ h5_ h6_ h7_ h8_ h9_ h10_ h11_ h12_ h13_ h14_ h15_ h16_ h17_ h18_ h19_ h20_ h21_ h22_ h23_
theorem RunsAt.intro {L' xb xs xl xd : Addr} {o1 o2 o3 : Obj} {es : List Addr} {nb ns nl nd n : Nat} {dvs : List Value} {i tk : Nat} {m : Str → Option Value} {news : List (Addr × Obj)} : ∀ (xr : Addr) (vs : List Value) (nr : Nat) (svs lvs : List Value) (ents : List (Addr × Obj)) (X : List Line) (S L : List Int) (grown : Int) (tg : Nat), (m (Str.ofString "deeds") = some (.ref xd)) → (m (Str.ofString "rows") = some (.ref xr)) → (m (Str.ofString "looks") = some (.ref xl)) → (m (Str.ofString "grown") = some (.int grown tg)) → ((∀ p ∈ (xr, listOf vs.toArray nr) :: (xb, listOf (es.map Value.ref).toArray nb) :: ([(xs, listOf svs.toArray ns), (xl, listOf lvs.toArray nl), (xd, listOf dvs.toArray nd), (L' + 1, o3), (L' + 1 + 1, o2), (L' + 1 + 1 + 1, o1)] ++ ents), p ∈ news)) → (RowsAre vs X) → (Ents ents es X) → (X.length = n) → (IntsAre svs S) → (PN n S) → (Fresh tk lvs L) → (PN n L) → ((∀ j, j < n → L.getD j 0 = (S.getD j 0 + (coinsOf X).getD j 0) % n)) → (LinesOk i X) → (0 ≤ grown) → (grown ≤ n) → (xr ∉ es) → (@Ne Nat xr xb) → (@Ne Nat xr xs) → (@Ne Nat xr xl) → (@Ne Nat xr xd) → (@Ne Nat xr (L' + 1)) → (@Ne Nat xr (L' + 1 + 1)) → (@Ne Nat xr (L' + 1 + 1 + 1)) → RunsAt L' xb xs xl xd o1 o2 o3 es nb ns nl nd n dvs i tk m news :=
  fun xr vs nr svs lvs ents X S L grown tg h0_ h1_ h2_ h3_ h4_ h5_ h6_ h7_ h8_ h9_ h10_ h11_ h12_ h13_ h14_ h15_ h16_ h17_ h18_ h19_ h20_ h21_ h22_ h23_ => ⟨xr, vs, nr, svs, lvs, ents, X, S, L, grown, tg, h0_, h1_, h2_, h3_, h4_, h5_, h6_, h7_, h8_, h9_, h10_, h11_, h12_, h13_, h14_, h15_, h16_, h17_, h18_, h19_, h20_, h21_, h22_, h23_⟩

theorem runs_says {w : World} {xd : Addr} {dvs : List Value} {D : List Int} {nd n tn : Nat} (hD : IntsAre dvs D) (hDl : D.length = 5) (hDb : ∀ x ∈ D, 0 ≤ x ∧ x < 1000) (hn5 : 5 ≤ n) (hn7 : n ≤ 7) :
    SaysS w 302 7 214 [.int (n : Nat) tn, .ref xd] (fun _ _ => True) [(xd, listOf dvs.toArray nd)] (fun _ _ v _ => v = .bool true) := by
  intro mean mg mb outer base g s R S N hpre hret
  have B := S.below
  have KX := S.frag
  have T := S.top
  have XB := S.frag0
  have TB := S.top0
  have hd : 302 + 60 < recursionLimit := by decide
  have hu : 7 + 400 < cLine := by decide
  refine codeAny_hold_toks ?_
  refine' enterC (binds := [(Str.ofString "size", .int (n : Nat) tn), (Str.ofString "deeds", .ref xd)]) S N ?k6 ?k7 ?k8 ?k9 ?kB ?kD ?_ ?c2 ?c3 ?c4
  case k6 => k_is
  case k7 => k_is
  case k8 => decide
  case k9 => exact BindsTo.of_eq rfl
  case kB => exact rfl
  case kD => decide +kernel
  case c2 => exact rfl
  case c3 => exact rfl
  case c4 => exact rfl
  intro L' h' tk' cells' F' N' Y' l1'
  obtain ⟨o1, o2, o3, hE, d1, d2, d3⟩ := CellsAre.three Y'
  subst hE
  clear Y'
  (try simp only [List.cons_append, List.nil_append] at N')
  (try simp only [List.cons_append, List.nil_append] at N')
  replace F' : Fr g L' h' (fun y => if y = Str.ofString "deeds" then some (.ref xd) else none) := F'
  replace d1 : o1.data = .cell none := d1
  replace d2 : o2.data = .cell none := d2
  replace d3 : o3.data = .cell (some (.int (n : Nat) tn)) := d3
  show wpAny _ _ _ _ _ _
  k_fold
  k_steps
  apply Hold.out
  rename Fr g L' _ _ => F1
  rename News g L' _ _ => N1
  refine my_times F1 N1 (.head _) (by omega) ?_
  clear F1 N1
  intro xr h1 F1 N1 lr
  try dsimp only
  k_steps
  apply Hold.out
  rename Fr g L' _ _ => F1
  rename News g L' _ _ => N1
  refine comp_eval (n := n) (P := fun i v => ∃ t, v = .int (i : Nat) t) (BookJ [(xr, listOf (List.replicate n (.str (Str.ofString " . ") tk')).toArray 0), (L' + 1 + 1 + 1, o1), (L' + 1 + 1, o2), (L' + 1, o3), (xd, listOf dvs.toArray nd)]) F1 rfl (by with_unfolding_all rfl) (by decide) (by rfl) (by decide) (by rfl) (by omega) ?mono ?he ?turn ?done
  case mono => exact fun i tk tk' ys nw _ h => h
  case he =>
    k_steps
    apply Hold.out
    exact range_from F1 (news_sub N1 (List.forall_mem_cons.mpr ⟨.head _, fun p hp => .tail _ (.tail _ hp)⟩)) rfl ⟨_, _, by dsimp only at *; omega, rfl⟩ (fun tk _ => ⟨[], [], rfl, .nil, rfl, List.nodup_nil, fun _ h => nomatch h⟩) (fun i t => ⟨t, rfl⟩)
  case turn =>
    clear F1 N1
    intro i v I oI C oC Dl m₂ h tk ys news E' hi HV hC hm F N off ne HJ
    (try dsimp only)
    (try k_fold)
    obtain ⟨t, rfl⟩ := HV
    obtain ⟨ents, es, rfl, hE, rfl, hnd, hoff⟩ := HJ
    have off2 := off.mem
    try dsimp only
    k_steps
    rename_i lz hz Fz Nz lt1
    obtain ⟨ltI, ltC, ltD, ltA⟩ := lt1
    have ltAll := ktn_ltOf ltA
    have ltE : ∀ e ∈ es, @LT.lt Nat _ e lz := fun e he => by
      obtain ⟨p, hp, rfl⟩ := List.mem_map.mp (hE.fst ▸ he)
      exact ltAll p (List.mem_append_left _ hp)
    apply Hold.out
    refine ⟨_, _, (ents ++ [(lz, lineObj (1, 1, 1) tk (tk + 1) (tk + 1 + 1) 0)]) ++ [(xr, listOf (List.replicate n (.str (Str.ofString " . ") tk')).toArray 0), (L' + 1 + 1 + 1, o1), (L' + 1 + 1, o2), (L' + 1, o3), (xd, listOf dvs.toArray nd)], rfl, Fz, news_sub Nz mem_snoc, ?_, ents ++ [(lz, lineObj (1, 1, 1) tk (tk + 1) (tk + 1 + 1) 0)], es ++ [lz], rfl, ?_, by simp, ?_, ?_⟩
    · refine Off3.of fun p hp => ?_
      rcases List.mem_append.mp hp with hp | hp
      · rcases List.mem_append.mp hp with hp | hp
        · exact off2 p (List.mem_append_left _ hp)
        · rw [List.mem_singleton.mp hp]
          exact ⟨Nat.ne_of_gt ltI, Nat.ne_of_gt ltC, Nat.ne_of_gt ltD⟩
      · exact off2 p (List.mem_append_right _ hp)
    · rw [List.replicate_succ']
      exact hE.snoc _ _ _ _ _ _
    · rw [List.nodup_append]
      refine ⟨hnd, by simp, fun x hx y hy => ?_⟩
      rw [List.mem_singleton.mp hy]
      exact Nat.ne_of_lt (ltE x hx)
    · intro e he p hp
      rcases List.mem_append.mp he with he | he
      · exact hoff e he p hp
      · rw [List.mem_singleton.mp he]
        exact Nat.ne_of_lt (ltAll p (List.mem_append_right _ hp))
  case done =>
    clear F1 N1
    intro Dl h tk ys news F N offD hyl htk HJ
    (try dsimp only)
    (try k_fold)
    obtain ⟨ents, es, rfl, hE, rfl, hnd, hoff⟩ := HJ
    have hesl : es.length = n := by simpa using hyl
    dsimp only at htk
    have htk0 : 0 < tk := by omega
    have ofDE : ∀ e ∈ es, @Ne Nat e Dl := fun e he => by
      obtain ⟨p, hp, rfl⟩ := List.mem_map.mp (hE.fst ▸ he)
      exact offD p (List.mem_append_left _ hp)
    have ofD0 := fun p hp => offD p (List.mem_append_right ents hp)
    have N1 : News g L' h ((Dl, lst (es.map .ref)) :: (xr, listOf (List.replicate n (.str (Str.ofString " . ") tk')).toArray 0) :: (L' + 1 + 1 + 1, o1) :: (L' + 1 + 1, o2) :: (L' + 1, o3) :: (xd, listOf dvs.toArray nd) :: ents) := news_sub N (mem_turn (a := (Dl, lst (es.map .ref))) (r := [(xr, listOf (List.replicate n (.str (Str.ofString " . ") tk')).toArray 0), (L' + 1 + 1 + 1, o1), (L' + 1 + 1, o2), (L' + 1, o3), (xd, listOf dvs.toArray nd)]) (l := ents))
    clear N offD
    have hxdL : @LT.lt Nat _ xd L' := l1' _ (.head _)
    have e32 : @Ne Nat (L' + 1 + 1 + 1) (L' + 1 + 1) := by omega
    have e12 : @Ne Nat (L' + 1) (L' + 1 + 1) := by omega
    have e13 : @Ne Nat (L' + 1) (L' + 1 + 1 + 1) := by omega
    have ed2 : @Ne Nat xd (L' + 1 + 1) := by omega
    have ed3 : @Ne Nat xd (L' + 1 + 1 + 1) := by omega
    have er2 : @Ne Nat xr (L' + 1 + 1) := Nat.ne_of_gt (lr _ (.tail _ (.tail _ (.head _))))
    have er3 : @Ne Nat xr (L' + 1 + 1 + 1) := Nat.ne_of_gt (lr _ (.tail _ (.head _)))
    have hb2 : @Ne Nat Dl (L' + 1 + 1) := Ne.symm (ofD0 _ (.tail _ (.tail _ (.head _))))
    have hb3 : @Ne Nat Dl (L' + 1 + 1 + 1) := Ne.symm (ofD0 _ (.tail _ (.head _)))
    have hen2 : ∀ p ∈ ents, p.1 ≠ L' + 1 + 1 := fun p hp q => hoff p.1 (by rw [← hE.fst]; exact List.mem_map_of_mem hp) (L' + 1 + 1, o2) (.tail _ (.tail _ (.head _))) q.symm
    have hen3 : ∀ p ∈ ents, p.1 ≠ L' + 1 + 1 + 1 := fun p hp q => hoff p.1 (by rw [← hE.fst]; exact List.mem_map_of_mem hp) (L' + 1 + 1 + 1, o1) (.tail _ (.head _)) q.symm
    refine storeX_C (c := L' + 1 + 1) (o := o2) F N1 rfl (.tail hb2 (.tail er2 (.tail e32 (.head (List.forall_mem_cons.mpr ⟨e12, List.forall_mem_cons.mpr ⟨ed2, hen2⟩⟩))))) d2 ?_ rfl rfl
    have hxre : xr ∉ es := fun he => hoff _ he _ (.head _) rfl
    have hc3e : L' + 1 + 1 + 1 ∉ es := fun he => hoff _ he _ (.tail _ (.head _)) rfl
    have hc2e : L' + 1 + 1 ∉ es := fun he => hoff _ he _ (.tail _ (.tail _ (.head _))) rfl
    have hc1e : L' + 1 ∉ es := fun he => hoff _ he _ (.tail _ (.tail _ (.tail _ (.head _)))) rfl
    have hxde : xd ∉ es := fun he => hoff _ he _ (.tail _ (.tail _ (.tail _ (.tail _ (.head _))))) rfl
    have hDle : Dl ∉ es := fun he => ofDE _ he rfl
    have hb1 : @Ne Nat Dl (L' + 1) := Ne.symm (ofD0 _ (.tail _ (.tail _ (.tail _ (.head _)))))
    have hbd : @Ne Nat Dl xd := Ne.symm (ofD0 _ (.tail _ (.tail _ (.tail _ (.tail _ (.head _))))))
    have hbr : @Ne Nat Dl xr := Ne.symm (ofD0 _ (.head _))
    have er1 : @Ne Nat xr (L' + 1) := Nat.ne_of_gt (lr _ (.tail _ (.tail _ (.tail _ (.head _)))))
    have erd : @Ne Nat xr xd := Nat.ne_of_gt (lr _ (.tail _ (.tail _ (.tail _ (.tail _ (.head _))))))
    clear lr ofD0 hoff ofDE F N1
    intro h2 o2 F N1 d2
    try dsimp only at N1
    try dsimp only
    k_steps
    apply Hold.out
    refine my_range F N1 rfl ?_
    clear F N1
    intro r h3 tk3 u3 v3 F N1 lr
    try dsimp only
    k_steps
    apply Hold.out
    refine my_upto (by rfl) F N1 (.head _) (by omega) ?_
    clear F N1
    intro xs h4 tk4 svs sc F N1 ls hS
    have N2 := news_sub N1 (fun p hp => (List.mem_cons.mp hp).elim (fun e => e ▸ .head _) (fun e => .tail _ (.tail _ e)))
    clear N1
    have hsb : @Ne Nat xs Dl := Nat.ne_of_gt (ls _ (.tail _ (.head _)))
    have hsr : @Ne Nat xs xr := Nat.ne_of_gt (ls _ (.tail _ (.tail _ (.head _))))
    have hs3 : @Ne Nat xs (L' + 1 + 1 + 1) := Nat.ne_of_gt (ls _ (.tail _ (.tail _ (.tail _ (.head _)))))
    have hs2 : @Ne Nat xs (L' + 1 + 1) := Nat.ne_of_gt (ls _ (.tail _ (.tail _ (.tail _ (.tail _ (.head _))))))
    have hs1 : @Ne Nat xs (L' + 1) := Nat.ne_of_gt (ls _ (.tail _ (.tail _ (.tail _ (.tail _ (.tail _ (.head _)))))))
    have hsd : @Ne Nat xs xd := Nat.ne_of_gt (ls _ (.tail _ (.tail _ (.tail _ (.tail _ (.tail _ (.tail _ (.head _))))))))
    have hse : xs ∉ es := fun he => by
      obtain ⟨p, hp, hpe⟩ := List.mem_map.mp (hE.fst ▸ he)
      exact absurd hpe (Nat.ne_of_lt (ls p (.tail _ (.tail _ (.tail _ (.tail _ (.tail _ (.tail _ (.tail _ hp)))))))))
    try dsimp only
    k_steps
    refine storeX_C (c := L' + 1 + 1 + 1) (o := o1) F N2 rfl (.tail hs3 (.tail hb3 (.tail er3 (.head (List.forall_mem_cons.mpr ⟨Ne.symm e32, List.forall_mem_cons.mpr ⟨e13, List.forall_mem_cons.mpr ⟨ed3, hen3⟩⟩⟩))))) d1 ?_ rfl rfl
    clear F N2 ls lr d1 o1
    intro h5 o1 F N2 d1
    try dsimp only at N2
    try dsimp only
    k_steps
    apply Hold.out
    refine comp_assign (n := n) (P := fun i v => ∃ t, v = .int (i : Nat) t) (fun i tk ys nw => nw = (xs, listOf svs.toArray sc) :: (Dl, lst (es.map .ref)) :: (xr, listOf (List.replicate n (.str (Str.ofString " . ") tk')).toArray 0) :: (L' + 1 + 1 + 1, o1) :: (L' + 1 + 1, o2) :: (L' + 1, o3) :: (xd, listOf dvs.toArray nd) :: ents ∧ Fresh tk ys (looks0 n i))
      F rfl (by with_unfolding_all rfl) rfl (by with_unfolding_all rfl) (by decide) (by rfl) (by decide) (by rfl) (by rfl) (by rfl) (by omega) ?mono ?he ?turn ?done
    case mono => exact fun i tk tk' ys nw ht h => ⟨h.1, h.2.mono ht⟩
    case he =>
      k_steps
      apply Hold.out
      exact range_from F N2 rfl ⟨_, _, by dsimp only at *; omega, rfl⟩ (fun tk _ => ⟨rfl, .nil, fun _ h => nomatch h⟩) (fun i t => ⟨t, rfl⟩)
    case turn =>
      clear F N2
      intro i v I oI C oC Dn m₂ h tk ys news E' hi HV hC hm F N off ne HJ
      (try dsimp only)
      (try k_fold)
      obtain ⟨t, rfl⟩ := HV
      obtain ⟨rfl, hF⟩ := HJ
      try dsimp only
      k_steps
      apply Hold.out
      refine ⟨_, _, _, rfl, F, N, off, rfl, ?_⟩
      rw [looks0_succ, Int.fmod_eq_emod_of_nonneg _ (by omega)]
      refine Fresh.snoc (hF.mono (by (try dsimp only); omega)) (by (try dsimp only); omega) (by (try dsimp only); omega) (small_mod (by omega) (by omega))
    case done =>
      clear F N2
      intro xl h6 tk6 lvs news F N2 offL hyl htk6 HJ
      (try dsimp only)
      (try k_fold)
      obtain ⟨rfl, hF⟩ := HJ
      have hlb : @Ne Nat xl Dl := Ne.symm (offL _ (.tail _ (.head _)))
      have hlr : @Ne Nat xl xr := Ne.symm (offL _ (.tail _ (.tail _ (.head _))))
      have hl3 : @Ne Nat xl (L' + 1 + 1 + 1) := Ne.symm (offL _ (.tail _ (.tail _ (.tail _ (.head _)))))
      have hl2 : @Ne Nat xl (L' + 1 + 1) := Ne.symm (offL _ (.tail _ (.tail _ (.tail _ (.tail _ (.head _))))))
      have hl1 : @Ne Nat xl (L' + 1) := Ne.symm (offL _ (.tail _ (.tail _ (.tail _ (.tail _ (.tail _ (.head _)))))))
      have hld : @Ne Nat xl xd := Ne.symm (offL _ (.tail _ (.tail _ (.tail _ (.tail _ (.tail _ (.tail _ (.head _))))))))
      have hls : @Ne Nat xl xs := Ne.symm (offL _ (.head _))
      have hle : xl ∉ es := fun he => by
        obtain ⟨p, hp, hpe⟩ := List.mem_map.mp (hE.fst ▸ he)
        exact offL p (.tail _ (.tail _ (.tail _ (.tail _ (.tail _ (.tail _ (.tail _ hp))))))) hpe
      clear offL
      obtain ⟨cb, hcb⟩ : ∃ cb, cb = (es.map Value.ref).length := ⟨_, rfl⟩
      obtain ⟨cl, hcl⟩ : ∃ cl, cl = lvs.length := ⟨_, rfl⟩
      rw [show lst (es.map .ref) = listOf (es.map Value.ref).toArray cb by rw [hcb], show lst lvs = listOf lvs.toArray cl by rw [hcl]] at N2
      try dsimp only
      k_steps
      apply Hold.out
      rename Fr g L' _ _ => F
      rename News g L' _ _ => N2
      refine' for_range (n := 5) (fun g' => KtsTurn (outer.filterMap (·.frame)) g g' ∧ Below (ar 302 7 (some []) outer) base outer g') (RunsAt L' Dl xs xl xd o1 o2 o3 es cb sc cl nd n dvs) ?hh ?hx ?hp ?hE ?hs ⟨KtsTurn.refl, B⟩ (by decide) F N2 ?he ?hJ ?turn ?done
      case hh => rfl
      case hx => rfl
      case hp => rfl
      case hE => passes_own
      case hs => intro _; rfl
      case he =>
        k_steps
        apply Hold.out
        exact range_ready (by assumption) (by assumption) (by omega) ⟨_, _, by dsimp only at *; omega, rfl⟩
      case hJ =>
        intro tk htk
        refine RunsAt.intro xr (List.replicate n (.str (Str.ofString " . ") tk')) 0 svs lvs ents (List.replicate n (1, 1, 1)) (upto n) (looks0 n n) 0 _ rfl rfl rfl rfl ?_ ?_ hE (by simp) hS (upto_PN n) (hF.mono (by dsimp only at *; omega)) (looks0_PN hn5) ?_ ?_ (by omega) (by omega) hxre (Ne.symm hbr) (Ne.symm hsr) (Ne.symm hlr) erd er1 er2 er3
        · intro p hp
          simp only [List.mem_cons, List.mem_append, List.not_mem_nil, or_false] at hp ⊢
          rcases hp with h | h | (h | h | h | h | h | h) | h <;> simp only [h, true_or, or_true]
        · exact rows_rep n
        · intro j hj
          rw [looks0_getD hj, upto_getD hj, coinsOf_getD (x := (1, 1, 1)) (by rw [List.getElem?_replicate, if_pos hj])]
          rfl
        · intro x hx
          rw [(List.mem_replicate.mp hx).2]
          decide
      case turn =>
        clear F N2 hF hS KX T S N hE
        rintro i g1 m₁ h tk it o news₁ hin hJ ⟨T1, B1⟩ F N hne
        (try dsimp only)
        (try k_fold)
        refine hJ.elim ?_
        clear hJ
        intro xr vs nr svs lvs ents X S L grown tg e1 e2 e3 e4 hsub hR hE hX hS hSp hL hLp hrel hok hg0 hg1 r1 r2 r3 r4 r5 r6 r7 r8
        have KX := XB.keeps B1.stays
        have T := TB.keeps B1.stays
        have hite : ∀ p ∈ (xr, listOf vs.toArray nr) :: (Dl, listOf (es.map Value.ref).toArray cb) :: ([(xs, listOf svs.toArray sc), (xl, listOf lvs.toArray cl), (xd, listOf dvs.toArray nd), (L' + 1, o3), (L' + 1 + 1, o2), (L' + 1 + 1 + 1, o1)] ++ ents), p.1 ≠ it := fun p hp => hne p (hsub p hp)
        have N1 : News g1 L' h ((xr, listOf vs.toArray nr) :: (Dl, listOf (es.map Value.ref).toArray cb) :: ([(it, o), (xs, listOf svs.toArray sc), (xl, listOf lvs.toArray cl), (xd, listOf dvs.toArray nd), (L' + 1, o3), (L' + 1 + 1, o2), (L' + 1 + 1 + 1, o1)] ++ ents)) := news_sub N (by
          intro p hp
          rcases List.mem_cons.mp hp with hp | hp
          · exact .tail _ (hsub p (hp ▸ .head _))
          rcases List.mem_cons.mp hp with hp | hp
          · exact .tail _ (hsub p (hp ▸ .tail _ (.head _)))
          rcases List.mem_append.mp hp with hp | hp
          · rcases List.mem_cons.mp hp with hp | hp
            · exact hp ▸ .head _
            · exact .tail _ (hsub p (.tail _ (.tail _ (List.mem_append_left _ hp))))
          · exact .tail _ (hsub p (.tail _ (.tail _ (List.mem_append_right _ hp)))))
        clear N hne hsub
        have ldv := hD.length
        obtain ⟨td, htd⟩ := ints_at hD (show D[i]? = some (D.getD i 0) by rw [List.getD_eq_getElem?_getD, List.getElem?_eq_getElem (by omega)]; rfl)
        have hdd : 0 ≤ D.getD i 0 ∧ D.getD i 0 < 1000 := hDb _ (by rw [List.getD_eq_getElem?_getD, List.getElem?_eq_getElem (by omega)]; exact List.getElem_mem _)
        obtain ⟨giver, taker, hgn, htn, hgt, hgv, htv⟩ := deal hn5 hn7 hdd.1
        try dsimp only
        k_steps
        apply Hold.out
        rw [Int.toNat_natCast, hgv]
        refine storeX_L F N1 ?_ rfl rfl
        clear F N1
        intro h F N1
        try dsimp only at F
        try dsimp only
        k_steps
        apply Hold.out
        rw [Int.toNat_natCast, htv]
        refine storeX_L F N1 ?_ rfl rfl
        clear F N1
        intro h F N1
        try dsimp only at F
        try dsimp only
        k_steps
        apply Hold.out
        obtain ⟨P, hP, hP0, hPb⟩ : ∃ P : Int, (n : Int) * ((n : Int) - 1) = P ∧ 0 < P ∧ Builtin.Int.intBits (n : Int) ≤ 64 := by
          obtain rfl | rfl | rfl : n = 5 ∨ n = 6 ∨ n = 7 := by omega
          · exact ⟨20, rfl, by decide, by decide +kernel⟩
          · exact ⟨30, rfl, by decide, by decide +kernel⟩
          · exact ⟨42, rfl, by decide, by decide +kernel⟩
        have hPne : P ≠ 0 := by omega
        refine PySem.P.mul_int ?_ (.of_left hPb)
        rw [hP]
        try dsimp only
        clear hPb
        have hi_r : @Ne Nat xr it := hite _ (.head _)
        have hi_b : @Ne Nat Dl it := hite _ (.tail _ (.head _))
        have hi_e : it ∉ es := fun he => by
          obtain ⟨p, hp, hpe⟩ := List.mem_map.mp (hE.fst ▸ he)
          exact hite p (.tail _ (.tail _ (List.mem_append_right _ hp))) hpe
        have hi_s : @Ne Nat xs it := hite _ (.tail _ (.tail _ (List.mem_append_left _ (.head _))))
        have hi_l : @Ne Nat xl it := hite _ (.tail _ (.tail _ (List.mem_append_left _ (.tail _ (.head _)))))
        have hi_d : @Ne Nat xd it := hite _ (.tail _ (.tail _ (List.mem_append_left _ (.tail _ (.tail _ (.head _))))))
        have hi_1 : @Ne Nat (L' + 1) it := hite _ (.tail _ (.tail _ (List.mem_append_left _ (.tail _ (.tail _ (.tail _ (.head _)))))))
        have hi_2 : @Ne Nat (L' + 1 + 1) it := hite _ (.tail _ (.tail _ (List.mem_append_left _ (.tail _ (.tail _ (.tail _ (.tail _ (.head _))))))))
        have hi_3 : @Ne Nat (L' + 1 + 1 + 1) it := hite _ (.tail _ (.tail _ (List.mem_append_left _ (.tail _ (.tail _ (.tail _ (.tail _ (.tail _ (.head _)))))))))
        clear hite
        k_steps
        · exact absurd (by assumption : P = 0) hPne
        apply Hold.out
        rename Fr g1 L' _ _ => F
        rename News g1 L' _ _ => N1
        obtain ⟨ah, hah⟩ : ∃ ah, ah = (((D.getD (Int.toNat (i : Nat)) 0).fdiv P).fmod 2 == 0) := ⟨_, rfl⟩
        rw [← hah] at F ⊢
        obtain ⟨k, hk⟩ : ∃ k : Nat, grown + 1 = (k : Nat) := ⟨(grown + 1).toNat, by omega⟩
        rw [hk]
        have hfixA : ∀ xr : Addr, xr ∉ es → @Ne Nat xr Dl → @Ne Nat xr xs → @Ne Nat xr xl → @Ne Nat xr xd → @Ne Nat xr (L' + 1) → @Ne Nat xr (L' + 1 + 1) → @Ne Nat xr (L' + 1 + 1 + 1) → @Ne Nat xr it → ∀ svs lvs : List Value, ∀ p ∈ [(it, o), (xs, listOf svs.toArray sc), (xl, listOf lvs.toArray cl), (xd, listOf dvs.toArray nd), (L' + 1, o3), (L' + 1 + 1, o2), (L' + 1 + 1 + 1, o1)], p.1 ≠ xr ∧ p.1 ≠ Dl ∧ p.1 ∉ es := fun xr r1 r2 r3 r4 r5 r6 r7 r8 r9 svs lvs =>
          List.forall_mem_cons.mpr ⟨⟨Ne.symm r9, Ne.symm hi_b, hi_e⟩, List.forall_mem_cons.mpr ⟨⟨Ne.symm r3, hsb, hse⟩, List.forall_mem_cons.mpr ⟨⟨Ne.symm r4, hlb, hle⟩, List.forall_mem_cons.mpr ⟨⟨Ne.symm r5, Ne.symm hbd, hxde⟩, List.forall_mem_cons.mpr ⟨⟨Ne.symm r6, Ne.symm hb1, hc1e⟩, List.forall_mem_cons.mpr ⟨⟨Ne.symm r7, Ne.symm hb2, hc2e⟩, List.forall_mem_cons.mpr ⟨⟨Ne.symm r8, Ne.symm hb3, hc3e⟩, List.forall_mem_nil _⟩⟩⟩⟩⟩⟩⟩
        refine call_handed (n := n) (fixed := [(it, o), (xs, listOf svs.toArray sc), (xl, listOf lvs.toArray cl), (xd, listOf dvs.toArray nd), (L' + 1, o3), (L' + 1 + 1, o2), (L' + 1 + 1 + 1, o1)]) B1 F XB TB rfl N1 (show 302 + 1 + 18 < recursionLimit by decide) (show 7 + 3 + 220 < cLine by decide) hE hR hX hnd r1 hDle r2 (hfixA xr r1 r2 r3 r4 r5 r6 r7 r8 hi_r svs lvs) hgn htn hgt (by omega) (fun x hx => by have := hok x hx; omega) (by omega) ?_
        clear F N1
        intro h1 tk1 vs1 ents1 ht1 F N1 hR1 hE1
        try dsimp only at ht1
        have hX1 : (handedX X taker giver k ah).length = n := by rw [handedX_len]; exact hX
        have hok1 := handedX_ok (a := ah) (t := taker) (g := giver) (k := k) hok (by omega) (by omega) (by omega)
        obtain ⟨hco1, hco2⟩ := handedX_coins (a := ah) (t := taker) (g := giver) (k := k) (X := X) (by omega) (by omega) hgt
        have hrows1 : ∀ (j : Nat) v, vs1[j]? = some v → ∃ x t, (handedX X taker giver k ah)[j]? = some x ∧ v = .str (row x.1 x.2.2 x.2.1) t := fun j v hv => by
          have hj := (List.getElem?_eq_some_iff.mp hv).1
          rw [hR1.len] at hj
          obtain ⟨t, ht⟩ := hR1.at (List.getElem?_eq_getElem hj)
          rw [ht] at hv
          exact ⟨_, t, List.getElem?_eq_getElem hj, (Option.some.inj hv).symm⟩
        generalize hXd : handedX X taker giver k ah = X1 at hR1 hE1 hX1 hok1 hco1 hco2 hrows1
        clear hE hR hXd hok
        try dsimp only
        k_steps
        apply Hold.out
        refine comp_assign (n := n) (P := fun j v => ∃ x t, X1[j]? = some x ∧ v = .str (row x.1 x.2.2 x.2.1) t) (fun j tk ys nw => 0 < tk ∧ nw = (xr, listOf vs1.toArray nr) :: (Dl, listOf (es.map Value.ref).toArray cb) :: ([(it, o), (xs, listOf svs.toArray sc), (xl, listOf lvs.toArray cl), (xd, listOf dvs.toArray nd), (L' + 1, o3), (L' + 1 + 1, o2), (L' + 1 + 1 + 1, o1)] ++ ents1) ∧ IntsAre ys ((coinsOf X1).take j))
          F rfl (by with_unfolding_all rfl) rfl (by with_unfolding_all rfl) (by decide) (by rfl) (by decide) (by rfl) (by rfl) (by rfl) (by omega) ?mono ?he ?turn2 ?done2
        case mono => exact fun j tk tk' ys nw ht h => ⟨by omega, h.2⟩
        case he =>
          k_steps
          exact CompFrom.list F N1 (Nat.le_refl _) ⟨by omega, rfl, .nil⟩ (by rw [hR1.len]; exact hX1) hrows1 (fun _ _ _ _ h => by rw [h.2.1]; exact .inr ⟨_, .head _, rfl, _, rfl⟩)
        case turn2 =>
          clear F N1
          intro j v I oI C oC Dn m₂ h tk2 ys news E' hj HV hC hm F N off ne HJ
          (try dsimp only)
          (try k_fold)
          obtain ⟨x, t, hx, rfl⟩ := HV
          obtain ⟨htk0, rfl, hI⟩ := HJ
          try dsimp only
          k_steps
          apply Hold.out
          rw [show Str.ofString " " = ⟨#[32]⟩ by decide +kernel]
          have hxo := hok1 x (List.mem_of_getElem? hx)
          refine call_countOf B1 F XB N TB rfl (show 302 + 1 + 5 < recursionLimit by decide) (show 7 + 3 + 50 < cLine by decide) row_ascii (by have := row_len (a := x.1) (d := x.2.2) (b := x.2.1); unfold Str.length at this; omega) htk0 (Nat.lt_succ_self _) ?_
          clear F N
          intro t3 h3 tk3 ht3 F N
          try k_unfold
          try dsimp only
          apply Hold.out
          refine ⟨_, _, _, rfl, F, N, off, by dsimp only at ht3; omega, rfl, ?_⟩
          rw [row_count, List.take_add_one, show (coinsOf X1)[j]? = some (((x.1 + x.2.1 : Nat)) : Int) by rw [coinsOf, List.getElem?_map, hx]; rfl]
          exact hI.append (.cons _ _ .nil)
        case done2 =>
          clear F N1
          intro xc h2 tk2 cvs news F N1 offC hcl2 htk2 HJ
          (try dsimp only)
          (try k_fold)
          obtain ⟨htk20, rfl, hC⟩ := HJ
          rw [List.take_of_length_le (by rw [coinsOf_len]; omega)] at hC
          obtain ⟨cc, hcc⟩ : ∃ cc, cc = cvs.length := ⟨_, rfl⟩
          rw [show lst cvs = listOf cvs.toArray cc by rw [hcc]] at N1
          have hcs : @Ne Nat xc xs := Ne.symm (offC _ (.tail _ (.tail _ (.tail _ (.head _)))))
          have hcl' : @Ne Nat xc xl := Ne.symm (offC _ (.tail _ (.tail _ (.tail _ (.tail _ (.head _))))))
          try dsimp only
          k_steps
          apply Hold.out
          refine call_mirrored (n := n) B1 F XB TB rfl N1 (show 302 + 1 + 8 < recursionLimit by decide) (show 7 + 3 + 120 < cLine by decide) (by k_mem) (by k_mem) (by k_mem) hC hS hL.1 (by rw [coinsOf_len]; exact hX1) hSp hLp (by omega) htn hgn ?_
          clear F N1
          intro xt h3 tk3 tvs tc ht3 F N1 hT offT
          try dsimp only at ht3
          have hGd := mended_good (C := coinsOf X1) (C0 := coinsOf X) (t := taker) (g := giver) (by omega) hSp hLp (Ne.symm hgt) htn hgn hrel (fun j hj h1 h2 => hco1 j (by omega) h1 h2) hco2
          have ht_s : @Ne Nat xt xs := Ne.symm (offT _ (.tail _ (.tail _ (.tail _ (.tail _ (.head _))))))
          have ht_l : @Ne Nat xt xl := Ne.symm (offT _ (.tail _ (.tail _ (.tail _ (.tail _ (.tail _ (.head _)))))))
          have hEs : ∀ p ∈ ents1, p.1 ∈ es := fun p hp => hE1.fst ▸ List.mem_map_of_mem hp
          clear offT offC hco1 hco2 hrows1
          try dsimp only
          k_steps
          apply Hold.out
          rename Fr g1 L' _ _ => F
          rename News g1 L' _ _ => N1
          refine call_mended (n := n) (nc := cc) (target := fun svs' lvs' => (xt, listOf tvs.toArray tc) :: (xc, listOf cvs.toArray cc) :: (xr, listOf vs1.toArray nr) :: (Dl, listOf (es.map Value.ref).toArray cb) :: ([(it, o), (xs, listOf svs'.toArray sc), (xl, listOf lvs'.toArray cl), (xd, listOf dvs.toArray nd), (L' + 1, o3), (L' + 1 + 1, o2), (L' + 1 + 1 + 1, o1)] ++ ents1))
            B1 F XB TB rfl N1 (by k_mem) (by k_mem) (by k_mem) hcs (Ne.symm hls) hcl' hC hS hL (by dsimp only at *; omega) (by rw [coinsOf_len]; exact hX1) hSp hLp (by omega) htn hgn hGd ?U ?_
          case U =>
            intro svs' lvs' p hp
            rcases List.mem_cons.mp hp with rfl | hp
            · exact .inr (.inr ⟨.head _, ht_s, ht_l⟩)
            rcases List.mem_cons.mp hp with rfl | hp
            · exact .inr (.inr ⟨.tail _ (.head _), hcs, hcl'⟩)
            rcases List.mem_cons.mp hp with rfl | hp
            · exact .inr (.inr ⟨.tail _ (.tail _ (.head _)), r3, r4⟩)
            rcases List.mem_cons.mp hp with rfl | hp
            · exact .inr (.inr ⟨.tail _ (.tail _ (.tail _ (.head _))), Ne.symm hsb, Ne.symm hlb⟩)
            rcases List.mem_append.mp hp with hp | hp
            · rcases List.mem_cons.mp hp with rfl | hp
              · exact .inr (.inr ⟨.tail _ (.tail _ (.tail _ (.tail _ (.head _)))), Ne.symm hi_s, Ne.symm hi_l⟩)
              rcases List.mem_cons.mp hp with rfl | hp
              · exact .inl rfl
              rcases List.mem_cons.mp hp with rfl | hp
              · exact .inr (.inl rfl)
              rcases List.mem_cons.mp hp with rfl | hp
              · exact .inr (.inr ⟨.tail _ (.tail _ (.tail _ (.tail _ (.tail _ (.tail _ (.tail _ (.head _))))))), Ne.symm hsd, Ne.symm hld⟩)
              rcases List.mem_cons.mp hp with rfl | hp
              · exact .inr (.inr ⟨.tail _ (.tail _ (.tail _ (.tail _ (.tail _ (.tail _ (.tail _ (.tail _ (.head _)))))))), Ne.symm hs1, Ne.symm hl1⟩)
              rcases List.mem_cons.mp hp with rfl | hp
              · exact .inr (.inr ⟨.tail _ (.tail _ (.tail _ (.tail _ (.tail _ (.tail _ (.tail _ (.tail _ (.tail _ (.head _))))))))), Ne.symm hs2, Ne.symm hl2⟩)
              rcases List.mem_cons.mp hp with rfl | hp
              · exact .inr (.inr ⟨.tail _ (.tail _ (.tail _ (.tail _ (.tail _ (.tail _ (.tail _ (.tail _ (.tail _ (.tail _ (.head _)))))))))), Ne.symm hs3, Ne.symm hl3⟩)
              · exact nomatch hp
            · exact .inr (.inr ⟨.tail _ (.tail _ (.tail _ (.tail _ (List.mem_append_right _ hp)))), fun q => hse (q ▸ hEs p hp), fun q => hle (q ▸ hEs p hp)⟩)
          clear F N1 KX T hGd hS hL hSp hLp hrel hC
          intro h4 tk4 g2 svs2 lvs2 L2 ht4 T2 B2 F N1 hS2 hMp hL2 hL2p hrel2
          have KX := XB.keeps B2.stays
          have T := TB.keeps B2.stays
          try dsimp only at ht4
          try dsimp only
          k_steps
          apply Hold.out
          refine my_ne_ints N1 (by k_mem) (by k_mem) hS2 hT rfl (show 7 + 3 + 64 < cLine by decide) ?_
          try dsimp only
          k_steps
          apply Hold.out
          generalize hM : mirrored n (coinsOf X1) S L taker giver = M at hS2 hMp hrel2
          clear hM hT
          have lM := hS2.length
          have hMl := hMp.len
          have hL2l := hL2p.len
          refine comp_eval (n := n) (P := fun j v => ∃ t, v = .int (j : Nat) t) (fun j tk ys nw => nw = (xt, listOf tvs.toArray tc) :: (xc, listOf cvs.toArray cc) :: (xr, listOf vs1.toArray nr) :: (Dl, listOf (es.map Value.ref).toArray cb) :: ([(it, o), (xs, listOf svs2.toArray sc), (xl, listOf lvs2.toArray cl), (xd, listOf dvs.toArray nd), (L' + 1, o3), (L' + 1 + 1, o2), (L' + 1 + 1 + 1, o1)] ++ ents1) ∧ IntsAre ys (L2.take j))
            F rfl (by with_unfolding_all rfl) (by decide) (by rfl) (by decide) (by rfl) (by omega) ?mono ?he ?turn3 ?done3
          case mono => exact fun j tk tk' ys nw ht h => h
          case he =>
            k_steps
            apply Hold.out
            exact range_from F N1 rfl ⟨_, _, by dsimp only at *; omega, rfl⟩ (fun tk _ => ⟨rfl, .nil⟩) (fun i t => ⟨t, rfl⟩)
          case turn3 =>
            clear F N1
            intro j v I oI C oC Dn m₂ h tk2 ys news E' hj HV hC hm F N off ne HJ
            (try dsimp only)
            (try k_fold)
            obtain ⟨t, rfl⟩ := HV
            obtain ⟨rfl, hI⟩ := HJ
            obtain ⟨x, hx⟩ : ∃ x, X1[j]? = some x := ⟨_, List.getElem?_eq_getElem (by omega)⟩
            obtain ⟨e, he⟩ : ∃ e, es[j]? = some e := ⟨_, List.getElem?_eq_getElem (by omega)⟩
            have hbe : (es.map Value.ref)[j]? = some (.ref e) := by rw [List.getElem?_map, he]; rfl
            obtain ⟨q1, q2, q3, qc, hem⟩ := hE1.mem_of hx he
            obtain ⟨tm, htm⟩ := ints_at hS2 (show M[j]? = some (M.getD j 0) by rw [List.getD_eq_getElem?_getD, List.getElem?_eq_getElem (by omega)]; rfl)
            have hem' : (e, lineObj x q1 q2 q3 qc) ∈ ((I, oI) :: (C, oC) :: (Dn, lst ys) :: (xt, listOf tvs.toArray tc) :: (xc, listOf cvs.toArray cc) :: (xr, listOf vs1.toArray nr) :: (Dl, listOf (es.map Value.ref).toArray cb) :: ([(it, o), (xs, listOf svs2.toArray sc), (xl, listOf lvs2.toArray cl), (xd, listOf dvs.toArray nd), (L' + 1, o3), (L' + 1 + 1, o2), (L' + 1 + 1 + 1, o1)] ++ ents1)) :=
              .tail _ (.tail _ (.tail _ (.tail _ (.tail _ (.tail _ (.tail _ (List.mem_append_right _ hem)))))))
            try dsimp only
            k_steps
            apply Hold.out
            refine ⟨_, _, _, rfl, F, N, off, rfl, ?_⟩
            have h1 := hrel2 j hj
            rw [coinsOf_getD hx] at h1
            rw [List.take_add_one, List.getElem?_eq_getElem (by omega), show L2[j]'(by omega) = (M.getD j 0 + ((x.1 : Nat) : Int) + ((x.2.1 : Nat) : Int)).fmod (n : Nat) by
              rw [List.getD_eq_getElem?_getD, List.getElem?_eq_getElem (by omega), Option.getD_some] at h1
              rw [h1, Int.fmod_eq_emod_of_nonneg _ (by omega), Int.add_assoc, ← Int.natCast_add]]
            exact hI.append (.cons _ _ .nil)
          case done3 =>
            clear F N1
            intro xk h5 tk5 kvs news F N1 offK hkl htk5 HJ
            (try dsimp only)
            (try k_fold)
            obtain ⟨rfl, hK⟩ := HJ
            rw [List.take_of_length_le (by omega)] at hK
            obtain ⟨ck, hck⟩ : ∃ ck, ck = kvs.length := ⟨_, rfl⟩
            rw [show lst kvs = listOf kvs.toArray ck by rw [hck]] at N1
            clear offK
            try dsimp only
            k_steps
            apply Hold.out
            refine my_ne_ints N1 (by k_mem) (by k_mem) hL2.1 hK rfl (show 7 + 3 + 64 < cLine by decide) ?_
            try dsimp only
            k_steps
            apply Hold.out
            refine my_sorted F N1 (by k_mem) hL2.1 hL2p (by omega) ?_
            clear F N1
            intro xo h6 ovs oe F N1 lo hO
            try dsimp only
            k_steps
            apply Hold.out
            refine wpAny_with_toks (Nat.le_refl _) (my_range F N1 rfl ?_)
            clear F N1
            intro r h7 tk7 u7 v7 F N1 lr ht7
            try dsimp only at ht7
            try dsimp only
            k_steps
            apply Hold.out
            refine wpAny_with_toks (Nat.le_refl _) (my_upto (by rfl) F N1 (.head _) (by omega) ?_)
            clear F N1
            intro xu h8 tk8 uvs uc F N1 lu hU ht8
            try dsimp only at ht8
            try dsimp only
            k_steps
            apply Hold.out
            refine my_ne_ints N1 (by k_mem) (by k_mem) hO hU rfl (show 7 + 3 + 64 < cLine by decide) ?_
            clear lr lo lu
            try dsimp only
            k_steps
            apply Hold.out
            have N3 := news_sub N1 (fun p hp => .tail _ (.tail _ (.tail _ (.tail _ (.tail _ (.tail _ (show p ∈ (xr, listOf vs1.toArray nr) :: (Dl, listOf (es.map Value.ref).toArray cb) :: ([(it, o), (xs, listOf svs2.toArray sc), (xl, listOf lvs2.toArray cl), (xd, listOf dvs.toArray nd), (L' + 1, o3), (L' + 1 + 1, o2), (L' + 1 + 1 + 1, o1)] ++ ents1) from hp)))))))
            clear N1
            refine call_sent (n := n) (fixed := [(it, o), (xs, listOf svs2.toArray sc), (xl, listOf lvs2.toArray cl), (xd, listOf dvs.toArray nd), (L' + 1, o3), (L' + 1 + 1, o2), (L' + 1 + 1 + 1, o1)]) B2 F XB TB rfl N3 (show 302 + 1 + 18 < recursionLimit by decide) (show 7 + 3 + 220 < cLine by decide) hE1 hR1 hX1 hnd r1 hDle r2 (hfixA xr r1 r2 r3 r4 r5 r6 r7 r8 hi_r svs2 lvs2) (by omega) (show i < 200 by omega) (fun x hx => by have := hok1 x hx; omega) ?_
            clear F N3 hK hO hU
            intro q h9 tk9 ws qc ents2 ht9 F N1 hW hE2 w1 w2 w3 w4
            try dsimp only at ht9
            have hok2 := sent_ok hok1
            have hX2 : (X1.map sentLine).length = n := by rw [List.length_map]; exact hX1
            have hgro := grown_ok X1
            have hco := sent_coins X1
            generalize hXs : X1.map sentLine = X2 at hW hE2 hok2 hX2 hgro hco
            clear hE1 hXs
            try dsimp only
            k_steps
            apply Hold.out
            rename Fr g2 L' _ _ => F
            rename News g2 L' _ _ => N1
            refine comp_eval (n := n) (P := fun j v => ∃ e, es[j]? = some e ∧ v = .ref e) (fun j tk ys nw => nw = (q, listOf ws.toArray qc) :: (xr, listOf vs1.toArray nr) :: (Dl, listOf (es.map Value.ref).toArray cb) :: ([(it, o), (xs, listOf svs2.toArray sc), (xl, listOf lvs2.toArray cl), (xd, listOf dvs.toArray nd), (L' + 1, o3), (L' + 1 + 1, o2), (L' + 1 + 1 + 1, o1)] ++ ents2) ∧ RowsAre ys (X2.take j))
              F rfl (by with_unfolding_all rfl) (by decide) (by rfl) (by decide) (by rfl) (by omega) ?mono ?he ?turn4 ?done4
            case mono => exact fun j tk tk' ys nw ht h => h
            case he =>
              k_steps
              exact CompFrom.list (vs := es.map Value.ref) F N1 (Nat.le_refl _) ⟨rfl, .nil⟩ (by rw [List.length_map]; exact hesl) (fun j v hv => by
                rw [List.getElem?_map] at hv
                obtain ⟨e, he, hv⟩ := Option.map_eq_some_iff.mp hv
                exact ⟨e, he, hv.symm⟩) (fun _ _ _ _ h => by rw [h.1]; exact .inr ⟨_, .tail _ (.tail _ (.head _)), rfl, _, rfl⟩)
            case turn4 =>
              clear F N1
              intro j v I oI C oC Dn m₂ h tk2 ys news E' hj HV hC hm F N off ne HJ
              (try dsimp only)
              (try k_fold)
              obtain ⟨e, he, rfl⟩ := HV
              obtain ⟨rfl, hI⟩ := HJ
              obtain ⟨x, hx⟩ : ∃ x, X2[j]? = some x := ⟨_, List.getElem?_eq_getElem (by omega)⟩
              obtain ⟨p1, p2, p3, pc, hem⟩ := hE2.mem_of hx he
              have hem' : (e, lineObj x p1 p2 p3 pc) ∈ ((I, oI) :: (C, oC) :: (Dn, lst ys) :: (q, listOf ws.toArray qc) :: (xr, listOf vs1.toArray nr) :: (Dl, listOf (es.map Value.ref).toArray cb) :: ([(it, o), (xs, listOf svs2.toArray sc), (xl, listOf lvs2.toArray cl), (xd, listOf dvs.toArray nd), (L' + 1, o3), (L' + 1 + 1, o2), (L' + 1 + 1 + 1, o1)] ++ ents2)) :=
                .tail _ (.tail _ (.tail _ (.tail _ (.tail _ (.tail _ (List.mem_append_right _ hem))))))
              have hxo := hok2 x (List.mem_of_getElem? hx)
              try dsimp only
              k_steps
              apply Hold.out
              refine my_blanks (k := x.1) rfl (by omega) ?_
              intro u1 tk3
              try dsimp only
              k_steps
              apply Hold.out
              refine my_dots (k := x.2.2) rfl (by omega) ?_
              intro u2 tk4
              try dsimp only
              k_steps
              apply Hold.out
              refine my_glue blanks_dots (by rw [row_len, row_len]; omega) ?_
              intro u3 tk5
              try dsimp only
              k_steps
              apply Hold.out
              refine my_blanks (k := x.2.1) rfl (by omega) ?_
              intro u4 tk6
              try dsimp only
              k_steps
              apply Hold.out
              refine my_glue (z := row x.1 x.2.2 x.2.1) (by rw [row_blanks, Nat.zero_add]) (by rw [row_len, row_len]; omega) ?_
              intro u5 tk7
              try dsimp only
              k_steps
              apply Hold.out
              refine ⟨_, _, _, rfl, F, N, off, rfl, ?_⟩
              rw [List.take_add_one, hx]
              exact hI.snoc x u5
            case done4 =>
              clear F N1
              intro xz h10 tk10 zvs news F N1 offZ hzl htk10 HJ
              (try dsimp only)
              (try k_fold)
              obtain ⟨rfl, hZ⟩ := HJ
              rw [List.take_of_length_le (by omega)] at hZ
              obtain ⟨cz, hcz⟩ : ∃ cz, cz = zvs.length := ⟨_, rfl⟩
              rw [show lst zvs = listOf zvs.toArray cz by rw [hcz]] at N1
              clear offZ
              try dsimp only
              k_steps
              apply Hold.out
              refine my_ne_rows N1 (by k_mem) (by k_mem) hW hZ (fun x hx => by have := hok2 x hx; omega) (show 7 + 3 + 64 < cLine by decide) ?_
              try dsimp only
              have N3 := news_sub N1 (fun p hp => .tail _ (show p ∈ (q, listOf ws.toArray qc) :: (xr, listOf vs1.toArray nr) :: (Dl, listOf (es.map Value.ref).toArray cb) :: ([(it, o), (xs, listOf svs2.toArray sc), (xl, listOf lvs2.toArray cl), (xd, listOf dvs.toArray nd), (L' + 1, o3), (L' + 1 + 1, o2), (L' + 1 + 1 + 1, o1)] ++ ents2) from hp))
              clear N1 hZ
              k_steps
              apply Hold.out
              have hrowsW : ∀ (j : Nat) v, ws[j]? = some v → ∃ x t, X2[j]? = some x ∧ v = .str (row x.1 x.2.2 x.2.1) t := fun j v hv => by
                have hj := (List.getElem?_eq_some_iff.mp hv).1
                rw [hW.len] at hj
                obtain ⟨t, ht⟩ := hW.at (List.getElem?_eq_getElem hj)
                rw [ht] at hv
                exact ⟨_, t, List.getElem?_eq_getElem hj, (Option.some.inj hv).symm⟩
              have hrows1 : ∀ (j : Nat) v, vs1[j]? = some v → ∃ x t, X1[j]? = some x ∧ v = .str (row x.1 x.2.2 x.2.1) t := fun j v hv => by
                have hj := (List.getElem?_eq_some_iff.mp hv).1
                rw [hR1.len] at hj
                obtain ⟨t, ht⟩ := hR1.at (List.getElem?_eq_getElem hj)
                rw [ht] at hv
                exact ⟨_, t, List.getElem?_eq_getElem hj, (Option.some.inj hv).symm⟩
              refine comp_eval (n := n) (P := fun j v => ∃ x t, X2[j]? = some x ∧ v = .str (row x.1 x.2.2 x.2.1) t) (fun j tk ys nw => nw = (q, listOf ws.toArray qc) :: (xr, listOf vs1.toArray nr) :: (Dl, listOf (es.map Value.ref).toArray cb) :: ([(it, o), (xs, listOf svs2.toArray sc), (xl, listOf lvs2.toArray cl), (xd, listOf dvs.toArray nd), (L' + 1, o3), (L' + 1 + 1, o2), (L' + 1 + 1 + 1, o1)] ++ ents2) ∧ IntsAre ys ((lensOf X2).take j))
                F rfl (by with_unfolding_all rfl) (by decide) (by rfl) (by decide) (by rfl) (by omega) ?mono ?he ?turn5 ?done5
              case mono => exact fun j tk tk' ys nw ht h => h
              case he =>
                k_steps
                exact CompFrom.list F N3 (Nat.le_refl _) ⟨rfl, .nil⟩ (by rw [hW.len]; exact hX2) hrowsW (fun _ _ _ _ h => by rw [h.1]; exact .inr ⟨_, .head _, rfl, _, rfl⟩)
              case turn5 =>
                clear F N3
                intro j v I oI C oC Dn m₂ h tk2 ys news E' hj HV hC hm F N off ne HJ
                (try dsimp only)
                (try k_fold)
                obtain ⟨x, t, hx, rfl⟩ := HV
                obtain ⟨rfl, hI⟩ := HJ
                have hxo := hok2 x (List.mem_of_getElem? hx)
                try dsimp only
                k_steps
                apply Hold.out
                refine ⟨_, _, _, rfl, F, N, off, rfl, ?_⟩
                rw [List.take_add_one, show (lensOf X2)[j]? = some (((x.1 + x.2.2 + x.2.1 : Nat)) : Int) by rw [lensOf, List.getElem?_map, hx]; rfl]
                exact hI.append (.cons _ _ .nil)
              case done5 =>
                clear F N3
                intro xy h11 tk11 yvs news F N1 offY hyl htk11 HJ
                (try dsimp only)
                (try k_fold)
                obtain ⟨rfl, hY⟩ := HJ
                rw [List.take_of_length_le (by rw [lensOf_len]; omega)] at hY
                obtain ⟨cy, hcy⟩ : ∃ cy, cy = yvs.length := ⟨_, rfl⟩
                rw [show lst yvs = listOf yvs.toArray cy by rw [hcy]] at N1
                clear offY
                try dsimp only
                k_steps
                apply Hold.out
                refine wpAny_with_toks (Nat.le_refl _) (my_sum (by rfl) F N1 (.head _) hY ?_)
                clear F
                intro h12 tk12 t12 F N2 hstk12
                try dsimp only at hstk12
                have N3 := news_sub N2 (fun p hp => .tail _ (show p ∈ (q, listOf ws.toArray qc) :: (xr, listOf vs1.toArray nr) :: (Dl, listOf (es.map Value.ref).toArray cb) :: ([(it, o), (xs, listOf svs2.toArray sc), (xl, listOf lvs2.toArray cl), (xd, listOf dvs.toArray nd), (L' + 1, o3), (L' + 1 + 1, o2), (L' + 1 + 1 + 1, o1)] ++ ents2) from hp))
                clear N1 N2 hY
                try dsimp only
                k_steps
                apply Hold.out
                refine comp_eval (n := n) (P := fun j v => ∃ x t, X1[j]? = some x ∧ v = .str (row x.1 x.2.2 x.2.1) t) (fun j tk ys nw => nw = (q, listOf ws.toArray qc) :: (xr, listOf vs1.toArray nr) :: (Dl, listOf (es.map Value.ref).toArray cb) :: ([(it, o), (xs, listOf svs2.toArray sc), (xl, listOf lvs2.toArray cl), (xd, listOf dvs.toArray nd), (L' + 1, o3), (L' + 1 + 1, o2), (L' + 1 + 1 + 1, o1)] ++ ents2) ∧ IntsAre ys ((lensOf X1).take j))
                  F rfl (by with_unfolding_all rfl) (by decide) (by rfl) (by decide) (by rfl) (by omega) ?mono ?he ?turn6 ?done6
                case mono => exact fun j tk tk' ys nw ht h => h
                case he =>
                  k_steps
                  exact CompFrom.list F N3 (Nat.le_refl _) ⟨rfl, .nil⟩ (by rw [hR1.len]; exact hX1) hrows1 (fun _ _ _ _ h => by rw [h.1]; exact .inr ⟨_, .tail _ (.head _), rfl, _, rfl⟩)
                case turn6 =>
                  clear F N3
                  intro j v I oI C oC Dn m₂ h tk2 ys news E' hj HV hC hm F N off ne HJ
                  (try dsimp only)
                  (try k_fold)
                  obtain ⟨x, t, hx, rfl⟩ := HV
                  obtain ⟨rfl, hI⟩ := HJ
                  have hxo := hok1 x (List.mem_of_getElem? hx)
                  try dsimp only
                  k_steps
                  apply Hold.out
                  refine ⟨_, _, _, rfl, F, N, off, rfl, ?_⟩
                  rw [List.take_add_one, show (lensOf X1)[j]? = some (((x.1 + x.2.2 + x.2.1 : Nat)) : Int) by rw [lensOf, List.getElem?_map, hx]; rfl]
                  exact hI.append (.cons _ _ .nil)
                case done6 =>
                  clear F N3
                  intro xy h13 tk13 yvs news F N1 offY hyl htk13 HJ
                  (try dsimp only)
                  (try k_fold)
                  obtain ⟨rfl, hY⟩ := HJ
                  rw [List.take_of_length_le (by rw [lensOf_len]; omega)] at hY
                  obtain ⟨cy, hcy⟩ : ∃ cy, cy = yvs.length := ⟨_, rfl⟩
                  rw [show lst yvs = listOf yvs.toArray cy by rw [hcy]] at N1
                  clear offY
                  try dsimp only
                  k_steps
                  apply Hold.out
                  refine wpAny_with_toks (Nat.le_refl _) (my_sum (by rfl) F N1 (.head _) hY ?_)
                  clear F
                  intro h14 tk14 t14 F N2 hstk14
                  try dsimp only at hstk14
                  have N3 := news_sub N2 (fun p hp => .tail _ (show p ∈ (q, listOf ws.toArray qc) :: (xr, listOf vs1.toArray nr) :: (Dl, listOf (es.map Value.ref).toArray cb) :: ([(it, o), (xs, listOf svs2.toArray sc), (xl, listOf lvs2.toArray cl), (xd, listOf dvs.toArray nd), (L' + 1, o3), (L' + 1 + 1, o2), (L' + 1 + 1 + 1, o1)] ++ ents2) from hp))
                  clear N1 N2 hY hrowsW hrows1
                  try dsimp only
                  k_steps
                  rename Fr g2 L' _ _ => F
                  rename News g2 L' _ _ => N4
                  refine Hold.out ?_
                  refine ⟨g2, _, _, _, (q, listOf ws.toArray qc) :: (Dl, listOf (es.map Value.ref).toArray cb) :: ([(xs, listOf svs2.toArray sc), (xl, listOf lvs2.toArray cl), (xd, listOf dvs.toArray nd), (L' + 1, o3), (L' + 1 + 1, o2), (L' + 1 + 1 + 1, o1)] ++ ents2), rfl, ⟨T1.trans T2, B2⟩, F, ?N, ?ne, ?J⟩
                  case N =>
                    refine news_sub N4 (fun p hp => ?_)
                    rcases List.mem_cons.mp hp with hp | hp
                    · exact hp ▸ .tail _ (.tail _ (.tail _ (.head _)))
                    rcases List.mem_cons.mp hp with hp | hp
                    · exact hp ▸ .head _
                    rcases List.mem_cons.mp hp with hp | hp
                    · exact hp ▸ .tail _ (.tail _ (.head _))
                    · exact .tail _ (.tail _ (.tail _ (.tail _ hp)))
                  case ne =>
                    have hne2 : ∀ p ∈ [(xs, listOf svs2.toArray sc), (xl, listOf lvs2.toArray cl), (xd, listOf dvs.toArray nd), (L' + 1, o3), (L' + 1 + 1, o2), (L' + 1 + 1 + 1, o1)], p.1 ≠ it := List.forall_mem_cons.mpr ⟨hi_s, List.forall_mem_cons.mpr ⟨hi_l, List.forall_mem_cons.mpr ⟨hi_d, List.forall_mem_cons.mpr ⟨hi_1, List.forall_mem_cons.mpr ⟨hi_2, List.forall_mem_cons.mpr ⟨hi_3, List.forall_mem_nil _⟩⟩⟩⟩⟩⟩
                    refine List.forall_mem_cons.mpr ⟨Ne.symm (w4 _ (.head _)), List.forall_mem_cons.mpr ⟨hi_b, fun p hp => ?_⟩⟩
                    rcases List.mem_append.mp hp with hp | hp
                    · exact hne2 p hp
                    · exact fun e => hi_e (e ▸ hE2.fst ▸ List.mem_map_of_mem hp)
                  case J =>
                    refine RunsAt.intro q ws qc svs2 lvs2 ents2 X2 M L2 ((lensOf X2).sum - (lensOf X1).sum) tk14 ?_ ?_ ?_ ?_ (fun p hp => hp) hW hE2 hX2 hS2 hMp (hL2.mono (by dsimp only at *; omega)) hL2p ?_ hok2 (hgro.1) (by rw [← hX1]; exact hgro.2) w3 w2 (Ne.symm (w4 _ (.tail _ (.head _)))) (Ne.symm (w4 _ (.tail _ (.tail _ (.head _))))) (Ne.symm (w4 _ (.tail _ (.tail _ (.tail _ (.head _)))))) (Ne.symm (w4 _ (.tail _ (.tail _ (.tail _ (.tail _ (.head _))))))) (Ne.symm (w4 _ (.tail _ (.tail _ (.tail _ (.tail _ (.tail _ (.head _)))))))) (Ne.symm (w4 _ (.tail _ (.tail _ (.tail _ (.tail _ (.tail _ (.tail _ (.head _)))))))))
                    · repeat (first | with_reducible assumption | exact if_pos rfl | exact rfl | refine upd_ne (by decide) ?_)
                    · repeat (first | with_reducible assumption | exact if_pos rfl | exact rfl | refine upd_ne (by decide) ?_)
                    · repeat (first | with_reducible assumption | exact if_pos rfl | exact rfl | refine upd_ne (by decide) ?_)
                    · repeat (first | with_reducible assumption | exact if_pos rfl | exact rfl | refine upd_ne (by decide) ?_)
                    · rw [hco]
                      exact hrel2
      case done =>
        rintro g1 m₁ h tk news₁ hJ ⟨T1, B1⟩ F N
        have KX1 := XB.keeps B1.stays
        have TX1 := TB.keeps B1.stays
        clear KX T
        dsimp only
        k_steps
        apply Hold.out
        intro htoks
        exact hret _ _ _ _ g1 htoks rfl T1 B1 (Fr.keep F) (newsG_of N)

end
end
end
end
section
open PySem PySem.W PySem.Calls PySem.Spec PyProof.Rows
local macro_rules | `(tactic| walk_at "call ref") => `(tactic| ((with_reducible show wpAny _ _ (call (Value.ref 167) _) _ _ _); refine hold_of ?_))
local macro_rules | `(tactic| walk_at "call ref") => `(tactic| ((with_reducible show wpAny _ _ (call (Value.ref 214) _) _ _ _); refine hold_of ?_))
local macro_rules | `(tactic| k_qdec) => `(tactic| decide +kernel)
theorem fin : PySem.Challenge.rw_wk0014_01.Holds := hd (by
  k_go0
  all_goals try k_fold
  k_steps
  apply Hold.out
  rename Heap.IsList _ _ _ => hl
  rename IntsAre _ _ => hI
  rename Below callerA _ [] _ => B
  rename Fr _ _ _ _ => F
  rename News _ _ _ _ => N
  rename Top _ _ _ _ _ _ => T
  rename (hd.heap_1 _).In _ => KX
  refine (draws_says hI (by omega)).call (dp := 302) (un := 7) (gd := some []) (outer := []) (cl := []) [] B F KX N T rfl (fun _ hp => nomatch hp) (fun _ hp => nomatch hp) (fun _ hp => nomatch hp) (fun g hg _ => ?_) (by decide) (by decide) ?_
  · obtain ⟨o, ho, r⟩ := hl
    exact ⟨o, hg _ _ ho, r⟩
  · clear F N
    rintro v need' h1 tk1 ht1 ⟨D, ws, c, ds, rfl, rfl, hD, hd6, hdb⟩ F N
    try dsimp only at ht1
    try dsimp only
    k_steps
    apply Hold.out
    rename Fr _ _ _ _ => F
    rename News _ _ _ _ => N
    rename IntsAre _ (List.drop 1 _) => hI2
    obtain ⟨n, hn, h5, h7⟩ := five_up (ds.getD (Int.toNat 0) 0)
    rw [hn]
    refine (runs_says hI2 (by rw [List.length_drop, hd6]) (fun x hx => hdb x (List.mem_of_mem_drop hx)) h5 h7).call (outer := []) (cl := []) [] B F KX N T rfl (List.forall_mem_cons.mpr ⟨.head _, List.forall_mem_nil _⟩) (fun _ hp => nomatch hp) (fun _ hp => nomatch hp) (fun _ _ _ => trivial) ?_
    rintro v need' h2 tk2 g2 ht2 rfl T2 B2 F2 N2
    try dsimp only
    have F3 := Fr.mk F2.ns (fun b o e => F2.keep b o (T2.other b o e (fun q => nomatch q))) (by have := F2.above; rwa [T2.size] at this)
    clear F F2 N N2 T2 B2
    k_steps)

end
end
end Mine
theorem PySem.Challenge.cw_wk0014_01_holds : PySem.Challenge.rw_wk0014_01.Holds :=
  Mine.fin
