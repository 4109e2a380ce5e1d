import PyProof.Rows.All
import Wide.All
import OpenK.AllK
import Wide.FinOn
import PySem.Challenge.RW_hq0002_01
open PySem PySem.W PyProof.Rows PySem.Calls PySem.Spec
set_option linter.unusedVariables false
set_option Elab.async false
set_option maxRecDepth 100000
set_option maxHeartbeats 8000000
namespace Mine
open_top hd for PySem.Challenge.rw_hq0002_01
theorem filled : PySem.Challenge.rw_hq0002_01 = PySem.Challenge.rw_hq0002_01 ∧ hd.heap_39 = hd.heap_39 := by
  k_fill
  exact ⟨rfl, rfl⟩
local macro_rules | `(tactic| walk_at $s:str) => `(tactic| k_extra $s)
local macro_rules | `(tactic| omega) => `(tactic| first | lia | omega (config := {}))
section
noncomputable abbrev PR : Program := PySem.Challenge.rw_hq0002_01.row.prog
noncomputable abbrev KK (w : World) : Frag := hd.heap_39 w.params
noncomputable abbrev LOO : List Str := looseW hd.view_39 [Str.ofString "insort_left", Str.ofString "bisect_left"]
noncomputable abbrev LOO2 : List Str := LOO ++ (recsOf hd.view_39).map (·.name) ++ (litsOf hd.view_39).map (·.1) ++ (clssOf hd.view_39 LOO).map (·.name)

/-- what stands for good: the written part, the top's facts, the two codes that make defs -/
structure Gnd (w : World) (mean : ExcName → Option Value) (mg mb : Str → Option Value) (h : Heap) : Prop where
  X : (hd.heap_39 w.params).In h
  T : Top topProg LOO2 mean mg mb h
  c30 : CodeHd h 34 30
  c37 : CodeHd h 41 37

theorem Gnd.keeps {w mean mg mb} {h h' : Heap} (G : Gnd w mean mg mb h) (k : ∀ b o, h.get? b = some o → h'.get? b = some o) : Gnd w mean mg mb h' :=
  ⟨G.X.keeps k, G.T.keeps k, G.c30.keeps k, G.c37.keeps k⟩

noncomputable abbrev q30 : Str := Str.ofString "_int2digits.<locals>.inner"
noncomputable abbrev q37 : Str := Str.ofString "_digits2int.<locals>.inner"
noncomputable abbrev entry (l c : Nat) (a : Addr) : Array Value := #[] ++ #[rawInt l, rawInt c, .ref a]

/-- a table: nothing yet, or the one def's code -/
def Miss (h : Heap) (P : Addr) : Prop := h.get? P = some (tabObj #[])
def Hit (h : Heap) (P : Addr) (l c : Nat) (q : Str) : Prop := ∃ a, h.get? P = some (tabObj (entry l c a)) ∧ h.CodeRec (.ref a) q
def Hits (h : Heap) : Prop := Hit h 30 32 4 q30 ∧ Hit h 37 47 4 q37

noncomputable abbrev ghost (h : Heap) : Heap := hideAll h [30, 37]
structure Good (w : World) (mean : ExcName → Option Value) (mg mb : Str → Option Value) (h : Heap) : Prop where
  g : Gnd w mean mg mb (ghost h)
  t30 : Miss h 30 ∨ Hit h 30 32 4 q30
  t37 : Miss h 37 ∨ Hit h 37 47 4 q37

/-- all is kept but an empty table -/
def Ext (h h' : Heap) : Prop := ∀ b o, h.get? b = some o → (b = 30 ∨ b = 37 → o ≠ tabObj #[]) → h'.get? b = some o
theorem Ext.refl (h : Heap) : Ext h h := fun _ _ e _ => e
theorem Ext.trans {h h' h'' : Heap} (a : Ext h h') (b : Ext h' h'') : Ext h h'' := fun x o e n => b x o (a x o e n) n
theorem Ext.of_keeps {h h' : Heap} (k : ∀ b o, h.get? b = some o → h'.get? b = some o) : Ext h h' := fun b o e _ => k b o e

theorem entry_ne {l c : Nat} {a : Addr} : tabObj (entry l c a) ≠ tabObj #[] := fun e => by
  have : (entry l c a).size = (#[] : Array Value).size := by
    have := congrArg Obj.data e
    simp only [Data.fields.injEq] at this
    rw [this]
  simp at this

theorem Ext.keeps_of_hits {h h' : Heap} (x : Ext h h') (hh : Hits h) : ∀ b o, h.get? b = some o → h'.get? b = some o := fun b o e => x b o e fun hb q => by
  subst q
  rcases hb with rfl | rfl
  · obtain ⟨a, e1, _⟩ := hh.1; rw [e] at e1; exact entry_ne (Option.some.inj e1).symm
  · obtain ⟨a, e1, _⟩ := hh.2; rw [e] at e1; exact entry_ne (Option.some.inj e1).symm
theorem Hit.keeps {h h' : Heap} {P l c q} (x : Hit h P l c q) (k : ∀ b o, h.get? b = some o → h'.get? b = some o) : Hit h' P l c q :=
  let ⟨a, e, r⟩ := x; ⟨a, k _ _ e, r.keeps k⟩
theorem Hits.keeps {h h' : Heap} (x : Hits h) (k : ∀ b o, h.get? b = some o → h'.get? b = some o) : Hits h' := ⟨x.1.keeps k, x.2.keeps k⟩
theorem Hits.ext {h h' : Heap} (x : Hits h) (k : Ext h h') : Hits h' := x.keeps (k.keeps_of_hits x)

theorem ghost_of {h : Heap} {b : Addr} {o : Obj} (e : h.get? b = some o) (h1 : b ≠ 30) (h2 : b ≠ 37) : (ghost h).get? b = some o :=
  hideAll_get _ e fun q => by
    rcases List.mem_cons.mp q with q | q
    · exact h1 q
    · exact h2 (List.mem_singleton.mp q)
theorem of_ghost {h : Heap} {b : Addr} {o : Obj} (e : (ghost h).get? b = some o) : h.get? b = some o := of_hideAll _ e
theorem ghost_30 {h : Heap} : (ghost h).get? 30 = none := hideAll_none _ (.head _)
theorem ghost_37 {h : Heap} : (ghost h).get? 37 = none := hideAll_none _ (.tail _ (.head _))
theorem ghost_ne {h : Heap} {b : Addr} {o : Obj} (e : (ghost h).get? b = some o) : b ≠ 30 ∧ b ≠ 37 :=
  ⟨fun q => (by subst q; rw [ghost_30] at e; cases e), fun q => (by subst q; rw [ghost_37] at e; cases e)⟩
theorem ghost_gets {h h' : Heap} (k : ∀ b o, (ghost h).get? b = some o → h'.get? b = some o) : ∀ b o, (ghost h).get? b = some o → (ghost h').get? b = some o := fun b o e =>
  ghost_of (k b o e) (ghost_ne e).1 (ghost_ne e).2
theorem Ext.ghost {h h' : Heap} (x : Ext h h') : ∀ b o, (Mine.ghost h).get? b = some o → h'.get? b = some o := fun b o e =>
  x b o (of_ghost e) fun hb => by
    rcases hb with hb | hb
    · exact absurd hb (ghost_ne e).1
    · exact absurd hb (ghost_ne e).2

theorem tab_of_good {w mean mg mb} {h : Heap} {b : Addr} {o : Obj} (G : Good w mean mg mb h) (hb : b = 30 ∨ b = 37) (e : h.get? b = some o) : ∃ ps, o = tabObj ps := by
  rcases hb with rfl | rfl
  · rcases G.t30 with q | ⟨a, q, _⟩ <;> (rw [q] at e; cases e; exact ⟨_, rfl⟩)
  · rcases G.t37 with q | ⟨a, q, _⟩ <;> (rw [q] at e; cases e; exact ⟨_, rfl⟩)
theorem Good.ghost_of {w mean mg mb} {h : Heap} {b : Addr} {o : Obj} (G : Good w mean mg mb h) (e : h.get? b = some o) (n : o.cls ≠ .none) : (ghost h).get? b = some o :=
  Mine.ghost_of e (fun q => by obtain ⟨ps, q⟩ := tab_of_good G (.inl q) e; subst q; exact n rfl) (fun q => by obtain ⟨ps, q⟩ := tab_of_good G (.inr q) e; subst q; exact n rfl)
theorem Good.isList {w mean mg mb} {h : Heap} {l : Addr} {its : Array Value} (G : Good w mean mg mb h) (x : h.IsList l its) : (ghost h).IsList l its :=
  let ⟨o, e, hc, r⟩ := x; ⟨o, G.ghost_of e (by rw [hc]; nofun), hc, r⟩

/-- a code's object -/
def IsCodeObj (o : Obj) (q : Str) : Prop := ∃ vs t, o.data = .fields vs ∧ vs[1]? = some (.str q t)
def CodeIn (g : Heap) (codes : List (Addr × Obj)) (a : Addr) (q : Str) : Prop := g.CodeRec (.ref a) q ∨ ∃ o, (a, o) ∈ codes ∧ IsCodeObj o q
/-- the tables in a ledger's tail, over what stood at h₀ -/
structure TS (h₀ : Heap) (ps30 ps37 : Array Value) (codes : List (Addr × Obj)) : Prop where
  t30 : ps30 = #[] ∨ ∃ a, ps30 = entry 32 4 a ∧ CodeIn (ghost h₀) codes a q30
  t37 : ps37 = #[] ∨ ∃ a, ps37 = entry 47 4 a ∧ CodeIn (ghost h₀) codes a q37
  k30 : ∀ o, h₀.get? 30 = some o → o ≠ tabObj #[] → o = tabObj ps30
  k37 : ∀ o, h₀.get? 37 = some o → o ≠ tabObj #[] → o = tabObj ps37
  cd : ∀ p ∈ codes, ∃ q, IsCodeObj p.2 q
noncomputable abbrev tls (ps30 ps37 : Array Value) (codes : List (Addr × Obj)) : List (Addr × Obj) := (30, tabObj ps30) :: (37, tabObj ps37) :: codes
def TL (h₀ : Heap) (tl : List (Addr × Obj)) : Prop := ∃ ps30 ps37 codes, tl = tls ps30 ps37 codes ∧ TS h₀ ps30 ps37 codes

theorem CodeIn.get {g h : Heap} {L : Addr} {own codes : List (Addr × Obj)} {ps30 ps37 : Array Value} {a : Addr} {q : Str} {m} (F : Fr g L h m) (N : News g L h (own ++ tls ps30 ps37 codes)) (x : CodeIn g codes a q) : h.CodeRec (.ref a) q := by
  rcases x with x | ⟨o, hm, vs, t, e1, e2⟩
  · exact x.keeps F.keep
  · exact ⟨a, o, vs, t, rfl, (N _ (List.mem_append_right _ (.tail _ (.tail _ hm)))).1, e1, e2⟩

theorem TL.good {w mean mg mb} {h₀ h : Heap} {L : Addr} {own tl : List (Addr × Obj)} {m} (G : Good w mean mg mb h₀) (F : Fr (ghost h₀) L h m) (N : News (ghost h₀) L h (own ++ tl)) (S : TL h₀ tl) : Ext h₀ h ∧ Good w mean mg mb h := by
  obtain ⟨ps30, ps37, codes, rfl, S⟩ := S
  have e30 : h.get? 30 = some (tabObj ps30) := (N _ (List.mem_append_right _ (.head _))).1
  have e37 : h.get? 37 = some (tabObj ps37) := (N _ (List.mem_append_right _ (.tail _ (.head _)))).1
  refine ⟨fun b o e n => ?_, ⟨G.g.keeps (ghost_gets F.keep), ?_, ?_⟩⟩
  · by_cases h1 : b = 30
    · subst h1; rw [S.k30 o e (n (.inl rfl))]; exact e30
    · by_cases h2 : b = 37
      · subst h2; rw [S.k37 o e (n (.inr rfl))]; exact e37
      · exact F.keep _ _ (ghost_of e h1 h2)
  · rcases S.t30 with rfl | ⟨a, rfl, x⟩
    · exact .inl e30
    · exact .inr ⟨a, e30, x.get F N⟩
  · rcases S.t37 with rfl | ⟨a, rfl, x⟩
    · exact .inl e37
    · exact .inr ⟨a, e37, x.get F N⟩

theorem codeObj_ne_tab {ps : Array Value} {o : Obj} {q : Str} (x : IsCodeObj o q) (hp : ps = #[] ∨ ∃ l c a, ps = entry l c a) : o ≠ tabObj ps := fun e => by
  obtain ⟨vs, t, e1, e2⟩ := x
  rw [e] at e1
  cases e1
  rcases hp with rfl | ⟨l, c, a, rfl⟩
  · cases e2
  · simp [rawInt] at e2

/-- the code that a full table names, as the ledger has it -/
theorem code_from {h₀ h : Heap} {L a : Addr} {q : Str} {m} (F : Fr (ghost h₀) L h m) (x : h.CodeRec (.ref a) q) : (ghost h₀).CodeRec (.ref a) q ∨ ∃ o, IsCodeObj o q ∧ h.get? a = some o ∧ a ≠ L ∧ (ghost h₀).get? a = none := by
  obtain ⟨a', o, vs, t, e0, e1, e2, e3⟩ := x
  cases e0
  cases hg : (ghost h₀).get? a with
  | some o' =>
    have := F.keep _ _ hg
    rw [e1] at this
    cases this
    exact .inl ⟨a, o, vs, t, rfl, hg, e2, e3⟩
  | none =>
    refine .inr ⟨o, ⟨vs, t, e2, e3⟩, e1, fun q => ?_, rfl⟩
    subst q
    obtain ⟨oL, es, ep, hL, hLd, _⟩ := F.ns
    rw [e1] at hL
    cases hL
    rw [e2] at hLd
    cases hLd

theorem TL.start {w mean mg mb} {h₀ : Heap} (G : Good w mean mg mb h₀) : ∃ ps30 ps37, h₀.get? 30 = some (tabObj ps30) ∧ h₀.get? 37 = some (tabObj ps37) ∧ TS h₀ ps30 ps37 [] := by
  have cg : ∀ {a q}, h₀.CodeRec (.ref a) q → (∀ ps, h₀.get? 30 = some (tabObj ps) → ps = #[] ∨ ∃ l c a, ps = entry l c a) → (∀ ps, h₀.get? 37 = some (tabObj ps) → ps = #[] ∨ ∃ l c a, ps = entry l c a) → CodeIn (ghost h₀) [] a q := fun {a q} x s30 s37 => by
    obtain ⟨a', o, vs, t, e0, e1, e2, e3⟩ := x
    cases e0
    have n1 : a ≠ 30 := fun q => by
      subst q
      rcases G.t30 with e | ⟨b, e, _⟩
      · rw [e] at e1; cases e1; cases e2; cases e3
      · rw [e] at e1; cases e1; cases e2; simp [rawInt] at e3
    have n2 : a ≠ 37 := fun q => by
      subst q
      rcases G.t37 with e | ⟨b, e, _⟩
      · rw [e] at e1; cases e1; cases e2; cases e3
      · rw [e] at e1; cases e1; cases e2; simp [rawInt] at e3
    exact .inl ⟨a, o, vs, t, rfl, ghost_of e1 n1 n2, e2, e3⟩
  have s30 : ∀ ps, h₀.get? 30 = some (tabObj ps) → ps = #[] ∨ ∃ l c a, ps = entry l c a := fun ps e => by
    rcases G.t30 with q | ⟨b, q, _⟩
    · rw [q] at e; cases e; exact .inl rfl
    · rw [q] at e; cases e; exact .inr ⟨_, _, _, rfl⟩
  have s37 : ∀ ps, h₀.get? 37 = some (tabObj ps) → ps = #[] ∨ ∃ l c a, ps = entry l c a := fun ps e => by
    rcases G.t37 with q | ⟨b, q, _⟩
    · rw [q] at e; cases e; exact .inl rfl
    · rw [q] at e; cases e; exact .inr ⟨_, _, _, rfl⟩
  obtain ⟨ps30, e30, t30⟩ : ∃ ps, h₀.get? 30 = some (tabObj ps) ∧ (ps = #[] ∨ ∃ a, ps = entry 32 4 a ∧ CodeIn (ghost h₀) [] a q30) := by
    rcases G.t30 with e | ⟨a, e, x⟩
    · exact ⟨_, e, .inl rfl⟩
    · exact ⟨_, e, .inr ⟨a, rfl, cg x s30 s37⟩⟩
  obtain ⟨ps37, e37, t37⟩ : ∃ ps, h₀.get? 37 = some (tabObj ps) ∧ (ps = #[] ∨ ∃ a, ps = entry 47 4 a ∧ CodeIn (ghost h₀) [] a q37) := by
    rcases G.t37 with e | ⟨a, e, x⟩
    · exact ⟨_, e, .inl rfl⟩
    · exact ⟨_, e, .inr ⟨a, rfl, cg x s30 s37⟩⟩
  exact ⟨ps30, ps37, e30, e37, t30, t37, fun o e _ => by rw [e30] at e; exact (Option.some.inj e).symm, fun o e _ => by rw [e37] at e; exact (Option.some.inj e).symm, fun _ h => nomatch h⟩

def Full30 (tl : List (Addr × Obj)) : Prop := ∃ a b codes, tl = tls (entry 32 4 a) b codes
def Full37 (tl : List (Addr × Obj)) : Prop := ∃ a b codes, tl = tls a (entry 47 4 b) codes
/-- behind a call: the frame and the ledger stand, the tables may have been filled -/
theorem TL.after {w mean mg mb} {h₀ h h' : Heap} {L : Addr} {own tl : List (Addr × Obj)} {m} (F : Fr (ghost h₀) L h m) (N : News (ghost h₀) L h (own ++ tl)) (S : TL h₀ tl) (X : Ext h h') (G' : Good w mean mg mb h')
    (ho : ∀ p ∈ own, p.2 ≠ tabObj #[]) : ∃ tl', TL h₀ tl' ∧ Fr (ghost h₀) L h' m ∧ News (ghost h₀) L h' (own ++ tl') ∧ (Full30 tl ∨ Hit h' 30 32 4 q30 → Full30 tl') ∧ (Full37 tl ∨ Hit h' 37 47 4 q37 → Full37 tl') := by
  obtain ⟨ps30, ps37, codes, rfl, S⟩ := S
  have N30 := N _ (List.mem_append_right _ (.head _))
  have N37 := N _ (List.mem_append_right _ (.tail _ (.head _)))
  have e30 : h.get? 30 = some (tabObj ps30) := N30.1
  have e37 : h.get? 37 = some (tabObj ps37) := N37.1
  obtain ⟨oL, es, ep, hL, hLd, hLk, hLf⟩ := F.ns
  have F' : Fr (ghost h₀) L h' m := by
    refine ⟨⟨oL, es, ep, X _ _ hL fun _ q => ?_, hLd, hLk, hLf⟩, fun b o e => X b o (F.keep _ _ e) fun hb => ?_, F.above⟩
    · rw [q] at hLd; cases hLd
    · rcases hb with hb | hb
      · exact absurd hb (ghost_ne e).1
      · exact absurd hb (ghost_ne e).2
  have Nown : ∀ p ∈ own, h'.get? p.1 = some p.2 ∧ p.1 ≠ L ∧ (ghost h₀).get? p.1 = none := fun p hp => by
    have n := N p (List.mem_append_left _ hp)
    exact ⟨X _ _ n.1 fun _ q => ho p hp q, n.2⟩
  have n30 : (30 : Addr) ≠ L := N30.2.1
  have n37 : (37 : Addr) ≠ L := N37.2.1
  have tab30 : ∃ qs, h'.get? 30 = some (tabObj qs) ∧ (qs = #[] ∨ ∃ a, qs = entry 32 4 a ∧ h'.CodeRec (.ref a) q30) := by
    rcases G'.t30 with e | ⟨a, e, x⟩
    · exact ⟨_, e, .inl rfl⟩
    · exact ⟨_, e, .inr ⟨a, rfl, x⟩⟩
  have tab37 : ∃ qs, h'.get? 37 = some (tabObj qs) ∧ (qs = #[] ∨ ∃ a, qs = entry 47 4 a ∧ h'.CodeRec (.ref a) q37) := by
    rcases G'.t37 with e | ⟨a, e, x⟩
    · exact ⟨_, e, .inl rfl⟩
    · exact ⟨_, e, .inr ⟨a, rfl, x⟩⟩
  obtain ⟨qs30, g30, t30⟩ := tab30
  obtain ⟨qs37, g37, t37⟩ := tab37
  have codeOf : ∀ a q, h'.CodeRec (.ref a) q → ∃ l : List (Addr × Obj), (∀ p ∈ l, (h'.get? p.1 = some p.2 ∧ p.1 ≠ L ∧ (ghost h₀).get? p.1 = none) ∧ ∃ q, IsCodeObj p.2 q) ∧ CodeIn (ghost h₀) l a q := fun a q x => by
    rcases code_from F' x with x | ⟨o, c, e1, e2, e3⟩
    · exact ⟨[], (fun _ h => nomatch h), .inl x⟩
    · exact ⟨[(a, o)], fun p hp => by rw [List.mem_singleton.mp hp]; exact ⟨⟨e1, e2, e3⟩, q, c⟩, .inr ⟨o, .head _, c⟩⟩
  have up : ∀ {l l' : List (Addr × Obj)} {a q}, (∀ p ∈ l, p ∈ l') → CodeIn (ghost h₀) l a q → CodeIn (ghost h₀) l' a q := fun s x => x.imp id fun ⟨o, hm, c⟩ => ⟨o, s _ hm, c⟩
  obtain ⟨l30, a30, b30⟩ : ∃ l : List (Addr × Obj), (∀ p ∈ l, (h'.get? p.1 = some p.2 ∧ p.1 ≠ L ∧ (ghost h₀).get? p.1 = none) ∧ ∃ q, IsCodeObj p.2 q) ∧ (qs30 = #[] ∨ ∃ a, qs30 = entry 32 4 a ∧ CodeIn (ghost h₀) l a q30) := by
    rcases t30 with e | ⟨a, e, x⟩
    · exact ⟨[], (fun _ h => nomatch h), .inl e⟩
    · obtain ⟨l, h1, h2⟩ := codeOf a _ x; exact ⟨l, h1, .inr ⟨a, e, h2⟩⟩
  obtain ⟨l37, a37, b37⟩ : ∃ l : List (Addr × Obj), (∀ p ∈ l, (h'.get? p.1 = some p.2 ∧ p.1 ≠ L ∧ (ghost h₀).get? p.1 = none) ∧ ∃ q, IsCodeObj p.2 q) ∧ (qs37 = #[] ∨ ∃ a, qs37 = entry 47 4 a ∧ CodeIn (ghost h₀) l a q37) := by
    rcases t37 with e | ⟨a, e, x⟩
    · exact ⟨[], (fun _ h => nomatch h), .inl e⟩
    · obtain ⟨l, h1, h2⟩ := codeOf a _ x; exact ⟨l, h1, .inr ⟨a, e, h2⟩⟩
  refine ⟨tls qs30 qs37 (l30 ++ l37), ⟨qs30, qs37, l30 ++ l37, rfl, ?_⟩, F', fun p hp => ?_, fun hh => ?_, fun hh => ?_⟩
  · refine ⟨b30.imp id fun ⟨a, e, x⟩ => ⟨a, e, up (fun p hp => List.mem_append_left _ hp) x⟩, b37.imp id fun ⟨a, e, x⟩ => ⟨a, e, up (fun p hp => List.mem_append_right _ hp) x⟩, fun o e n => ?_, fun o e n => ?_, fun p hp => ?_⟩
    · have e1 := S.k30 o e n
      have := X _ _ e30 fun _ => e1 ▸ n
      rw [g30] at this
      rw [e1]; exact (Option.some.inj this).symm
    · have e1 := S.k37 o e n
      have := X _ _ e37 fun _ => e1 ▸ n
      rw [g37] at this
      rw [e1]; exact (Option.some.inj this).symm
    · rcases List.mem_append.mp hp with hp | hp
      · exact (a30 p hp).2
      · exact (a37 p hp).2
  · rcases List.mem_append.mp hp with hp | hp
    · exact Nown p hp
    · rcases List.mem_cons.mp hp with rfl | hp
      · exact ⟨g30, n30, ghost_30⟩
      · rcases List.mem_cons.mp hp with rfl | hp
        · exact ⟨g37, n37, ghost_37⟩
        · rcases List.mem_append.mp hp with hp | hp
          · exact (a30 p hp).1
          · exact (a37 p hp).1
  · rcases hh with ⟨a, b, codes', e⟩ | ⟨a, x1, _⟩
    · simp only [tls, List.cons.injEq, Prod.mk.injEq, true_and] at e
      have := X _ _ e30 fun _ => (by rw [e.1]; exact entry_ne)
      rw [g30, e.1] at this
      cases this
      exact ⟨a, _, _, rfl⟩
    · rw [g30] at x1; cases x1
      exact ⟨a, _, _, rfl⟩
  · rcases hh with ⟨a, b, codes', e⟩ | ⟨b, x2, _⟩
    · simp only [tls, List.cons.injEq, Prod.mk.injEq, true_and] at e
      have := X _ _ e37 fun _ => (by rw [e.2.1]; exact entry_ne)
      rw [g37, e.2.1] at this
      cases this
      exact ⟨_, b, _, rfl⟩
    · rw [g37] at x2; cases x2
      exact ⟨_, b, _, rfl⟩

theorem TL.hits {h₀ h : Heap} {L : Addr} {own tl : List (Addr × Obj)} {m} (F : Fr (ghost h₀) L h m) (N : News (ghost h₀) L h (own ++ tl)) (S : TL h₀ tl) (f30 : Full30 tl) (f37 : Full37 tl) : Hits h := by
  obtain ⟨ps30, ps37, codes, rfl, S⟩ := S
  have e30 : h.get? 30 = some (tabObj ps30) := (N _ (List.mem_append_right _ (.head _))).1
  have e37 : h.get? 37 = some (tabObj ps37) := (N _ (List.mem_append_right _ (.tail _ (.head _)))).1
  obtain ⟨a, b, c, e⟩ := f30
  obtain ⟨a', b', c', e'⟩ := f37
  simp only [tls, List.cons.injEq, Prod.mk.injEq, true_and] at e e'
  refine ⟨?_, ?_⟩
  · rcases S.t30 with q | ⟨a₁, q, x⟩
    · rw [q] at e; exact absurd e.1.symm entry_ne
    · exact ⟨a₁, q ▸ e30, x.get F N⟩
  · rcases S.t37 with q | ⟨a₁, q, x⟩
    · rw [q] at e'; exact absurd e'.2.1.symm entry_ne
    · exact ⟨a₁, q ▸ e37, x.get F N⟩

abbrev NewAt (g : Heap) (L : Addr) (h : Heap) (a : Addr) (o : Obj) : Prop := h.get? a = some o ∧ a ≠ L ∧ g.get? a = none
/-- a ledger: what is the frame's own, ahead of the tables' tail -/
inductive Cut (tl : List (Addr × Obj)) : List (Addr × Obj) → List (Addr × Obj) → Prop
  | here : Cut tl tl []
  | cons {x : Addr × Obj} {r o : List (Addr × Obj)} : x.2 ≠ tabObj #[] → Cut tl r o → Cut tl (x :: r) (x :: o)
theorem Cut.eq {tl : List (Addr × Obj)} : ∀ {news own : List (Addr × Obj)}, Cut tl news own → news = own ++ tl ∧ ∀ p ∈ own, p.2 ≠ tabObj #[]
  | _, _, .here => ⟨rfl, fun _ h => nomatch h⟩
  | _, _, .cons hx c => by
    obtain ⟨e, h⟩ := c.eq
    refine ⟨by rw [e]; rfl, fun p hp => ?_⟩
    rcases List.mem_cons.mp hp with rfl | hp
    · exact hx
    · exact h p hp
theorem ne_tab_cls {o : Obj} (h : o.cls ≠ .none) : o ≠ tabObj #[] := fun e => h (by rw [e])
theorem ne_tab_cell {o : Obj} {v : Option Value} (h : o.data = .cell v) : o ≠ tabObj #[] := fun e => by rw [e] at h; cases h
theorem Cut.good {w mean mg mb} {h₀ h : Heap} {L : Addr} {news own tl : List (Addr × Obj)} {m} (C : Cut tl news own) (G : Good w mean mg mb h₀) (F : Fr (ghost h₀) L h m) (N : News (ghost h₀) L h news) (S : TL h₀ tl) : Ext h₀ h ∧ Good w mean mg mb h := by
  obtain ⟨rfl, _⟩ := C.eq
  exact TL.good G F N S
theorem Cut.after {w mean mg mb} {h₀ h h' : Heap} {L : Addr} {news own tl : List (Addr × Obj)} {m} (C : Cut tl news own) (F : Fr (ghost h₀) L h m) (N : News (ghost h₀) L h news) (S : TL h₀ tl) (X : Ext h h') (G' : Good w mean mg mb h') :
    ∃ tl', TL h₀ tl' ∧ Fr (ghost h₀) L h' m ∧ News (ghost h₀) L h' (own ++ tl') ∧ (Full30 tl ∨ Hit h' 30 32 4 q30 → Full30 tl') ∧ (Full37 tl ∨ Hit h' 37 47 4 q37 → Full37 tl') := by
  obtain ⟨rfl, ho⟩ := C.eq
  exact TL.after F N S X G' ho
theorem Cut.hits {h₀ h : Heap} {L : Addr} {news own tl : List (Addr × Obj)} {m} (C : Cut tl news own) (F : Fr (ghost h₀) L h m) (N : News (ghost h₀) L h news) (S : TL h₀ tl) (f30 : Full30 tl) (f37 : Full37 tl) : Hits h := by
  obtain ⟨rfl, _⟩ := C.eq
  exact TL.hits F N S f30 f37
/-- an object made by a call lies above all that stood -/
theorem new_at {h₀ h h' : Heap} {L p : Addr} {o : Obj} {m} (F : Fr (ghost h₀) L h m) (hp : h.objs.size ≤ p) (e : h'.get? p = some o) : NewAt (ghost h₀) L h' p o :=
  ⟨e, fun q => absurd (Nat.lt_of_lt_of_le F.ns.lt hp) (by rw [q]; exact Nat.lt_irrefl _), by
    cases q : (ghost h₀).get? p with
    | none => rfl
    | some o' => exact absurd (Nat.lt_of_lt_of_le (Heap.lt_size (F.keep _ _ q)) hp) (Nat.lt_irrefl _)⟩
theorem new_at2 {h₀ h h' : Heap} {L p : Addr} {o : Obj} {m} (F : Fr (ghost h₀) L h m) (hp : h.get? p = none) (e : h'.get? p = some o) : NewAt (ghost h₀) L h' p o :=
  ⟨e, fun q => (by subst q; obtain ⟨oL, _, _, hL, _⟩ := F.ns; rw [hp] at hL; cases hL), by
    cases q : (ghost h₀).get? p with
    | none => rfl
    | some o' => rw [F.keep _ _ q] at hp; cases hp⟩
def AllNe (d : Addr) : List (Addr × Obj) → Prop
  | [] => True
  | p :: r => @Ne Nat p.1 d ∧ AllNe d r
theorem allNe_of {d : Addr} : ∀ {l : List (Addr × Obj)}, (∀ p ∈ l, p.1 ≠ d) → AllNe d l
  | [], _ => trivial
  | p :: _, h => ⟨h p (.head _), allNe_of fun q hq => h q (.tail _ hq)⟩
theorem apart_new {g h : Heap} {L p : Addr} {news : List (Addr × Obj)} (N : News g L h news) (hp : h.get? p = none) : AllNe p news := allNe_of fun q hq e => by
  have := (N q hq).1
  rw [e, hp] at this; cases this
/-- what is new at the end was not there at the start -/
theorem fresh_of {w mean mg mb} {h₀ h : Heap} {L p : Addr} {o : Obj} (n : NewAt (ghost h₀) L h p o) (G' : Good w mean mg mb h) (ho : o.cls ≠ .none) : h₀.get? p = none := by
  cases q : h₀.get? p with
  | none => rfl
  | some o' =>
    by_cases h1 : p = 30 ∨ p = 37
    · obtain ⟨ps, e⟩ := tab_of_good G' h1 n.1
      exact absurd (by rw [e]) ho
    · have := ghost_of q (fun e => h1 (.inl e)) (fun e => h1 (.inr e))
      rw [n.2.2] at this; cases this
theorem below_new {g h : Heap} {L p : Addr} {news : List (Addr × Obj)} (N : News g L h news) (hp : h.objs.size ≤ p) : ∀ q ∈ news, q.1 < p := fun q hq => Nat.lt_of_lt_of_le (Heap.lt_size (N q hq).1) hp

theorem nat_ {g h : Heap} {L a : Addr} {o : Obj} {news : List (Addr × Obj)} (N : News g L h news) (hm : (a, o) ∈ news) : NewAt g L h a o := N _ hm
theorem NewAt.cons {g h : Heap} {L a : Addr} {o : Obj} {r : List (Addr × Obj)} (x : NewAt g L h a o) (N : News g L h r) : News g L h ((a, o) :: r) := fun p hp => by
  rcases List.mem_cons.mp hp with rfl | hp
  · exact x
  · exact N p hp
theorem fin_keep {w mean mg mb} {h₀ h : Heap} {L : Addr} {m} {ps30 ps37 : Array Value} (G : Good w mean mg mb h₀) (F : Fr (ghost h₀) L h m) (S : TS h₀ ps30 ps37 []) (n30 : NewAt (ghost h₀) L h 30 (tabObj ps30)) (n37 : NewAt (ghost h₀) L h 37 (tabObj ps37)) : Ext h₀ h ∧ Good w mean mg mb h :=
  TL.good (own := []) G F (n30.cons (n37.cons News.nil)) ⟨ps30, ps37, [], rfl, S⟩
theorem fin_full30 {w mean mg mb} {h₀ h : Heap} {L : Addr} {m} {ps37 : Array Value} {c : Addr} (G : Good w mean mg mb h₀) (F : Fr (ghost h₀) L h m) (S : TS h₀ (entry 32 4 c) ps37 []) (n30 : NewAt (ghost h₀) L h 30 (tabObj (entry 32 4 c))) (n37 : NewAt (ghost h₀) L h 37 (tabObj ps37)) : Ext h₀ h ∧ Good w mean mg mb h ∧ Hit h 30 32 4 q30 := by
  obtain ⟨a, b⟩ := fin_keep G F S n30 n37
  refine ⟨a, b, ?_⟩
  rcases b.t30 with e | e
  · exact absurd (Option.some.inj (n30.1.symm.trans e)) entry_ne
  · exact e
theorem fin_full37 {w mean mg mb} {h₀ h : Heap} {L : Addr} {m} {ps30 : Array Value} {c : Addr} (G : Good w mean mg mb h₀) (F : Fr (ghost h₀) L h m) (S : TS h₀ ps30 (entry 47 4 c) []) (n30 : NewAt (ghost h₀) L h 30 (tabObj ps30)) (n37 : NewAt (ghost h₀) L h 37 (tabObj (entry 47 4 c))) : Ext h₀ h ∧ Good w mean mg mb h ∧ Hit h 37 47 4 q37 := by
  obtain ⟨a, b⟩ := fin_keep G F S n30 n37
  refine ⟨a, b, ?_⟩
  rcases b.t37 with e | e
  · exact absurd (Option.some.inj (n37.1.symm.trans e)) entry_ne
  · exact e
theorem fin_miss30 {w mean mg mb} {h₀ h : Heap} {L : Addr} {m} {ps37 : Array Value} {c : Addr} {oc : Obj} {vs : Array Value} {t : Tok} (G : Good w mean mg mb h₀) (F : Fr (ghost h₀) L h m) (S : TS h₀ #[] ps37 [])
    (nc : NewAt (ghost h₀) L h c oc) (hd : oc.data = .fields vs) (hv : vs[1]? = some (.str q30 t)) (n30 : NewAt (ghost h₀) L h 30 (tabObj (entry 32 4 c))) (n37 : NewAt (ghost h₀) L h 37 (tabObj ps37)) : Ext h₀ h ∧ Good w mean mg mb h ∧ Hit h 30 32 4 q30 := by
  have S' : TS h₀ (entry 32 4 c) ps37 [(c, oc)] := ⟨.inr ⟨c, rfl, .inr ⟨oc, .head _, vs, t, hd, hv⟩⟩, S.t37.imp id fun ⟨a, e, x⟩ => ⟨a, e, x.imp id fun ⟨_, hm, _⟩ => nomatch hm⟩,
    fun o e n => absurd (S.k30 o e n) n, S.k37, fun p hp => by rw [List.mem_singleton.mp hp]; exact ⟨_, vs, t, hd, hv⟩⟩
  obtain ⟨a, b⟩ := TL.good (own := []) G F (n30.cons (n37.cons (nc.cons News.nil))) ⟨_, ps37, _, rfl, S'⟩
  refine ⟨a, b, ?_⟩
  rcases b.t30 with e | e
  · exact absurd (Option.some.inj (n30.1.symm.trans e)) entry_ne
  · exact e
theorem fin_miss37 {w mean mg mb} {h₀ h : Heap} {L : Addr} {m} {ps30 : Array Value} {c : Addr} {oc : Obj} {vs : Array Value} {t : Tok} (G : Good w mean mg mb h₀) (F : Fr (ghost h₀) L h m) (S : TS h₀ ps30 #[] [])
    (nc : NewAt (ghost h₀) L h c oc) (hd : oc.data = .fields vs) (hv : vs[1]? = some (.str q37 t)) (n30 : NewAt (ghost h₀) L h 30 (tabObj ps30)) (n37 : NewAt (ghost h₀) L h 37 (tabObj (entry 47 4 c))) : Ext h₀ h ∧ Good w mean mg mb h ∧ Hit h 37 47 4 q37 := by
  have S' : TS h₀ ps30 (entry 47 4 c) [(c, oc)] := ⟨S.t30.imp id fun ⟨a, e, x⟩ => ⟨a, e, x.imp id fun ⟨_, hm, _⟩ => nomatch hm⟩, .inr ⟨c, rfl, .inr ⟨oc, .head _, vs, t, hd, hv⟩⟩,
    S.k30, fun o e n => absurd (S.k37 o e n) n, fun p hp => by rw [List.mem_singleton.mp hp]; exact ⟨_, vs, t, hd, hv⟩⟩
  obtain ⟨a, b⟩ := TL.good (own := []) G F (n30.cons (n37.cons (nc.cons News.nil))) ⟨ps30, _, _, rfl, S'⟩
  refine ⟨a, b, ?_⟩
  rcases b.t37 with e | e
  · exact absurd (Option.some.inj (n37.1.symm.trans e)) entry_ne
  · exact e

/-- an object that is neither a table nor a code -/
def Off (o : Obj) : Prop := (∀ ps, o ≠ tabObj ps) ∧ ∀ q, ¬ IsCodeObj o q
theorem Off.of_data {o : Obj} (h : ∀ vs, o.data ≠ .fields vs) : Off o := ⟨fun ps e => h ps (by rw [e]), fun _ ⟨vs, _, e, _⟩ => h vs e⟩
theorem Off.seq {o : Obj} {xs : Array Value} {n : Nat} (h : o.data = .seq xs n) : Off o := .of_data fun vs e => by rw [h] at e; cases e
theorem Off.func {o : Obj} {fd : FuncData} (h : o.data = .func fd) : Off o := .of_data fun vs e => by rw [h] at e; cases e
theorem Off.cell {o : Obj} {v : Option Value} (h : o.data = .cell v) : Off o := .of_data fun vs e => by rw [h] at e; cases e
theorem Off.fields {o : Obj} {vs : Array Value} (hc : o.cls ≠ .none) (h : o.data = .fields vs) (hn : ∀ q t, vs[1]? ≠ some (.str q t)) : Off o :=
  ⟨fun ps e => hc (by rw [e]), fun q ⟨vs', t, e, e2⟩ => by rw [h] at e; cases e; exact hn q t e2⟩

theorem Off.rev {l : Addr} {i : Int} : Off (revObj l i) := .fields (by intro h; cases h) rfl (by intro q t h; simp [rawInt] at h)

/-- what the ledger's tail holds lies apart from an object that is no record -/
theorem TL.ne {h₀ h g : Heap} {L d : Addr} {o : Obj} {news tl : List (Addr × Obj)} (N : News g L h news) (S : TL h₀ tl) (ht : ∀ p ∈ tl, p ∈ news) (hm : (d, o) ∈ news) (hd : Off o) : ∀ p ∈ tl, p.1 ≠ d := fun p hp q => by
  have e1 := (N p (ht p hp)).1
  rw [q, (N _ hm).1] at e1
  have e2 := Option.some.inj e1
  obtain ⟨ps30, ps37, codes, rfl, S⟩ := S
  rcases List.mem_cons.mp hp with rfl | hp
  · exact hd.1 _ e2
  · rcases List.mem_cons.mp hp with rfl | hp
    · exact hd.1 _ e2
    · obtain ⟨q, c⟩ := S.cd p hp
      exact hd.2 q (by rw [show o = p.2 from e2]; exact c)

theorem offI_of_ne {I : Addr} {it : Obj} : ∀ {l : List (Addr × Obj)}, (∀ p ∈ l, p.1 ≠ I) → OffI I it l
  | [], _ => trivial
  | _ :: _, h => ⟨.inl (h _ (.head _)), offI_of_ne fun p hp => h p (.tail _ hp)⟩
theorem TL.offI {h₀ h g : Heap} {L I : Addr} {it : Obj} {news tl : List (Addr × Obj)} (N : News g L h news) (S : TL h₀ tl) (ht : ∀ p ∈ tl, p ∈ news) (hm : (I, it) ∈ news) (hd : Off it) : OffI I it tl := offI_of_ne (TL.ne N S ht hm hd)

/-- a ledger less one object -/
inductive Rem (x : Addr × Obj) : List (Addr × Obj) → List (Addr × Obj) → Prop
  | here {r : List (Addr × Obj)} : Rem x (x :: r) r
  | there {y : Addr × Obj} {r r' : List (Addr × Obj)} : Rem x r r' → Rem x (y :: r) (y :: r')
theorem Rem.mem {x : Addr × Obj} : ∀ {all r : List (Addr × Obj)}, Rem x all r → x ∈ all ∧ ∀ p ∈ r, p ∈ all
  | _, _, .here => ⟨.head _, fun _ h => .tail _ h⟩
  | _, _, .there c => ⟨.tail _ c.mem.1, fun p hp => by
    rcases List.mem_cons.mp hp with rfl | hp
    · exact .head _
    · exact .tail _ (c.mem.2 p hp)⟩
theorem unr_end {h₀ : Heap} {L I : Addr} {it : Obj} {rest : (Str → Option Value) → List (Addr × Obj) → Prop} {s₁ : Shared} {h' : Heap} {tk : Nat} {m' : Str → Option Value} {all news' : List (Addr × Obj)} (F : Fr h₀ L h' m') (N : News h₀ L h' all)
    (R : Rem (I, it) all news') (off : OffI I it news') (r : rest m' news') : UnrEnd h₀ L s₁ I it rest { s₁ with heap := h', toks := tk } :=
  UnrEnd.intro F N news' (fun p hp => by
    rcases List.mem_cons.mp hp with rfl | hp
    · exact R.mem.1
    · exact R.mem.2 p hp) (fun p hp e => by
    rcases off.at p hp with h | h
    · exact h e
    · have h1 := (N _ (R.mem.2 p hp)).1
      have h2 := (N _ R.mem.1).1
      rw [e] at h1
      exact h (congrArg Obj.cls (Option.some.inj (h1.symm.trans h2)))) r

/-- the ground behind a frame and its ledger -/
theorem ground2 {h₀ h : Heap} {L : Addr} {m : Str → Option Value} {news : List (Addr × Obj)} {R : Result → Shared → Prop} (F : Fr h₀ L h m) (N : News h₀ L h news) :
    Fr h₀ L (hideAll h (news.map (·.1))) m ∧ h₀.StaysIn (hideAll h (news.map (·.1))) ∧
      ∀ v s', LeaveK h₀ L m (hideAll h (news.map (·.1))) R v s' → R (.ok (.ret v)) s' := by
  have nm : ∀ b o, h₀.get? b = some o → b ∉ news.map (·.1) := fun b o e q => by
    obtain ⟨p, hp, rfl⟩ := List.mem_map.mp q
    rw [(N p hp).2.2] at e; cases e
  have st : h₀.StaysIn (hideAll h (news.map (·.1))) := fun b o e => hideAll_get _ (F.keep b o e) (nm b o e)
  obtain ⟨oL, es, ep, hL, hLd, hLk, hLf⟩ := F.ns
  have nL : L ∉ news.map (·.1) := fun q => by
    obtain ⟨p, hp, e⟩ := List.mem_map.mp q
    exact (N p hp).2.1 e
  have hLg := hideAll_get (news.map (·.1)) hL nL
  refine ⟨⟨⟨oL, es, ep, hLg, hLd, hLk, hLf⟩, st, F.above⟩, st, fun v s' hl => ?_⟩
  obtain ⟨L', m', news', F', N', k⟩ := hl
  refine k ⟨⟨oL, es, ep, F'.keep L oL hLg, hLd, hLk, hLf⟩, fun b o e => F'.keep b o (st b o e), F.above⟩ fun p hp => ⟨(N' p hp).1, fun q => ?_, ?_⟩
  · have := (N' p hp).2.2; rw [q, hLg] at this; cases this
  · cases q : h₀.get? p.1 with
    | none => rfl
    | some o => have := (N' p hp).2.2; rw [st _ _ q] at this; cases this

/-- a def of the frame's own (made in it) is entered: the ledger goes along -/
theorem enterN {w : World} {mean mg mb} {A : Around} {s : Shared} {h₀ : Heap} {L : Addr} {m : Str → Option Value} {news : List (Addr × Obj)} {R : Result → Shared → Prop} {name qual : Str} {params : Arguments} {body : List Stmt} {scope : Scope} {cl : List (Str × Addr)} {doc pm ctv : Value} {c' : Addr} {f : Addr} {args : Args} {binds : List (Str × Value)}
    (F : Fr h₀ L s.heap m) (G : Gnd w mean mg mb h₀) (N : News h₀ L s.heap news)
    (ho : (f, fnMade name qual params body scope cl doc pm c' ctv) ∈ news) (hcd : s.heap.CodeRec (.ref c') qual) (hroom : A.depth < recursionLimit)
    (hbind : BindsTo s (fnX name qual params body scope cl .none .none doc pm none (.ref c') ctv) args binds) (hloc : ∀ y ∈ binds, scope.names.lookup y.1 = some .local)
    (h : ∀ g L' h₁, Gnd w mean mg mb g → Fr h₀ L g m → Fr g L' h₁ (fun y => binds.reverse.lookup y) → News g L' h₁ news → (∀ p ∈ news, p.1 < L') →
      wpAny (model PR w) (A.deeper (envX qual scope L' f (.ref c') cl)) (execs body (envX qual scope L' f (.ref c') cl))
        (fun fl s' => LeaveK h₀ L m g R (match fl with | .ret v => v | _ => .none) s')
        (fun e s' => wpAny (model PR w) (A.deeper (envX qual scope L' f (.ref c') cl)) (leaving (envX qual scope L' f (.ref c') cl) e) (fun _ s'' => R (.error e) s'') (fun e' s'' => R (.error e') s'') s')
        { s with heap := h₁, toks := s.toks + binds.length })
    (hco : scope.isCoroutine = false) (hgen : scope.isGenerator = false) (hk : scope.kind = .function)
    (hcell : ∀ x ∈ scope.names, x.2 ≠ .cell) : codeAny (model PR w) A (.call (.ref f) args) R s := by
  obtain ⟨FG, st, lv⟩ := ground2 (R := R) F N
  refine codeAny_call_def (fd := fnX name qual params body scope cl .none .none doc pm none (.ref c') ctv) (body := body) (binds := binds) hroom (N _ ho).1 rfl (G.T.nolimit.keeps F.keep) hcd rfl hbind hcell hloc (fun h₁ hns hk₁ => ?_) hco hgen hk
  exact wpAny_mono (h _ s.heap.objs.size h₁ (G.keeps st) FG ⟨hns, fun b o e => hk₁ b o (of_hideAll _ e), Nat.le_of_eq (hideAll_size _ _)⟩
    (fun p hp => ⟨hk₁ _ _ (N p hp).1, Nat.ne_of_lt (Heap.lt_size (N p hp).1), hideAll_none _ (List.mem_map_of_mem hp)⟩) (fun p hp => Heap.lt_size (N p hp).1)) (fun fl s' hl => lv _ _ hl) fun _ _ y => y

/-- a goal that the walk shall not touch -/
def Locked (P : Prop) : Prop := P
theorem Locked.out {P : Prop} (h : Locked P) : P := h
theorem Locked.mk {P : Prop} (h : P) : Locked P := h
/-- where a call stands: nothing in flight, room left -/
abbrev At (dp un : Nat) (fr : Option (List Env)) (gd : Option (List Code)) : Around := { handled := none, depth := dp, frames := fr, guards := gd, units := un }

/-- the def at f is entered: the ground is all that stands but the two tables -/
theorem enter {w : World} {mean mg mb} {A : Around} {s : Shared} {R : Result → Shared → Prop} {name qual : Str} {params : Arguments} {body : List Stmt} {scope : Scope} {dV kV doc pm cdv ct oc : Value} {an od : Option Addr} {osl : Array (Option Value)} {f : Addr} {args : Args} {binds : List (Str × Value)}
    (G : Good w mean mg mb s.heap) (hroom : A.depth < recursionLimit)
    (ho : (hd.heap_39 w.params).lookup f = some ⟨oc, od, .func (fnOf name qual params body scope dV kV doc pm an cdv ct), osl⟩) (hcd : codeIn (hd.heap_39 w.params) cdv qual = true)
    (hbind : BindsTo s (fnOf name qual params body scope dV kV doc pm an cdv ct) args binds) (hloc : ∀ y ∈ binds, scope.names.lookup y.1 = some .local)
    (h : ∀ L h₁ ps30 ps37, L = s.heap.objs.size → 37 < L → TS s.heap ps30 ps37 [] →
      Fr (ghost s.heap) L h₁ (fun y => binds.reverse.lookup y) → News (ghost s.heap) L h₁ (tls ps30 ps37 []) →
      wpAny (model PR w) (A.deeper (envOf qual scope L f cdv)) (execs body (envOf qual scope L f cdv))
        (fun fl s' => R (.ok (.ret (match fl with | .ret v => v | _ => .none))) s')
        (fun e s' => wpAny (model PR w) (A.deeper (envOf qual scope L f cdv)) (leaving (envOf qual scope L f cdv) e) (fun _ s'' => R (.error e) s'') (fun e' s'' => R (.error e') s'') s')
        { s with heap := h₁, toks := s.toks + binds.length })
    (hco : scope.isCoroutine = false) (hgen : scope.isGenerator = false) (hk : scope.kind = .function)
    (hcell : ∀ x ∈ scope.names, x.2 ≠ .cell) : codeAny (model PR w) A (.call (.ref f) args) R s := by
  have k : ∀ b o, (ghost s.heap).get? b = some o → s.heap.get? b = some o := fun b o e => of_ghost e
  obtain ⟨ps30, ps37, e30, e37, S⟩ := TL.start G
  refine codeAny_call_def (fd := fnOf name qual params body scope dV kV doc pm an cdv ct) (body := body) (binds := binds) hroom (k _ _ (G.g.X _ _ ho)) rfl (G.g.T.nolimit.keeps k) (codeRec_of (G.g.X.keeps k) hcd) rfl hbind hcell hloc (fun h₁ hns hk₁ => ?_) hco hgen hk
  refine h _ h₁ ps30 ps37 rfl (Heap.lt_size e37) S ⟨hns, fun b o e => hk₁ b o (k b o e), Nat.le_of_eq (hideAll_size _ _)⟩ fun p hp => ?_
  rcases List.mem_cons.mp hp with rfl | hp
  · exact ⟨hk₁ _ _ e30, Nat.ne_of_lt (Heap.lt_size e30), ghost_30⟩
  · rcases List.mem_cons.mp hp with rfl | hp
    · exact ⟨hk₁ _ _ e37, Nat.ne_of_lt (Heap.lt_size e37), ghost_37⟩
    · cases hp

theorem enterC {w : World} {mean mg mb} {A : Around} {s : Shared} {R : Result → Shared → Prop} {name qual : Str} {params : Arguments} {body : List Stmt} {scope : Scope} {dV kV doc pm cdv ct oc : Value} {an od : Option Addr} {osl : Array (Option Value)} {f : Addr} {args : Args} {binds : List (Str × Value)}
    (G : Good w mean mg mb s.heap) (hroom : A.depth < recursionLimit)
    (ho : (hd.heap_39 w.params).lookup f = some ⟨oc, od, .func (fnOf name qual params body scope dV kV doc pm an cdv ct), osl⟩) (hcd : codeIn (hd.heap_39 w.params) cdv qual = true)
    (hbind : BindsTo s (fnOf name qual params body scope dV kV doc pm an cdv ct) args binds) (hkind : (binds.all fun y => scope.names.lookup y.1 == some .local || scope.names.lookup y.1 == some .cell) = true)
    (hnd : ((cellsFrom 0 scope.names []).map (·.1)).Nodup)
    (h : ∀ L h₁ tk cells ps30 ps37, L = s.heap.objs.size → 37 < L → TS s.heap ps30 ps37 [] →
      Fr (ghost s.heap) L h₁ (bindL (envOfC qual scope L f cdv).kindOf binds fun _ => none) → News (ghost s.heap) L h₁ (cells ++ tls ps30 ps37 []) →
      CellsAre (bindC (envOfC qual scope L f cdv).kindOf binds fun _ => none) (cellsFrom (L + 1) scope.names []) cells →
      wpAny (model PR w) (A.deeper (envOfC qual scope L f cdv)) (execs body (envOfC qual scope L f cdv))
        (fun fl s' => R (.ok (.ret (match fl with | .ret v => v | _ => .none))) s')
        (fun e s' => wpAny (model PR w) (A.deeper (envOfC qual scope L f cdv)) (leaving (envOfC qual scope L f cdv) e) (fun _ s'' => R (.error e) s'') (fun e' s'' => R (.error e') s'') s')
        { s with heap := h₁, toks := tk })
    (hco : scope.isCoroutine = false) (hgen : scope.isGenerator = false) (hk : scope.kind = .function) : codeAny (model PR w) A (.call (.ref f) args) R s := by
  have k : ∀ b o, (ghost s.heap).get? b = some o → s.heap.get? b = some o := fun b o e => of_ghost e
  obtain ⟨ps30, ps37, e30, e37, S⟩ := TL.start G
  refine codeAny_call_function hroom (k _ _ (G.g.X _ _ ho)) rfl hco hgen rfl (codeRec_of (G.g.X.keeps k) hcd) (hbind _ _ _ _ ?_)
  refine wpAny_newFunctionEnv_cells hk (kindsX hkind _) fun env' he s' x => ?_
  subst he
  refine ⟨(G.g.T.nolimit.keeps k).keeps x.toInCall.keep, codeAny_func ?_⟩
  obtain ⟨h₁, tk, rfl, _⟩ := x.done
  have hk₁ := x.toInCall.keep
  obtain ⟨cells, NC, Y⟩ := Cl.news (h₀ := s.heap) (Nat.le_refl _) fun n c hm => ⟨x.cell n c (lookup_of_mem_nodup (cellsFrom_names scope.names 0 (s.heap.objs.size + 1) [] [] rfl ▸ hnd) hm), x.above n c hm⟩
  refine h _ h₁ tk cells ps30 ps37 rfl (Heap.lt_size e37) S ⟨x.toInCall.ns, fun b o e => hk₁ b o (k b o e), Nat.le_of_eq (hideAll_size _ _)⟩ (fun p hp => ?_) Y
  rcases List.mem_append.mp hp with hp | hp
  · refine ⟨(NC p hp).1, (NC p hp).2.1, ?_⟩
    cases q : (ghost s.heap).get? p.1 with
    | none => rfl
    | some o => have := of_ghost q; rw [(NC p hp).2.2] at this; cases this
  · rcases List.mem_cons.mp hp with rfl | hp
    · exact ⟨hk₁ _ _ e30, Nat.ne_of_lt (Heap.lt_size e30), ghost_30⟩
    · rcases List.mem_cons.mp hp with rfl | hp
      · exact ⟨hk₁ _ _ e37, Nat.ne_of_lt (Heap.lt_size e37), ghost_37⟩
      · cases hp
end
section
section
variable {w : World} {A : Around} {s : Shared} {Q E : Value → Shared → Prop} {a b k : Int} {t u : Tok}
theorem floordiv_to (hk : a.fdiv b = k) (hb : b ≠ 0) (hb1 : b.natAbs < 1073741824) (h : Q (.int k s.toks) { s with toks := s.toks + 1 }) : wpAny (model PR w) A (binaryOp .FloorDiv (.int a t) (.int b u)) Q E s := by
  subst hk; exact floordiv_int hb h (Or.inl (PyProof.noPylong_small hb1))
theorem add_to (hk : a + b = k) (h : Q (.int k s.toks) { s with toks := s.toks + 1 }) : wpAny (model PR w) A (binaryOp .Add (.int a t) (.int b u)) Q E s := by
  subst hk; exact add_int h
theorem sub_to (hk : a - b = k) (h : Q (.int k s.toks) { s with toks := s.toks + 1 }) : wpAny (model PR w) A (binaryOp .Sub (.int a t) (.int b u)) Q E s := by
  subst hk; exact sub_int h
theorem mul_to (hk : a * b = k) (hm : IntMulOk a b) (h : Q (.int k s.toks) { s with toks := s.toks + 1 }) : wpAny (model PR w) A (binaryOp .Mult (.int a t) (.int b u)) Q E s := by
  subst hk; exact mul_int h hm
theorem mod_to (hk : a.fmod b = k) (hb : b ≠ 0) (h : Q (.int k s.toks) { s with toks := s.toks + 1 }) : wpAny (model PR w) A (binaryOp .Mod (.int a t) (.int b u)) Q E s := by
  subst hk; exact mod_int' hb h
theorem rshift_to (hk : a.fdiv (2 ^ b.toNat) = k) (hb : 0 ≤ b) (h : Q (.int k s.toks) { s with toks := s.toks + 1 }) : wpAny (model PR w) A (binaryOp .RShift (.int a t) (.int b u)) Q E s := by
  subst hk; exact rshift_int hb h
theorem lshift_to (hk : a * 2 ^ b.toNat = k) (hb : 0 ≤ b) (hb2 : b ≤ 1000000) (ha : a.natAbs < 2 ^ 64) (h : Q (.int k s.toks) { s with toks := s.toks + 1 }) : wpAny (model PR w) A (binaryOp .LShift (.int a t) (.int b u)) Q E s := by
  subst hk; exact lshift_int_small hb hb2 ha h
theorem pow_to (hk : a ^ b.toNat = k) (hb : 0 ≤ b) (hb2 : b ≤ 1000000) (ha : a.natAbs < 2 ^ 64) (h : Q (.int k s.toks) { s with toks := s.toks + 1 }) : wpAny (model PR w) A (binaryOp .Pow (.int a t) (.int b u)) Q E s := by
  subst hk; exact pow_int_small hb hb2 ha h
theorem xor_to (hk : Builtin.bitXor a b = k) (h : Q (.int k s.toks) { s with toks := s.toks + 1 }) : wpAny (model PR w) A (binaryOp .BitXor (.int a t) (.int b u)) Q E s := by
  subst hk; exact xor_int h
theorem invert_to (hk : Builtin.bitNot a = k) (h : Q (.int k s.toks) { s with toks := s.toks + 1 }) : wpAny (model PR w) A (unaryOp .Invert (.int a t)) Q E s := by
  subst hk; exact invert_int h
theorem bits_to (hk : ((Builtin.Int.intBits a : Nat) : Int) = k) (h : Q (.int k s.toks) { s with toks := s.toks + 1 }) : wpAny (model PR w) A (call (.builtin "int.bit_length") [.int a t]) Q E s := by
  subst hk; exact call_int_bit_length h
end
section
variable {w : World} {A : Around} {s : Shared} {Q E : Value → Shared → Prop} {h₀ : Heap} {L : Addr} {m : Str → Option Value} {news : List (Addr × Obj)} {l : Addr} {u : Tok} {v : Value}
abbrev lstO (vs : List Value) : Obj := { cls := .type "list", data := .seq vs.toArray }
abbrev tupO (vs : List Value) : Obj := { cls := .type "tuple", data := .seq vs.toArray }
theorem mul0_list (Fm : Fr h₀ L s.heap m) (N : News h₀ L s.heap news) (hm : (l, lstO [v]) ∈ news)
    (h : ∀ D h', Fr h₀ L h' m → News h₀ L h' ((D, lstO []) :: news) → (∀ p ∈ news, p.1 < D) → Q (.ref D) { s with heap := h' }) : wpAny (model PR w) A (binaryOp .Mult (.ref l) (.int 0 u)) Q E s :=
  mul_list Fm N (N _ hm).1 (by decide) (by decide) (by simp) fun h' F' N' => h _ h' F' N' fun p hp => Heap.lt_size (N p hp).1
theorem mul1_list (Fm : Fr h₀ L s.heap m) (N : News h₀ L s.heap news) (hm : (l, lstO [v]) ∈ news)
    (h : ∀ D h', Fr h₀ L h' m → News h₀ L h' ((D, lstO [v]) :: news) → (∀ p ∈ news, p.1 < D) → Q (.ref D) { s with heap := h' }) : wpAny (model PR w) A (binaryOp .Mult (.ref l) (.int 1 u)) Q E s :=
  mul_list Fm N (N _ hm).1 (by decide) (by decide) (by simp) fun h' F' N' => h _ h' F' N' fun p hp => Heap.lt_size (N p hp).1
theorem mul2_list (Fm : Fr h₀ L s.heap m) (N : News h₀ L s.heap news) (hm : (l, lstO [v]) ∈ news)
    (h : ∀ D h', Fr h₀ L h' m → News h₀ L h' ((D, lstO [v, v]) :: news) → (∀ p ∈ news, p.1 < D) → Q (.ref D) { s with heap := h' }) : wpAny (model PR w) A (binaryOp .Mult (.ref l) (.int 2 u)) Q E s :=
  mul_list Fm N (N _ hm).1 (by decide) (by decide) (by simp) fun h' F' N' => h _ h' F' N' fun p hp => Heap.lt_size (N p hp).1
end
section
variable {w : World} {A : Around} {s : Shared} {Q E : Value → Shared → Prop} {h₀ : Heap} {L : Addr} {m : Str → Option Value} {l : Addr} {u : Tok} {v : Value} {vs : List Value} {k : Int}
theorem item_at {value slice : PySem.Expr} (F : Fr h₀ L s.heap m) (hl : h₀.IsList l vs.toArray) (h0 : 0 ≤ k) (hhi : k < 2 ^ 63) (hx : vs[k.toNat]? = some v) (h : Q v s)
    (hs : subscripted slice false (.ref l) (.int k u) = operate [.ref l, .int k u] (getItem (.ref l) (.int k u)) := by with_unfolding_all rfl) :
    wpAny (model PR w) A (subscriptTail value slice (.ref l) (.int k u)) Q E s :=
  let hl' : s.heap.IsList l vs.toArray := hl.at fun o e => F.keep _ o e
  tail_any hl'.typeIs slot_list_getitem.lookup (wpAny_getItem_list hl' h0 hhi (by simpa using hx) h) hs
theorem len_at (F : Fr h₀ L s.heap m) (hl : h₀.IsList l vs.toArray) (hk : (vs.length : Int) = k) (hfit : (vs.length : Int) < 2 ^ 63) (h : Q (.int k (s.toks + 1)) { s with toks := s.toks + 1 + 1 }) : wpAny (model PR w) A (call (.builtin "len") [.ref l]) Q E s := by
  have hl' : s.heap.IsList l vs.toArray := hl.at fun o e => F.keep _ o e
  subst hk
  exact call_len_list hl' (by simpa using hfit) (by simpa using h)
theorem item_own {news : List (Addr × Obj)} {arr : Array Value} {n : Nat} {value slice : PySem.Expr} (N : News h₀ L s.heap news) (hm : (l, W.listOf arr n) ∈ news) (h0 : 0 ≤ k) (hhi : k < 2 ^ 63) (hx : arr[k.toNat]? = some v) (h : Q v s)
    (hs : subscripted slice false (.ref l) (.int k u) = operate [.ref l, .int k u] (getItem (.ref l) (.int k u)) := by with_unfolding_all rfl) :
    wpAny (model PR w) A (subscriptTail value slice (.ref l) (.int k u)) Q E s :=
  let hl' : s.heap.IsList l arr := ⟨_, (N _ hm).1, rfl, _, rfl⟩
  tail_any hl'.typeIs slot_list_getitem.lookup (wpAny_getItem_list hl' h0 hhi hx h) hs
theorem item_last {news : List (Addr × Obj)} {arr : Array Value} {n : Nat} {value slice : PySem.Expr} (N : News h₀ L s.heap news) (hm : (l, W.listOf arr n) ∈ news) (hx : arr[arr.size - 1]? = some v) (h : Q v s)
    (hs : subscripted slice false (.ref l) (.int (-1) u) = operate [.ref l, .int (-1) u] (getItem (.ref l) (.int (-1) u)) := by with_unfolding_all rfl) :
    wpAny (model PR w) A (subscriptTail value slice (.ref l) (.int (-1) u)) Q E s :=
  let hl' : s.heap.IsList l arr := ⟨_, (N _ hm).1, rfl, _, rfl⟩
  have hlt : arr.size - 1 < arr.size := (Array.getElem?_eq_some_iff.mp hx).1
  tail_any hl'.typeIs slot_list_getitem.lookup (wpAny_getItem_list_neg hl' (by decide) (by omega) (by decide) (by rw [show ((-1 : Int) + arr.size).toNat = arr.size - 1 by omega]; exact hx) h) hs
theorem isList_up {g : Heap} {its : Array Value} (F : Fr h₀ L g m) (hl : h₀.IsList l its) : g.IsList l its := hl.at fun o e => F.keep _ o e
theorem codeRec_up {g : Heap} {cd : Value} {q : Str} (F : Fr h₀ L g m) (hl : h₀.CodeRec cd q) : g.CodeRec cd q := hl.keeps F.keep
end
end
section
theorem updF_app {d : Addr} {o : Obj} : ∀ {pre post : List (Addr × Obj)}, (∀ p ∈ pre, p.1 ≠ d) → (∀ p ∈ post, p.1 ≠ d) → UpdF d o (pre ++ (d, o) :: post) (fun o' => pre ++ (d, o') :: post)
  | [], _, _, h => .head h
  | p :: r, post, h, h' => .tail (h p (.head _)) (updF_app (fun q hq => h q (.tail _ hq)) h')
/-- the code that a full table names, whatever the heap -/
def CodeT (g : Heap) (tl : List (Addr × Obj)) (c : Addr) (q : Str) : Prop := ∃ ps30 ps37 codes, tl = tls ps30 ps37 codes ∧ CodeIn g codes c q
theorem CodeT.up {h₀ g : Heap} {L : Addr} {m : Str → Option Value} {tl : List (Addr × Obj)} {c : Addr} {q : Str} (F : Fr h₀ L g m) (x : CodeT h₀ tl c q) : CodeT g tl c q := by
  obtain ⟨a, b, codes, e, x⟩ := x
  exact ⟨a, b, codes, e, x.imp (fun y => y.keeps F.keep) id⟩
theorem CodeT.get {g h : Heap} {L : Addr} {m : Str → Option Value} {news tl : List (Addr × Obj)} {c : Addr} {q : Str} (F : Fr g L h m) (N : News g L h news) (x : CodeT g tl c q) (ht : ∀ p ∈ tl, p ∈ news) : h.CodeRec (.ref c) q := by
  obtain ⟨a, b, codes, rfl, x⟩ := x
  exact CodeIn.get (own := []) F (fun p hp => N p (ht p hp)) x
theorem code_ne {g h : Heap} {L P : Addr} {ps : Array Value} {news codes : List (Addr × Obj)} (N : News g L h news) (hP : (P, tabObj ps) ∈ news) (hc : ∀ p ∈ codes, p ∈ news) (cd : ∀ p ∈ codes, ∃ q, IsCodeObj p.2 q) (hp : ps = #[] ∨ ∃ l c a, ps = entry l c a) : ∀ p ∈ codes, p.1 ≠ P := fun p hp' e => by
  obtain ⟨q, x⟩ := cd p hp'
  have h1 := (N p (hc p hp')).1
  have h2 := (N _ hP).1
  rw [e] at h1
  have h3 : tabObj ps = p.2 := Option.some.inj (h2.symm.trans h1)
  exact codeObj_ne_tab x hp h3.symm
theorem TL.hit37 {h₀ h : Heap} {L : Addr} {news tl : List (Addr × Obj)} {m} (F : Fr (ghost h₀) L h m) (N : News (ghost h₀) L h news) (ht : ∀ p ∈ tl, p ∈ news) (S : TL h₀ tl) (f : Full37 tl) : Hit h 37 47 4 q37 := by
  obtain ⟨ps30, ps37, codes, rfl, S⟩ := S
  have e37 : h.get? 37 = some (tabObj ps37) := (N _ (ht _ (.tail _ (.head _)))).1
  obtain ⟨a', b', c', e'⟩ := f
  simp only [tls, List.cons.injEq, Prod.mk.injEq, true_and] at e'
  rcases S.t37 with q | ⟨a₁, q, x⟩
  · rw [q] at e'; exact absurd e'.2.1.symm entry_ne
  · exact ⟨a₁, q ▸ e37, x.get (own := []) F fun p hp => N p (ht p hp)⟩
theorem TL.hit30 {h₀ h : Heap} {L : Addr} {news tl : List (Addr × Obj)} {m} (F : Fr (ghost h₀) L h m) (N : News (ghost h₀) L h news) (ht : ∀ p ∈ tl, p ∈ news) (S : TL h₀ tl) (f : Full30 tl) : Hit h 30 32 4 q30 := by
  obtain ⟨ps30, ps37, codes, rfl, S⟩ := S
  have e30 : h.get? 30 = some (tabObj ps30) := (N _ (ht _ (.head _))).1
  obtain ⟨a', b', c', e'⟩ := f
  simp only [tls, List.cons.injEq, Prod.mk.injEq, true_and] at e'
  rcases S.t30 with q | ⟨a₁, q, x⟩
  · rw [q] at e'; exact absurd e'.1.symm entry_ne
  · exact ⟨a₁, q ▸ e30, x.get (own := []) F fun p hp => N p (ht p hp)⟩
section
variable {w : World} {A : Around} {E : Value → Shared → Prop} {s : Shared} {h₀ : Heap} {L a c : Addr} {m : Str → Option Value} {news own tl : List (Addr × Obj)} {p : Program} {loose : List Str} {mean : ExcName → Option Value} {mg mb : Str → Option Value}
  {name qual cn : Str} {params : Arguments} {body : List Stmt} {scope cs : Scope} {ccd : Value} {cl clos : List (Str × Addr)} {pos : Pos} {firstLine : Nat} {Q : Value → Shared → Prop}
/-- a def of the frame's own is made: its code is in the table behind it, be it new or not -/
theorem nest37 (F : Fr (ghost h₀) L s.heap m) (N : News (ghost h₀) L s.heap news) (S : TL h₀ tl) (C : Cut tl news own) (T : Top p loose mean mg mb (ghost h₀)) (K : CodeHd (ghost h₀) c 37) (hcd : ccd = .ref c) (hpl : pos.line = 47) (hpc : pos.col = 4) (hq : qual = q37)
    (hcl : closureFor scope (envX cn cs L a ccd cl) = pure clos) (hoff : ∀ p ∈ own, p.1 ≠ 37)
    (h : ∀ f c' ctv doc h' tk tl', Fr (ghost h₀) L h' m → News (ghost h₀) L h' ((f, fnMade name qual params body scope clos doc ((mg "__name__").getD .none) c' ctv) :: (own ++ tl')) → TL h₀ tl' → Full37 tl' → CodeT (ghost h₀) tl' c' q37 → (∀ q ∈ own, q.1 < f) → (∀ q ∈ tl', q.1 < f) → Q (.ref f) { s with heap := h', toks := tk }) :
    wpAny (model PR w) A (makeFunction name qual params (.stmts body) scope (envX cn cs L a ccd cl) [] [] [] pos firstLine) Q E s := by
  obtain ⟨rfl, _⟩ := C.eq
  obtain ⟨ps30, ps37, codes, rfl, S⟩ := S
  have h37 : (37, tabObj ps37) ∈ own ++ tls ps30 ps37 codes := List.mem_append_right _ (.tail _ (.head _))
  have hcs : ∀ p ∈ codes, p ∈ own ++ tls ps30 ps37 codes := fun p hp => List.mem_append_right _ (.tail _ (.tail _ hp))
  rcases S.t37 with rfl | ⟨c', rfl, x⟩
  · have ne := code_ne N h37 hcs S.cd (.inl rfl)
    have U := updF_app (d := 37) (o := tabObj #[]) (pre := own ++ [(30, tabObj ps30)]) (post := codes) (fun p hp => by
      rcases List.mem_append.mp hp with hp | hp
      · exact hoff p hp
      · rw [List.mem_singleton.mp hp]; exact (by decide : (30 : Nat) ≠ 37)) ne
    have N' : News (ghost h₀) L s.heap ((own ++ [(30, tabObj ps30)]) ++ (37, tabObj #[]) :: codes) := fun p hp => N p (by
      rw [List.append_assoc] at hp
      exact hp)
    refine nest_K F N' T K hcd U (by simp [TriplesOk]) (by simp [codeAmong]) hcl fun f c' oc vs t ctv doc h' tk F' N'' d1 d2 l1 l2 => ?_
    rw [hpl, hpc] at N''
    have lo : ∀ q ∈ own, q.1 < f := fun q hq => Nat.lt_trans (l1 q (List.mem_append_left _ (List.mem_append_left _ hq))) l2
    refine h f c' ctv doc h' tk (tls ps30 (entry 47 4 c') ((c', oc) :: codes)) F' (fun p hp => N'' p ?_) ⟨_, _, _, rfl, ?_⟩ ⟨_, _, _, rfl⟩ ⟨_, _, _, rfl, .inr ⟨oc, .head _, vs, t, d1, by rw [d2, hq]⟩⟩ lo (fun q hq => ?_)
    · simp only [List.mem_cons, List.mem_append, List.not_mem_nil, or_false] at hp ⊢
      rcases hp with h | h | h | h | h | h <;> simp [h]
    · refine ⟨S.t30.imp id fun ⟨a, e, x⟩ => ⟨a, e, x.imp id fun ⟨o, hm, y⟩ => ⟨o, .tail _ hm, y⟩⟩, .inr ⟨c', rfl, .inr ⟨oc, .head _, vs, t, d1, by rw [d2, hq]⟩⟩, S.k30, fun o e n => absurd (S.k37 o e n) n, fun p hp => ?_⟩
      rcases List.mem_cons.mp hp with rfl | hp
      · exact ⟨_, vs, t, d1, d2⟩
      · exact S.cd p hp
    · simp only [List.mem_cons] at hq
      rcases hq with rfl | rfl | rfl | hq
      · exact Nat.lt_trans (l1 (30, tabObj ps30) (by simp)) l2
      · exact Nat.lt_trans (l1 (37, tabObj #[]) (by simp)) l2
      · exact l2
      · exact Nat.lt_trans (l1 q (by simp [hq])) l2
  · refine nestHit_K (c' := c') F N T K hcd h37 (by simp [TriplesOk, rawInt]) (by simp [codeAmong, rawInt, hpl, hpc]) hcl fun f ctv doc h' tk F' N'' l1 => ?_
    exact h f c' ctv doc h' tk (tls ps30 (entry 47 4 c') codes) F' N'' ⟨_, _, _, rfl, S⟩ ⟨_, _, _, rfl⟩ ⟨_, _, _, rfl, x⟩ (fun q hq => l1 q (List.mem_append_left _ hq)) (fun q hq => l1 q (List.mem_append_right _ hq))
theorem nest30 (F : Fr (ghost h₀) L s.heap m) (N : News (ghost h₀) L s.heap news) (S : TL h₀ tl) (C : Cut tl news own) (T : Top p loose mean mg mb (ghost h₀)) (K : CodeHd (ghost h₀) c 30) (hcd : ccd = .ref c) (hpl : pos.line = 32) (hpc : pos.col = 4) (hq : qual = q30)
    (hcl : closureFor scope (envX cn cs L a ccd cl) = pure clos) (hoff : ∀ p ∈ own, p.1 ≠ 30)
    (h : ∀ f c' ctv doc h' tk tl', Fr (ghost h₀) L h' m → News (ghost h₀) L h' ((f, fnMade name qual params body scope clos doc ((mg "__name__").getD .none) c' ctv) :: (own ++ tl')) → TL h₀ tl' → Full30 tl' → CodeT (ghost h₀) tl' c' q30 → (∀ q ∈ own, q.1 < f) → (∀ q ∈ tl', q.1 < f) → Q (.ref f) { s with heap := h', toks := tk }) :
    wpAny (model PR w) A (makeFunction name qual params (.stmts body) scope (envX cn cs L a ccd cl) [] [] [] pos firstLine) Q E s := by
  obtain ⟨rfl, _⟩ := C.eq
  obtain ⟨ps30, ps37, codes, rfl, S⟩ := S
  have h30 : (30, tabObj ps30) ∈ own ++ tls ps30 ps37 codes := List.mem_append_right _ (.head _)
  have hcs : ∀ p ∈ codes, p ∈ own ++ tls ps30 ps37 codes := fun p hp => List.mem_append_right _ (.tail _ (.tail _ hp))
  rcases S.t30 with rfl | ⟨c', rfl, x⟩
  · have ne := code_ne N h30 hcs S.cd (.inl rfl)
    have U := updF_app (d := 30) (o := tabObj #[]) (pre := own) (post := (37, tabObj ps37) :: codes) hoff (fun p hp => by
      rcases List.mem_cons.mp hp with rfl | hp
      · exact (by decide : (37 : Nat) ≠ 30)
      · exact ne p hp)
    refine nest_K F N T K hcd U (by simp [TriplesOk]) (by simp [codeAmong]) hcl fun f c' oc vs t ctv doc h' tk F' N'' d1 d2 l1 l2 => ?_
    rw [hpl, hpc] at N''
    have lo : ∀ q ∈ own, q.1 < f := fun q hq => Nat.lt_trans (l1 q (List.mem_append_left _ hq)) l2
    refine h f c' ctv doc h' tk (tls (entry 32 4 c') ps37 ((c', oc) :: codes)) F' (fun p hp => N'' p ?_) ⟨_, _, _, rfl, ?_⟩ ⟨_, _, _, rfl⟩ ⟨_, _, _, rfl, .inr ⟨oc, .head _, vs, t, d1, by rw [d2, hq]⟩⟩ lo (fun q hq => ?_)
    · simp only [List.mem_cons, List.mem_append, List.not_mem_nil, or_false] at hp ⊢
      rcases hp with h | h | h | h | h | h <;> simp [h]
    · refine ⟨.inr ⟨c', rfl, .inr ⟨oc, .head _, vs, t, d1, by rw [d2, hq]⟩⟩, S.t37.imp id fun ⟨a, e, x⟩ => ⟨a, e, x.imp id fun ⟨o, hm, y⟩ => ⟨o, .tail _ hm, y⟩⟩, fun o e n => absurd (S.k30 o e n) n, S.k37, fun p hp => ?_⟩
      rcases List.mem_cons.mp hp with rfl | hp
      · exact ⟨_, vs, t, d1, d2⟩
      · exact S.cd p hp
    · simp only [List.mem_cons] at hq
      rcases hq with rfl | rfl | rfl | hq
      · exact Nat.lt_trans (l1 (30, tabObj #[]) (by simp)) l2
      · exact Nat.lt_trans (l1 (37, tabObj ps37) (by simp)) l2
      · exact l2
      · exact Nat.lt_trans (l1 q (by simp [hq])) l2
  · refine nestHit_K (c' := c') F N T K hcd h30 (by simp [TriplesOk, rawInt]) (by simp [codeAmong, rawInt, hpl, hpc]) hcl fun f ctv doc h' tk F' N'' l1 => ?_
    exact h f c' ctv doc h' tk (tls (entry 32 4 c') ps37 codes) F' N'' ⟨_, _, _, rfl, S⟩ ⟨_, _, _, rfl⟩ ⟨_, _, _, rfl, x⟩ (fun q hq => l1 q (List.mem_append_left _ hq)) (fun q hq => l1 q (List.mem_append_right _ hq))
end
end
local macro_rules | `(tactic| k_ne) => `(tactic| (refine neN ?_; (try dsimp only); first | with_reducible assumption | exact Ne.symm (by with_reducible assumption) | (simp; done) | omega))
local macro_rules | `(tactic| k_room) => `(tactic| (show _ < 1000; (try simp only [depth_under_make, depth_under_kw, depth_in1, depth_deeper]); (try dsimp only [At]); omega))
theorem rows_P_1 : True := by
  k_with "binaryOp FloorDiv int int" => (k_here; (refine' floordiv_to (by with_reducible assumption) (by omega) (by omega) ?_; k_whole))
  k_with "binaryOp Mod int int" => (k_here; (refine' mod_to (by with_reducible assumption) (by omega) ?_; k_whole))
  k_with "binaryOp Add int int" => (k_here; (refine' add_to (by with_reducible assumption) ?_; k_whole))
  k_with "binaryOp Sub int int" => (k_here; (refine' sub_to (by with_reducible assumption) ?_; k_whole))
  k_with "binaryOp Mult int int" => (k_here; (refine' mul_to (by with_reducible assumption) (by with_reducible assumption) ?_; k_whole))
  k_with "binaryOp RShift int int" => (k_here; (refine' rshift_to (by with_reducible assumption) (by omega) ?_; k_whole))
  k_with "binaryOp LShift int int" => (k_here; (refine' lshift_to (by with_reducible assumption) (by omega) (by omega) (by omega) ?_; k_whole))
  k_with "binaryOp Pow int int" => (k_here; (refine' pow_to (by with_reducible assumption) (by omega) (by omega) (by (first | with_reducible assumption | decide | omega)) ?_; k_whole))
  k_with "binaryOp BitXor int int" => (k_here; (refine' xor_to (by with_reducible assumption) ?_; k_whole))
  k_with "unaryOp Invert int" => (k_here; (refine' invert_to (by with_reducible assumption) ?_; k_whole))
  k_with "binaryOp Mult ref int" => (k_here; (first | ((with_reducible show wpAny _ _ (binaryOp _ (Value.ref _) (Value.int 0 _)) _ _ _); refine' mul0_list (by k_asm) (by k_asm) (by k_mem) ?_; k_whole) | ((with_reducible show wpAny _ _ (binaryOp _ (Value.ref _) (Value.int 1 _)) _ _ _); refine' mul1_list (by k_asm) (by k_asm) (by k_mem) ?_; k_whole) | ((with_reducible show wpAny _ _ (binaryOp _ (Value.ref _) (Value.int 2 _)) _ _ _); refine' mul2_list (by k_asm) (by k_asm) (by k_mem) ?_; k_whole)); intro DZ9 hZ9 FZ9 NZ9 l1Z9; (try k_lt l1Z9))
  k_with "call ref" => (k_here; kn_here; k_dflt (refine wpAny_call ?_; (refine' enterN (by k_asm) (by k_asm) (by k_asm) (by k_mem) (by (first | exact CodeT.get (by k_asm) (by k_asm) (by assumption) (fun p9 h9 => by repeat (first | exact h9 | refine List.mem_cons_of_mem _ ?_)) | exact codeRec_news (by k_asm) (by k_mem) (by assumption) (by assumption) | exact Heap.CodeRec.keeps (by assumption) (Fr.keep (by k_asm)))) (by k_room) (by exact BindsTo.of_eq rfl) (by exact locs rfl) ?_ (by exact rfl) (by exact rfl) (by exact rfl) (by decide); k_whole; intro gZ9 LZ9 hZ9 GZ9 FGZ9 FZ9 NZ9 l1Z9; (have X' := Gnd.X GZ9); (have T' := Gnd.T GZ9); (try k_lt l1Z9); (try (have hl9 := isList_up FGZ9 (by assumption))); (try (have xR' := codeRec_up FGZ9 (by assumption))); (try (have xT' := CodeT.up FGZ9 (by assumption))); (try dsimp only); (try k_fold))))
  k_with "subscriptTail" => (k_here; (with_reducible show wpAny _ _ (subscriptTail _ _ (Value.ref _) (Value.int _ _)) _ _ _); (with_unfolding_all refine' item_at (by k_asm) (by with_reducible assumption) (by decide) (by decide) (by rfl) ?_ (by with_unfolding_all rfl); k_whole))
  k_with "subscriptTail Name Name ref int" => (k_here; (with_reducible show wpAny _ _ (subscriptTail _ _ (Value.ref _) (Value.int _ _)) _ _ _); (with_unfolding_all refine' item_at (by k_asm) (by with_reducible assumption) (by decide) (by decide) (by rfl) ?_ (by with_unfolding_all rfl); k_whole))
  k_with "call builtin:len" => (k_here; (with_reducible show wpAny _ _ (call (Value.builtin "len") [Value.ref _]) _ _ _); (refine' len_at (by k_asm) (by with_reducible assumption) (by with_reducible assumption) (by (first | decide | omega)) ?_; k_whole))
  trivial
local macro_rules | `(tactic| ktr_rel) => `(tactic| (repeat' (first | exact Cut.here | refine' Cut.cons ?_ ?_ | (refine ne_tab_cls ?_; intro h9; cases h9; done) | (exact ne_tab_cell (by assumption)))))
local macro_rules | `(tactic| k_all) => `(tactic| (exact TL.ne (by k_asm) (by assumption) (fun p9 h9 => by repeat (first | exact h9 | refine List.mem_cons_of_mem _ ?_)) (by k_mem) (by first | exact Off.seq rfl | exact Off.func rfl | (exact Off.cell (by assumption)))))
theorem rows_PO_2 : True := by
  k_with "exec FunctionDef" => (k_here; k_dflt (refine' nestDef_K (by exact rfl) (by exact rfl) (by exact rfl) ?_); k_dflt (refine' nest30 (by k_asm) (by k_asm) (by assumption) (by ktr_rel) (by exact Gnd.T (by assumption)) (by exact Gnd.c30 (by assumption)) (by exact rfl) (by exact rfl) (by exact rfl) (by exact rfl) (by exact rfl) (by k_all) ?_; k_whole); intro fZ9 cZ9 ctZ9 dcZ9 hZ9 tkZ9 tlZ9 FZ9 NZ9 SZ9 f37Z9 x37Z9 l1Z9 l2Z9; (try simp only [List.cons_append, List.nil_append] at NZ9); (try k_lt l1Z9))
  trivial
section
theorem div2n1n_ok {w : World} {mean mg mb} {dp un fr gd} {s : Shared} {Q E : Value → Shared → Prop} {a b n : Int} {ta tb tn : Tok} (G : Good w mean mg mb s.heap)
   (hdp : dp + 2 < 1000) (hb : 0 < b) (hb1 : b < 1000) (hbits : (Builtin.Int.intBits a : Int) - n ≤ 4000)
   (ret : ∀ p h' tk tq tr, Ext s.heap h' → Good w mean mg mb h' → s.heap.objs.size ≤ p → h'.get? p = some (tupO [.int (a.fdiv b) tq, .int (a.fmod b) tr]) → Q (.ref p) { s with heap := h', toks := tk }) :
   wpAny (model PR w) (At dp un fr gd) (call (.ref 21) [.int a ta, .int b tb, .int n tn]) Q E s := by
  have X := G.g.X
  have T := G.g.T
  have hb0 : b ≠ 0 := by omega
  refine wpAny_call ?_
  k_dflt (refine' enter ?k1 ?k8 ?k6 ?k7 ?k9 ?kB ?_ ?c2 ?c3 ?c4 ?c5; (case k1 => assumption); (case k6 => k_is); (case k7 => k_is); (case k8 => k_room); (case k9 => exact BindsTo.of_eq rfl); (case c5 => decide); (case kB => exact locs rfl); (case c2 => exact rfl); (case c3 => exact rfl); (case c4 => exact rfl))
  k_whole
  intro L h₁ ps30 ps37 eL hL S F N
  (try simp only [tls] at N)
  (try dsimp only); (try k_fold)
  k_steps
  all_goals try k_data
  all_goals (try dsimp only)
  rename Fr _ _ _ _ => F9
  rename News _ _ _ _ => N9
  obtain ⟨X9, G9⟩ := fin_keep G F9 S (nat_ N9 (by k_mem)) (nat_ N9 (by k_mem))
  exact ret _ _ _ _ _ X9 G9 (eL ▸ Nat.le_of_lt F.ns.lt) (nat_ N9 (by k_mem)).1

theorem int2digits_two {w : World} {mean mg mb} {dp un fr gd} {s : Shared} {Q E : Value → Shared → Prop} {a n u v lo : Int} {ta tn : Tok} (G : Good w mean mg mb s.heap)
   (hdp : dp + 8 < 1000) (hn : 0 < n) (hn1 : n ≤ 10) (ha : 0 < a) (ha1 : a < 2 ^ 20) (hnd : ((Builtin.Int.intBits a : Int) + n - 1).fdiv n = 2)
   (hu : a.fdiv (2 ^ n.toNat) = u) (hv : u * 2 ^ n.toNat = v) (hlo : Builtin.bitXor a v = lo) (hu1 : 0 ≤ u) (hu2 : u < 2 ^ 20) (hm : IntMulOk 1 n)
   (ret : ∀ p h' tk tq tr, Ext s.heap h' → Good w mean mg mb h' → Hit h' 30 32 4 q30 → s.heap.objs.size ≤ p → h'.get? p = some (lstO [.int lo tq, .int u tr]) → Q (.ref p) { s with heap := h', toks := tk }) :
   wpAny (model PR w) (At dp un fr gd) (call (.ref 35) [.int a ta, .int n tn]) Q E s := by
  have X := G.g.X
  have T := G.g.T
  have C30 := G.g.c30
  have G0 := G.g
  have q1 : (0 : Int) + 1 = 1 := rfl
  have q2 : (0 : Int) + 2 = 2 := rfl
  have q3 : (2 : Int).fdiv (2 ^ (1 : Int).toNat) = 1 := by decide
  have q4 : (1 : Int) - 0 = 1 := rfl
  have q5 : (1 : Int) * n = n := by omega
  have q6 : (1 : Int) + 1 = 2 := rfl
  refine wpAny_call ?_
  k_dflt (refine' enterC ?k1 ?k8 ?k6 ?k7 ?k9 ?kB ?kD ?_ ?c2 ?c3 ?c4; (case k1 => assumption); (case k6 => k_is); (case k7 => k_is); (case k8 => k_room); (case k9 => exact BindsTo.of_eq rfl); (case kB => exact rfl); (case kD => decide +kernel); (case c2 => exact rfl); (case c3 => exact rfl); (case c4 => exact rfl))
  k_whole
  intro L h₁ tk cells ps30 ps37 eL hL S F N Y
  k_cells Y
  have S0 : TL s.heap (tls ps30 ps37 []) := ⟨_, _, _, rfl, S⟩
  clear S
  generalize tls ps30 ps37 [] = tl0 at N S0
  (try simp only [List.cons_append, List.nil_append] at N)
  (try dsimp only); (try k_fold)
  k_steps
  all_goals try k_data
  all_goals (try dsimp only)
  all_goals first | (exfalso; omega) | skip
  rename Fr _ _ _ _ => F9
  rename News _ _ _ _ => N9
  rename TL _ _ => S9
  rename Full30 _ => f9
  obtain ⟨X9, G9⟩ := Cut.good (by ktr_rel) G F9 N9 S9
  have H9 := TL.hit30 F9 N9 (fun p9 h9 => by repeat (first | exact h9 | refine List.mem_cons_of_mem _ ?_)) S9 f9
  exact ret _ _ _ _ _ X9 G9 H9 (by omega) (nat_ N9 (by k_mem)).1

theorem int2digits_one {w : World} {mean mg mb} {dp un fr gd} {s : Shared} {Q E : Value → Shared → Prop} {a n : Int} {ta tn : Tok} (G : Good w mean mg mb s.heap)
   (hdp : dp + 8 < 1000) (hn : 0 < n) (hn1 : n ≤ 10) (ha : 0 < a) (hnd : ((Builtin.Int.intBits a : Int) + n - 1).fdiv n = 1)
   (ret : ∀ p h' tk tq, Ext s.heap h' → Good w mean mg mb h' → Hit h' 30 32 4 q30 → s.heap.objs.size ≤ p → h'.get? p = some (lstO [.int a tq]) → Q (.ref p) { s with heap := h', toks := tk }) :
   wpAny (model PR w) (At dp un fr gd) (call (.ref 35) [.int a ta, .int n tn]) Q E s := by
  have X := G.g.X
  have T := G.g.T
  have C30 := G.g.c30
  have G0 := G.g
  have q1 : (0 : Int) + 1 = 1 := rfl
  refine wpAny_call ?_
  k_dflt (refine' enterC ?k1 ?k8 ?k6 ?k7 ?k9 ?kB ?kD ?_ ?c2 ?c3 ?c4; (case k1 => assumption); (case k6 => k_is); (case k7 => k_is); (case k8 => k_room); (case k9 => exact BindsTo.of_eq rfl); (case kB => exact rfl); (case kD => decide +kernel); (case c2 => exact rfl); (case c3 => exact rfl); (case c4 => exact rfl))
  k_whole
  intro L h₁ tk cells ps30 ps37 eL hL S F N Y
  k_cells Y
  have S0 : TL s.heap (tls ps30 ps37 []) := ⟨_, _, _, rfl, S⟩
  clear S
  generalize tls ps30 ps37 [] = tl0 at N S0
  (try simp only [List.cons_append, List.nil_append] at N)
  (try dsimp only); (try k_fold)
  k_steps
  all_goals try k_data
  all_goals (try dsimp only)
  all_goals first | (exfalso; omega) | skip
  rename Fr _ _ _ _ => F9
  rename News _ _ _ _ => N9
  rename TL _ _ => S9
  rename Full30 _ => f9
  obtain ⟨X9, G9⟩ := Cut.good (by ktr_rel) G F9 N9 S9
  have H9 := TL.hit30 F9 N9 (fun p9 h9 => by repeat (first | exact h9 | refine List.mem_cons_of_mem _ ?_)) S9 f9
  exact ret _ _ _ _ X9 G9 H9 (by omega) (nat_ N9 (by k_mem)).1

theorem int2digits_zero {w : World} {mean mg mb} {dp un fr gd} {s : Shared} {Q E : Value → Shared → Prop} {n : Int} {ta tn : Tok} (G : Good w mean mg mb s.heap)
   (hdp : dp + 8 < 1000) (hn : 0 < n) (hn1 : n ≤ 10) (hnd : ((Builtin.Int.intBits 0 : Int) + n - 1).fdiv n = 0)
   (ret : ∀ p h' tk, Ext s.heap h' → Good w mean mg mb h' → Hit h' 30 32 4 q30 → s.heap.objs.size ≤ p → h'.get? p = some (lstO []) → Q (.ref p) { s with heap := h', toks := tk }) :
   wpAny (model PR w) (At dp un fr gd) (call (.ref 35) [.int 0 ta, .int n tn]) Q E s := by
  have X := G.g.X
  have T := G.g.T
  have C30 := G.g.c30
  have G0 := G.g
  refine wpAny_call ?_
  k_dflt (refine' enterC ?k1 ?k8 ?k6 ?k7 ?k9 ?kB ?kD ?_ ?c2 ?c3 ?c4; (case k1 => assumption); (case k6 => k_is); (case k7 => k_is); (case k8 => k_room); (case k9 => exact BindsTo.of_eq rfl); (case kB => exact rfl); (case kD => decide +kernel); (case c2 => exact rfl); (case c3 => exact rfl); (case c4 => exact rfl))
  k_whole
  intro L h₁ tk cells ps30 ps37 eL hL S F N Y
  k_cells Y
  have S0 : TL s.heap (tls ps30 ps37 []) := ⟨_, _, _, rfl, S⟩
  clear S
  generalize tls ps30 ps37 [] = tl0 at N S0
  (try simp only [List.cons_append, List.nil_append] at N)
  (try dsimp only); (try k_fold)
  k_steps
  all_goals try k_data
  all_goals (try dsimp only)
  all_goals first | (exfalso; omega) | skip
  rename Fr _ _ _ _ => F9
  rename News _ _ _ _ => N9
  rename TL _ _ => S9
  rename Full30 _ => f9
  obtain ⟨X9, G9⟩ := Cut.good (by ktr_rel) G F9 N9 S9
  have H9 := TL.hit30 F9 N9 (fun p9 h9 => by repeat (first | exact h9 | refine List.mem_cons_of_mem _ ?_)) S9 f9
  exact ret _ _ _ X9 G9 H9 (by omega) (nat_ N9 (by k_mem)).1
end
local macro_rules | `(tactic| ktr_rel) => `(tactic| (repeat' (first | exact Cut.here | refine' Cut.cons ?_ ?_ | (refine ne_tab_cls ?_; intro h9; cases h9; done) | (exact ne_tab_cell (by assumption)))))
local macro_rules | `(tactic| k_all) => `(tactic| (exact TL.ne (by k_asm) (by assumption) (fun p9 h9 => by repeat (first | exact h9 | refine List.mem_cons_of_mem _ ?_)) (by k_mem) (by first | exact Off.seq rfl | exact Off.func rfl | (exact Off.cell (by assumption)))))
theorem rows_PN_3 : True := by
  k_with "exec FunctionDef" => (k_here; k_dflt (refine' nestDef_K (by exact rfl) (by exact rfl) (by exact rfl) ?_); k_dflt (refine' nest37 (by k_asm) (by k_asm) (by assumption) (by ktr_rel) (by exact Gnd.T (by assumption)) (by exact Gnd.c37 (by assumption)) (by exact rfl) (by exact rfl) (by exact rfl) (by exact rfl) (by exact rfl) (by k_all) ?_; k_whole); intro fZ9 cZ9 ctZ9 dcZ9 hZ9 tkZ9 tlZ9 FZ9 NZ9 SZ9 f37Z9 x37Z9 l1Z9 l2Z9; (try simp only [List.cons_append, List.nil_append] at NZ9); (try k_lt l1Z9))
  trivial
section
theorem digits2int_zero {w : World} {mean mg mb} {dp un fr gd} {s : Shared} {Q E : Value → Shared → Prop} {n : Int} {l : Addr} {tn : Tok}   (G : Good w mean mg mb s.heap)
   (hdp : dp + 8 < 1000) (hn : 0 < n) (hn1 : n ≤ 10) (hl : s.heap.IsList l ([] : List Value).toArray)
   (ret : ∀ h' tk t, Ext s.heap h' → Good w mean mg mb h' → Hit h' 37 47 4 q37 → Q (.int 0 t) { s with heap := h', toks := tk }) :
   wpAny (model PR w) (At dp un fr gd) (call (.ref 42) [.ref l, .int n tn]) Q E s := by
  have X := G.g.X
  have T := G.g.T
  have C37 := G.g.c37
  have G0 := G.g
  have hlg : (ghost s.heap).IsList l ([] : List Value).toArray := G.isList hl
  have q1 : (0 : Int) + 1 = 1 := rfl
  refine wpAny_call ?_
  k_dflt (refine' enterC ?k1 ?k8 ?k6 ?k7 ?k9 ?kB ?kD ?_ ?c2 ?c3 ?c4; (case k1 => assumption); (case k6 => k_is); (case k7 => k_is); (case k8 => k_room); (case k9 => exact BindsTo.of_eq rfl); (case kB => exact rfl); (case kD => decide +kernel); (case c2 => exact rfl); (case c3 => exact rfl); (case c4 => exact rfl))
  k_whole
  intro L h₁ tk cells ps30 ps37 eL hL S F N Y
  k_cells Y
  have S0 : TL s.heap (tls ps30 ps37 []) := ⟨_, _, _, rfl, S⟩
  clear S
  generalize tls ps30 ps37 [] = tl0 at N S0
  (try simp only [List.cons_append, List.nil_append] at N)
  (try dsimp only); (try k_fold)
  k_steps
  all_goals try k_data
  all_goals (try dsimp only)
  all_goals first | (exfalso; omega) | skip
  rename Fr _ _ _ _ => F9
  rename News _ _ _ _ => N9
  rename TL _ _ => S9
  rename Full37 _ => f9
  obtain ⟨X9, G9⟩ := Cut.good (by ktr_rel) G F9 N9 S9
  have H9 := TL.hit37 F9 N9 (fun p9 h9 => by repeat (first | exact h9 | refine List.mem_cons_of_mem _ ?_)) S9 f9
  exact ret _ _ _ X9 G9 H9

theorem digits2int_one {w : World} {mean mg mb} {dp un fr gd} {s : Shared} {Q E : Value → Shared → Prop} {n : Int} {l : Addr} {tn : Tok} {d0 : Int} {t0 : Tok}  (G : Good w mean mg mb s.heap)
   (hdp : dp + 8 < 1000) (hn : 0 < n) (hn1 : n ≤ 10) (hl : s.heap.IsList l ([.int d0 t0] : List Value).toArray)
   (ret : ∀ h' tk t, Ext s.heap h' → Good w mean mg mb h' → Hit h' 37 47 4 q37 → Q (.int d0 t) { s with heap := h', toks := tk }) :
   wpAny (model PR w) (At dp un fr gd) (call (.ref 42) [.ref l, .int n tn]) Q E s := by
  have X := G.g.X
  have T := G.g.T
  have C37 := G.g.c37
  have G0 := G.g
  have hlg : (ghost s.heap).IsList l ([.int d0 t0] : List Value).toArray := G.isList hl
  have q0 : ((([.int d0 t0] : List Value).length : Nat) : Int) = 1 := rfl
  have q1 : (0 : Int) + 1 = 1 := rfl
  refine wpAny_call ?_
  k_dflt (refine' enterC ?k1 ?k8 ?k6 ?k7 ?k9 ?kB ?kD ?_ ?c2 ?c3 ?c4; (case k1 => assumption); (case k6 => k_is); (case k7 => k_is); (case k8 => k_room); (case k9 => exact BindsTo.of_eq rfl); (case kB => exact rfl); (case kD => decide +kernel); (case c2 => exact rfl); (case c3 => exact rfl); (case c4 => exact rfl))
  k_whole
  intro L h₁ tk cells ps30 ps37 eL hL S F N Y
  k_cells Y
  have S0 : TL s.heap (tls ps30 ps37 []) := ⟨_, _, _, rfl, S⟩
  clear S
  generalize tls ps30 ps37 [] = tl0 at N S0
  (try simp only [List.cons_append, List.nil_append] at N)
  (try dsimp only); (try k_fold)
  k_steps
  all_goals try k_data
  all_goals (try dsimp only)
  all_goals first | (exfalso; omega) | skip
  rename Fr _ _ _ _ => F9
  rename News _ _ _ _ => N9
  rename TL _ _ => S9
  rename Full37 _ => f9
  obtain ⟨X9, G9⟩ := Cut.good (by ktr_rel) G F9 N9 S9
  have H9 := TL.hit37 F9 N9 (fun p9 h9 => by repeat (first | exact h9 | refine List.mem_cons_of_mem _ ?_)) S9 f9
  exact ret _ _ _ X9 G9 H9

theorem digits2int_two {w : World} {mean mg mb} {dp un fr gd} {s : Shared} {Q E : Value → Shared → Prop} {n : Int} {l : Addr} {tn : Tok} {d0 d1 : Int} {t0 t1 : Tok} {v k : Int} (hv : d1 * 2 ^ n.toNat = v) (hk : v + d0 = k) (hd1 : 0 ≤ d1) (hd2 : d1 < 2 ^ 20) (hm : IntMulOk 1 n) (G : Good w mean mg mb s.heap)
   (hdp : dp + 8 < 1000) (hn : 0 < n) (hn1 : n ≤ 10) (hl : s.heap.IsList l ([.int d0 t0, .int d1 t1] : List Value).toArray)
   (ret : ∀ h' tk t, Ext s.heap h' → Good w mean mg mb h' → Hit h' 37 47 4 q37 → Q (.int k t) { s with heap := h', toks := tk }) :
   wpAny (model PR w) (At dp un fr gd) (call (.ref 42) [.ref l, .int n tn]) Q E s := by
  have X := G.g.X
  have T := G.g.T
  have C37 := G.g.c37
  have G0 := G.g
  have hlg : (ghost s.heap).IsList l ([.int d0 t0, .int d1 t1] : List Value).toArray := G.isList hl
  have q0 : ((([.int d0 t0, .int d1 t1] : List Value).length : Nat) : Int) = 2 := rfl
  have q1 : (0 : Int) + 1 = 1 := rfl
  have q2 : (0 : Int) + 2 = 2 := rfl
  have q3 : (2 : Int).fdiv (2 ^ (1 : Int).toNat) = 1 := by decide
  have q4 : (1 : Int) - 0 = 1 := rfl
  have q5 : (1 : Int) * n = n := by omega
  have q6 : (1 : Int) + 1 = 2 := rfl
  refine wpAny_call ?_
  k_dflt (refine' enterC ?k1 ?k8 ?k6 ?k7 ?k9 ?kB ?kD ?_ ?c2 ?c3 ?c4; (case k1 => assumption); (case k6 => k_is); (case k7 => k_is); (case k8 => k_room); (case k9 => exact BindsTo.of_eq rfl); (case kB => exact rfl); (case kD => decide +kernel); (case c2 => exact rfl); (case c3 => exact rfl); (case c4 => exact rfl))
  k_whole
  intro L h₁ tk cells ps30 ps37 eL hL S F N Y
  k_cells Y
  have S0 : TL s.heap (tls ps30 ps37 []) := ⟨_, _, _, rfl, S⟩
  clear S
  generalize tls ps30 ps37 [] = tl0 at N S0
  (try simp only [List.cons_append, List.nil_append] at N)
  (try dsimp only); (try k_fold)
  k_steps
  all_goals try k_data
  all_goals (try dsimp only)
  all_goals first | (exfalso; omega) | skip
  rename Fr _ _ _ _ => F9
  rename News _ _ _ _ => N9
  rename TL _ _ => S9
  rename Full37 _ => f9
  obtain ⟨X9, G9⟩ := Cut.good (by ktr_rel) G F9 N9 S9
  have H9 := TL.hit37 F9 N9 (fun p9 h9 => by repeat (first | exact h9 | refine List.mem_cons_of_mem _ ?_)) S9 f9
  exact ret _ _ _ X9 G9 H9

theorem digits2int_three {w : World} {mean mg mb} {dp un fr gd} {s : Shared} {Q E : Value → Shared → Prop} {n : Int} {l : Addr} {tn : Tok} {d0 d1 d2 : Int} {t0 t1 t2 : Tok} {v2 k1 v k : Int} (hv2 : d2 * 2 ^ n.toNat = v2) (hk1 : v2 + d1 = k1) (hv : k1 * 2 ^ n.toNat = v) (hk : v + d0 = k) (hd1 : 0 ≤ d2) (hd2 : d2 < 2 ^ 20) (hk11 : 0 ≤ k1) (hk12 : k1 < 2 ^ 40) (hm : IntMulOk 1 n) (G : Good w mean mg mb s.heap)
   (hdp : dp + 8 < 1000) (hn : 0 < n) (hn1 : n ≤ 10) (hl : s.heap.IsList l ([.int d0 t0, .int d1 t1, .int d2 t2] : List Value).toArray)
   (ret : ∀ h' tk t, Ext s.heap h' → Good w mean mg mb h' → Hit h' 37 47 4 q37 → Q (.int k t) { s with heap := h', toks := tk }) :
   wpAny (model PR w) (At dp un fr gd) (call (.ref 42) [.ref l, .int n tn]) Q E s := by
  have X := G.g.X
  have T := G.g.T
  have C37 := G.g.c37
  have G0 := G.g
  have hlg : (ghost s.heap).IsList l ([.int d0 t0, .int d1 t1, .int d2 t2] : List Value).toArray := G.isList hl
  have q0 : ((([.int d0 t0, .int d1 t1, .int d2 t2] : List Value).length : Nat) : Int) = 3 := rfl
  have q1 : (0 : Int) + 1 = 1 := rfl
  have q2 : (0 : Int) + 2 = 2 := rfl
  have q3 : (2 : Int).fdiv (2 ^ (1 : Int).toNat) = 1 := by decide
  have q4 : (1 : Int) - 0 = 1 := rfl
  have q5 : (1 : Int) * n = n := by omega
  have q6 : (1 : Int) + 1 = 2 := rfl
  have q7 : (0 : Int) + 3 = 3 := rfl
  have q8 : (3 : Int).fdiv (2 ^ (1 : Int).toNat) = 1 := by decide
  have q9 : (1 : Int) + 3 = 4 := rfl
  have q10 : (4 : Int).fdiv (2 ^ (1 : Int).toNat) = 2 := by decide
  have q11 : (2 : Int) - 1 = 1 := rfl
  have q12 : (2 : Int) + 1 = 3 := rfl
  refine wpAny_call ?_
  k_dflt (refine' enterC ?k1 ?k8 ?k6 ?k7 ?k9 ?kB ?kD ?_ ?c2 ?c3 ?c4; (case k1 => assumption); (case k6 => k_is); (case k7 => k_is); (case k8 => k_room); (case k9 => exact BindsTo.of_eq rfl); (case kB => exact rfl); (case kD => decide +kernel); (case c2 => exact rfl); (case c3 => exact rfl); (case c4 => exact rfl))
  k_whole
  intro L h₁ tk cells ps30 ps37 eL hL S F N Y
  k_cells Y
  have S0 : TL s.heap (tls ps30 ps37 []) := ⟨_, _, _, rfl, S⟩
  clear S
  generalize tls ps30 ps37 [] = tl0 at N S0
  (try simp only [List.cons_append, List.nil_append] at N)
  (try dsimp only); (try k_fold)
  k_steps
  all_goals try k_data
  all_goals (try dsimp only)
  all_goals first | (exfalso; omega) | skip
  rename Fr _ _ _ _ => F9
  rename News _ _ _ _ => N9
  rename TL _ _ => S9
  rename Full37 _ => f9
  obtain ⟨X9, G9⟩ := Cut.good (by ktr_rel) G F9 N9 S9
  have H9 := TL.hit37 F9 N9 (fun p9 h9 => by repeat (first | exact h9 | refine List.mem_cons_of_mem _ ?_)) S9 f9
  exact ret _ _ _ X9 G9 H9
end
section
section
variable {w : World} {mean : ExcName → Option Value} {mg mb : Str → Option Value} {dp un : Nat} {fr : Option (List Env)} {gd : Option (List Code)} {s : Shared} {Q E : Value → Shared → Prop} {h₀ : Heap} {L : Addr} {m : Str → Option Value} {news own tl : List (Addr × Obj)}

theorem L_div2n1n {a b n q r : Int} {ta tb tn : Tok} (F : Fr (ghost h₀) L s.heap m) (N : News (ghost h₀) L s.heap news) (S : TL h₀ tl) (C : Cut tl news own) (G : Good w mean mg mb h₀)
   (hdp : dp + 2 < 1000) (hb : 0 < b) (hb1 : b < 1000) (hbits : (Builtin.Int.intBits a : Int) - n ≤ 4000) (hq : a.fdiv b = q) (hr : a.fmod b = r)
   (ret : ∀ p h' tk tq tr tl', TL h₀ tl' → (Full30 tl → Full30 tl') → (Full37 tl → Full37 tl') → Fr (ghost h₀) L h' m → News (ghost h₀) L h' ((p, tupO [.int q tq, .int r tr]) :: (own ++ tl')) → (∀ q ∈ news, q.1 < p) → Q (.ref p) { s with heap := h', toks := tk }) :
   wpAny (model PR w) (At dp un fr gd) (call (.ref 21) [.int a ta, .int b tb, .int n tn]) Q E s := by
  subst hq hr
  refine div2n1n_ok (C.good G F N S).2 hdp hb hb1 hbits fun p h' tk tq tr X9 G9 hp e => ?_
  obtain ⟨tl', S', F', N', f30, f37⟩ := C.after F N S X9 G9
  exact ret p h' tk tq tr tl' S' (fun h => f30 (.inl h)) (fun h => f37 (.inl h)) F' ((new_at F hp e).cons N') (below_new N hp)

theorem L_int2digits_zero {n : Int} {ta tn : Tok} (F : Fr (ghost h₀) L s.heap m) (N : News (ghost h₀) L s.heap news) (S : TL h₀ tl) (C : Cut tl news own) (G : Good w mean mg mb h₀)
   (hdp : dp + 8 < 1000) (hn : 0 < n) (hn1 : n ≤ 10) (hnd : ((Builtin.Int.intBits 0 : Int) + n - 1).fdiv n = 0)
   (ret : ∀ p h' tk tl', TL h₀ tl' → Full30 tl' → (Full37 tl → Full37 tl') → Fr (ghost h₀) L h' m → News (ghost h₀) L h' ((p, lstO []) :: (own ++ tl')) → (∀ q ∈ news, q.1 < p) → Q (.ref p) { s with heap := h', toks := tk }) :
   wpAny (model PR w) (At dp un fr gd) (call (.ref 35) [.int 0 ta, .int n tn]) Q E s := by
  refine int2digits_zero (C.good G F N S).2 hdp hn hn1 hnd fun p h' tk X9 G9 H9 hp e => ?_
  obtain ⟨tl', S', F', N', f30, f37⟩ := C.after F N S X9 G9
  exact ret p h' tk tl' S' (f30 (.inr H9)) (fun h => f37 (.inl h)) F' ((new_at F hp e).cons N') (below_new N hp)

theorem L_int2digits_one {a n : Int} {ta tn : Tok} (F : Fr (ghost h₀) L s.heap m) (N : News (ghost h₀) L s.heap news) (S : TL h₀ tl) (C : Cut tl news own) (G : Good w mean mg mb h₀)
   (hdp : dp + 8 < 1000) (hn : 0 < n) (hn1 : n ≤ 10) (ha : 0 < a) (hnd : ((Builtin.Int.intBits a : Int) + n - 1).fdiv n = 1)
   (ret : ∀ p h' tk tq tl', TL h₀ tl' → Full30 tl' → (Full37 tl → Full37 tl') → Fr (ghost h₀) L h' m → News (ghost h₀) L h' ((p, lstO [.int a tq]) :: (own ++ tl')) → (∀ q ∈ news, q.1 < p) → Q (.ref p) { s with heap := h', toks := tk }) :
   wpAny (model PR w) (At dp un fr gd) (call (.ref 35) [.int a ta, .int n tn]) Q E s := by
  refine int2digits_one (C.good G F N S).2 hdp hn hn1 ha hnd fun p h' tk tq X9 G9 H9 hp e => ?_
  obtain ⟨tl', S', F', N', f30, f37⟩ := C.after F N S X9 G9
  exact ret p h' tk tq tl' S' (f30 (.inr H9)) (fun h => f37 (.inl h)) F' ((new_at F hp e).cons N') (below_new N hp)

theorem L_int2digits_two {a n u v lo : Int} {ta tn : Tok} (F : Fr (ghost h₀) L s.heap m) (N : News (ghost h₀) L s.heap news) (S : TL h₀ tl) (C : Cut tl news own) (G : Good w mean mg mb h₀)
   (hdp : dp + 8 < 1000) (hn : 0 < n) (hn1 : n ≤ 10) (ha : 0 < a) (ha1 : a < 2 ^ 20) (hnd : ((Builtin.Int.intBits a : Int) + n - 1).fdiv n = 2)
   (hu : a.fdiv (2 ^ n.toNat) = u) (hv : u * 2 ^ n.toNat = v) (hlo : Builtin.bitXor a v = lo) (hu1 : 0 ≤ u) (hu2 : u < 2 ^ 20) (hm : IntMulOk 1 n)
   (ret : ∀ p h' tk tq tr tl', TL h₀ tl' → Full30 tl' → (Full37 tl → Full37 tl') → Fr (ghost h₀) L h' m → News (ghost h₀) L h' ((p, lstO [.int lo tq, .int u tr]) :: (own ++ tl')) → (∀ q ∈ news, q.1 < p) → Q (.ref p) { s with heap := h', toks := tk }) :
   wpAny (model PR w) (At dp un fr gd) (call (.ref 35) [.int a ta, .int n tn]) Q E s := by
  refine int2digits_two (C.good G F N S).2 hdp hn hn1 ha ha1 hnd hu hv hlo hu1 hu2 hm fun p h' tk tq tr X9 G9 H9 hp e => ?_
  obtain ⟨tl', S', F', N', f30, f37⟩ := C.after F N S X9 G9
  exact ret p h' tk tq tr tl' S' (f30 (.inr H9)) (fun h => f37 (.inl h)) F' ((new_at F hp e).cons N') (below_new N hp)

theorem isList_own {g h : Heap} {l : Addr} {vs : List Value} {n : Nat} (N : News g L h news) (hm : (l, ({ cls := .type "list", data := .seq vs.toArray n } : Obj)) ∈ news) : h.IsList l vs.toArray := ⟨_, (N _ hm).1, rfl, n, rfl⟩

theorem L_digits2int_zero {n : Int} {l : Addr} {k0 : Nat} {tn : Tok} (F : Fr (ghost h₀) L s.heap m) (N : News (ghost h₀) L s.heap news) (S : TL h₀ tl) (C : Cut tl news own) (G : Good w mean mg mb h₀)
   (hdp : dp + 8 < 1000) (hn : 0 < n) (hn1 : n ≤ 10) (hl : (l, ({ cls := .type "list", data := .seq ([] : List Value).toArray k0 } : Obj)) ∈ news)
   (ret : ∀ h' tk t tl', TL h₀ tl' → (Full30 tl → Full30 tl') → Full37 tl' → Fr (ghost h₀) L h' m → News (ghost h₀) L h' (own ++ tl') → Q (.int 0 t) { s with heap := h', toks := tk }) :
   wpAny (model PR w) (At dp un fr gd) (call (.ref 42) [.ref l, .int n tn]) Q E s := by
  refine digits2int_zero (C.good G F N S).2 hdp hn hn1 (isList_own N hl) fun h' tk t X9 G9 H9 => ?_
  obtain ⟨tl', S', F', N', f30, f37⟩ := C.after F N S X9 G9
  exact ret h' tk t tl' S' (fun h => f30 (.inl h)) (f37 (.inr H9)) F' N'
theorem L_digits2int_one {n d0 : Int} {l : Addr} {k0 : Nat} {tn t0 : Tok} (F : Fr (ghost h₀) L s.heap m) (N : News (ghost h₀) L s.heap news) (S : TL h₀ tl) (C : Cut tl news own) (G : Good w mean mg mb h₀)
   (hdp : dp + 8 < 1000) (hn : 0 < n) (hn1 : n ≤ 10) (hl : (l, ({ cls := .type "list", data := .seq ([.int d0 t0] : List Value).toArray k0 } : Obj)) ∈ news)
   (ret : ∀ h' tk t tl', TL h₀ tl' → (Full30 tl → Full30 tl') → Full37 tl' → Fr (ghost h₀) L h' m → News (ghost h₀) L h' (own ++ tl') → Q (.int d0 t) { s with heap := h', toks := tk }) :
   wpAny (model PR w) (At dp un fr gd) (call (.ref 42) [.ref l, .int n tn]) Q E s := by
  refine digits2int_one (C.good G F N S).2 hdp hn hn1 (isList_own N hl) fun h' tk t X9 G9 H9 => ?_
  obtain ⟨tl', S', F', N', f30, f37⟩ := C.after F N S X9 G9
  exact ret h' tk t tl' S' (fun h => f30 (.inl h)) (f37 (.inr H9)) F' N'
theorem L_digits2int_two {n d0 d1 v k : Int} {l : Addr} {k0 : Nat} {tn t0 t1 : Tok} (F : Fr (ghost h₀) L s.heap m) (N : News (ghost h₀) L s.heap news) (S : TL h₀ tl) (C : Cut tl news own) (G : Good w mean mg mb h₀)
   (hdp : dp + 8 < 1000) (hn : 0 < n) (hn1 : n ≤ 10) (hl : (l, ({ cls := .type "list", data := .seq ([.int d0 t0, .int d1 t1] : List Value).toArray k0 } : Obj)) ∈ news)
   (hv : d1 * 2 ^ n.toNat = v) (hk : v + d0 = k) (hd1 : 0 ≤ d1) (hd2 : d1 < 2 ^ 20) (hm : IntMulOk 1 n)
   (ret : ∀ h' tk t tl', TL h₀ tl' → (Full30 tl → Full30 tl') → Full37 tl' → Fr (ghost h₀) L h' m → News (ghost h₀) L h' (own ++ tl') → Q (.int k t) { s with heap := h', toks := tk }) :
   wpAny (model PR w) (At dp un fr gd) (call (.ref 42) [.ref l, .int n tn]) Q E s := by
  refine digits2int_two hv hk hd1 hd2 hm (C.good G F N S).2 hdp hn hn1 (isList_own N hl) fun h' tk t X9 G9 H9 => ?_
  obtain ⟨tl', S', F', N', f30, f37⟩ := C.after F N S X9 G9
  exact ret h' tk t tl' S' (fun h => f30 (.inl h)) (f37 (.inr H9)) F' N'
end
end
section
open PyProof.V
section
variable {w : World} {A : Around} {E : Value → Shared → Prop} {s : Shared} {env : Env} {h₀ : Heap} {x : Str} {body : List Stmt} {Q : Flow → Shared → Prop}

def TurnEnd (h₀ : Heap) (L I : Addr) (it : Obj) (J : (Str → Option Value) → List (Addr × Obj) → Prop) (s₁ s' : Shared) : Prop :=
  ∃ h' tk' m' all news', s' = { s₁ with heap := h', toks := tk' } ∧ Fr h₀ L h' m' ∧ News h₀ L h' all ∧ Rem (I, it) all news' ∧ (∀ p ∈ news', p.2 ≠ it) ∧ J m' news'
def TurnPost (h₀ : Heap) (L I : Addr) (it : Obj) (J : (Str → Option Value) → List (Addr × Obj) → Prop) (s₁ : Shared) (Q : Flow → Shared → Prop) (f : Flow) (s' : Shared) : Prop :=
  match f with
  | .ret v => Q (.ret v) s'
  | .brk => Q .next s'
  | _ => TurnEnd h₀ L I it J s₁ s'
theorem turn_end {L I : Addr} {it : Obj} {J : (Str → Option Value) → List (Addr × Obj) → Prop} {s₁ : Shared} {h' : Heap} {tk' : Nat} {m' : Str → Option Value} {all news' : List (Addr × Obj)}
    (F : Fr h₀ L h' m') (N : News h₀ L h' all) (R : Rem (I, it) all news') (ne : ∀ p ∈ news', p.2 ≠ it) (j : J m' news') : TurnPost h₀ L I it J s₁ Q .next { s₁ with heap := h', toks := tk' } := ⟨h', tk', m', all, news', rfl, F, N, R, ne, j⟩

theorem for_walk {I : Addr} {fp : List Addr} {n : Nat} {P : Nat → Value → Prop} {St : Nat → Heap → Prop} {m : Str → Option Value} {news : List (Addr × Obj)} (J : Nat → (Str → Option Value) → List (Addr × Obj) → Prop) (keep : List (Addr × Obj)) (It : Obj → Prop)
    (W : Walks PR w A I fp [I] n P St) (hI : h₀.get? I = none) (hLf : env.locals ∉ fp) (hfI : I ∈ fp) (hfp : ∀ b ∈ fp, b ≠ I → h₀.get? b = none → ∃ o, (b, o) ∈ keep)
    (hit : ∀ i h, St i h → ∃ it, h.get? I = some it ∧ It it) (hst : St 0 s.heap) (F : Fr h₀ env.locals s.heap m) (N : News h₀ env.locals s.heap news) (hn : ∀ p ∈ news, p.1 ≠ I)
    (hk : ∀ i m news, J i m news → ∀ p ∈ keep, p ∈ news) (h0 : J 0 m news)
    (turn : ∀ i v m₁ news₁ it h tk, i < n → P i v → J i m₁ news₁ → It it → Fr h₀ env.locals h (fun y => if y = x then some v else m₁ y) → News h₀ env.locals h ((I, it) :: news₁) →
      wpAny (model PR w) A (execs body env) (TurnPost h₀ env.locals I it (J (i + 1)) { s with heap := h, toks := tk } Q) E { s with heap := h, toks := tk })
    (done : ∀ h tk m₁ news₁, J n m₁ news₁ → Fr h₀ env.locals h m₁ → News h₀ env.locals h news₁ → Q .next { s with heap := h, toks := tk }) :
    LoopAtV PR w A h₀ env x body Q E (.ref I) s := by
  refine ⟨I, fp, [I], n, P, St, m, news, J, rfl, W, hLf, ?_, ?_, hst, F, N, h0, ?_, ?_⟩
  · intro b hb; rw [List.mem_singleton.mp hb]; exact hI
  · intro p hp hq; exact hn p hp (List.mem_singleton.mp hq)
  · rintro i v m₁ news₁ s₁ own ⟨hh', tk', rfl⟩ hin hP hJ hoff hown hget hall hst F₁ N₁
    obtain ⟨it, hit', hIt⟩ := hit _ _ hst
    have hmemI := hall I hfI hI _ hit'
    have N₂ : News h₀ env.locals hh' ((I, it) :: news₁) := fun p hp => by
      rcases List.mem_cons.mp hp with rfl | hp
      · exact N₁ _ (List.mem_append_left _ hmemI)
      · exact N₁ _ (List.mem_append_right _ hp)
    refine wpAny_mono (turn i v m₁ news₁ it hh' tk' hin hP hJ hIt F₁ N₂) (fun f s₂ p => ?_) fun _ _ e => e
    have fin : TurnEnd h₀ env.locals I it (J (i + 1)) { s with heap := hh', toks := tk' } s₂ → LoopStepU h₀ env.locals [I] own (J (i + 1)) { s with heap := hh', toks := tk' } .next s₂ := by
      rintro ⟨h', tk, m', all, news', e, F', N', R, ne, j⟩
      have neI : ∀ p ∈ news', p.1 ≠ I := fun p hp q => by
        have h1 := (N' p (R.mem.2 p hp)).1
        have h2 := (N' _ R.mem.1).1
        rw [q] at h1
        exact ne p hp (Option.some.inj (h1.symm.trans h2))
      refine ⟨rfl, h', tk, m', news', e, F', fun p hp => ?_, fun p hp hq => neI p hp (List.mem_singleton.mp hq), j⟩
      rcases List.mem_append.mp hp with hp | hp
      · have h2 : hh'.get? p.1 = some p.2 := hget p hp
        by_cases hq : p.1 = I
        · have h3 : p = (I, it) := by
            rw [hq, hit'] at h2
            exact Prod.ext hq (Option.some.inj h2).symm
          rw [h3]; exact N' _ R.mem.1
        · obtain ⟨o, ho⟩ := hfp p.1 (hown p hp) hq (N₁ _ (List.mem_append_left _ hp)).2.2
          have h3 := (N₁ _ (List.mem_append_right _ (hk _ _ _ hJ _ ho))).1
          rw [h2] at h3
          have h4 : p = (p.1, o) := Prod.ext rfl (Option.some.inj h3)
          rw [h4]; exact N' _ (R.mem.2 _ (hk _ _ _ j _ ho))
      · exact N' p (R.mem.2 p hp)
    cases f with
    | ret v => exact .ret p
    | brk => exact .brk p
    | next => exact .next (fin p)
    | cont => exact .cont (fin p)
  · rintro h' tk m' news' F' N' _ hJ
    exact done h' tk m' news' hJ F' N'

/-- what is said of an iterator: its class, and that it is no record of the machine's -/
def ItOf (T : String) (it : Obj) : Prop := it.cls = .type T ∧ Off it

theorem for_rev {ax I : Addr} {lo : Obj} {vs : List Value} {n : Nat} {k : Int} {m : Str → Option Value} {news all : List (Addr × Obj)} (J : Nat → (Str → Option Value) → List (Addr × Obj) → Prop)
    (hh : A.handled = none) (F : Fr h₀ env.locals s.heap m) (N : News h₀ env.locals s.heap all) (R : Rem (I, revObj ax k) all news) (hne : ∀ p ∈ news, p.2 ≠ revObj ax k) (hm : (ax, lo) ∈ news) (hc : lo.cls = .type "list") (hd : lo.data = .seq vs.toArray n) (hkk : k = (vs.length : Int) - 1)
    (hk : ∀ i m news, J i m news → (ax, lo) ∈ news) (h0 : J 0 m news)
    (turn : ∀ i v m₁ news₁ it h tk, i < vs.length → vs[vs.length - 1 - i]? = some v → J i m₁ news₁ → ItOf "list_reverseiterator" it → Fr h₀ env.locals h (fun y => if y = x then some v else m₁ y) → News h₀ env.locals h ((I, it) :: news₁) →
      wpAny (model PR w) A (execs body env) (TurnPost h₀ env.locals I it (J (i + 1)) { s with heap := h, toks := tk } Q) E { s with heap := h, toks := tk })
    (done : ∀ h tk m₁ news₁, J vs.length m₁ news₁ → Fr h₀ env.locals h m₁ → News h₀ env.locals h news₁ → Q .next { s with heap := h, toks := tk }) :
    wpAny (model PR w) A (pyIter (.ref I)) (fun it s₂ => LoopAtV PR w A h₀ env x body Q E it s₂) E s := by
  have hIx := N _ R.mem.1
  have hax := N _ (R.mem.2 _ hm)
  have hoff : ∀ p ∈ news, p.1 ≠ I := fun p hp q => by
    have h1 := (N p (R.mem.2 p hp)).1
    rw [q, hIx.1] at h1
    exact hne p hp (Option.some.inj h1).symm
  have hl : s.heap.IsList ax vs.toArray := ⟨lo, hax.1, hc, n, hd⟩
  have hnI : ax ≠ I := hoff _ hm
  have hit : s.heap.IsRevIter I ax k := ⟨_, hIx.1, rfl, rfl⟩
  refine wpAny_pyIter_revIter hit ?_
  have W := Walks.listRev (prog := PR) (w := w) hh I ax hnI vs.toArray
  have hlen : vs.toArray.size = vs.length := by simp
  rw [hlen] at W
  refine for_walk J [(ax, lo)] (ItOf "list_reverseiterator") W hIx.2.2 ?_ (.head _) ?_ ?_ ⟨Nat.zero_le _, ?_, hl⟩ F (fun p hp => N p (R.mem.2 p hp)) hoff (fun i m news j p hp => by rw [List.mem_singleton.mp hp]; exact hk i m news j) h0 ?_ done
  · intro hmm
    rcases List.mem_cons.mp hmm with e | hmm
    · exact hIx.2.1 e.symm
    · exact hax.2.1 (List.mem_singleton.mp hmm).symm
  · intro b hb hbI _
    rcases List.mem_cons.mp hb with e | hb
    · exact absurd e hbI
    · exact ⟨lo, by rw [List.mem_singleton.mp hb]; exact .head _⟩
  · rintro i h ⟨_, ⟨o, ho, hc, hd⟩, _⟩
    exact ⟨o, ho, hc, .fields (by rw [hc]; intro h; cases h) hd (by intro q t h; simp [rawInt] at h)⟩
  · rw [← hkk, show k - ((0 : Nat) : Int) = k from by simp]; exact hit
  · intro i v m₁ news₁ it h tk hi hP
    exact turn i v m₁ news₁ it h tk hi (by simpa using hP)

def RRest (w : World) (A : Around) (E : Value → Shared → Prop) (h₀ : Heap) (env : Env) (x : Str) (body : List Stmt) (Q : Flow → Shared → Prop) (s : Shared) (I : Addr) (T : String) (lp : Addr × Obj) : List Value → (Str → Option Value) → List (Addr × Obj) → Prop
  | [], m, news => ∀ h tk, Fr h₀ env.locals h m → News h₀ env.locals h news → Q .next { s with heap := h, toks := tk }
  | v :: r, m, news => ∀ (it : Obj) h tk, ItOf T it → Fr h₀ env.locals h (fun y => if y = x then some v else m y) → News h₀ env.locals h ((I, it) :: news) →
      wpAny (model PR w) A (execs body env) (TurnPost h₀ env.locals I it (fun m' n' => lp ∈ n' ∧ RRest w A E h₀ env x body Q s I T lp r m' n') { s with heap := h, toks := tk } Q) E { s with heap := h, toks := tk }

theorem RRest.nil {I : Addr} {T : String} {lp : Addr × Obj} {m : Str → Option Value} {news : List (Addr × Obj)} (h : ∀ h tk, Fr h₀ env.locals h m → News h₀ env.locals h news → Q .next { s with heap := h, toks := tk }) : RRest w A E h₀ env x body Q s I T lp [] m news := h
theorem RRest.cons {I : Addr} {T : String} {lp : Addr × Obj} {v : Value} {r : List Value} {m : Str → Option Value} {news : List (Addr × Obj)}
    (h : ∀ (it : Obj) h tk, ItOf T it → Fr h₀ env.locals h (fun y => if y = x then some v else m y) → News h₀ env.locals h ((I, it) :: news) →
      wpAny (model PR w) A (execs body env) (TurnPost h₀ env.locals I it (fun m' n' => lp ∈ n' ∧ RRest w A E h₀ env x body Q s I T lp r m' n') { s with heap := h, toks := tk } Q) E { s with heap := h, toks := tk }) : RRest w A E h₀ env x body Q s I T lp (v :: r) m news := h
theorem unr_rev {ax I : Addr} {lo : Obj} {vs : List Value} {n : Nat} {k : Int} {m : Str → Option Value} {news all : List (Addr × Obj)}
    (hh : A.handled = none) (F : Fr h₀ env.locals s.heap m) (N : News h₀ env.locals s.heap all) (R : Rem (I, revObj ax k) all news) (hne : ∀ p ∈ news, p.2 ≠ revObj ax k) (hm : (ax, lo) ∈ news) (hc : lo.cls = .type "list") (hd : lo.data = .seq vs.toArray n) (hkk : k = (vs.length : Int) - 1)
    (rest : RRest w A E h₀ env x body Q s I "list_reverseiterator" (ax, lo) vs.reverse m news) :
    wpAny (model PR w) A (pyIter (.ref I)) (fun it s₂ => LoopAtV PR w A h₀ env x body Q E it s₂) E s := by
  refine for_rev (J := fun i m₁ news₁ => (ax, lo) ∈ news₁ ∧ RRest w A E h₀ env x body Q s I "list_reverseiterator" (ax, lo) (vs.reverse.drop i) m₁ news₁) hh F N R hne hm hc hd hkk (fun i m news j => j.1) ⟨hm, by rw [List.drop_zero]; exact rest⟩ ?_ ?_
  · intro i v m₁ news₁ it h tk hin hP hJ hIt F₁ N₁
    have hdrop : vs.reverse.drop i = v :: vs.reverse.drop (i + 1) := by
      have hlt' : i < vs.reverse.length := by rw [List.length_reverse]; exact hin
      have hv : vs.reverse[i]? = some v := by
        rw [List.getElem?_reverse hin]; exact hP
      rw [List.drop_eq_getElem_cons hlt']
      congr 1
      exact Option.some.inj ((List.getElem?_eq_getElem hlt').symm.trans hv)
    have hJ' := hJ.2
    rw [hdrop] at hJ'
    exact hJ' it h tk hIt F₁ N₁
  · intro h tk m₁ news₁ hJ F₁ N₁
    have z : vs.reverse.drop vs.length = [] := List.drop_of_length_le (by rw [List.length_reverse]; exact Nat.le_refl _)
    have hJ' := hJ.2
    rw [z] at hJ'
    exact hJ' h tk F₁ N₁

theorem for_list {l : Addr} {vs : List Value} {m : Str → Option Value} {news : List (Addr × Obj)} (J : Nat → (Str → Option Value) → List (Addr × Obj) → Prop)
    (hh : A.handled = none) (F : Fr h₀ env.locals s.heap m) (N : News h₀ env.locals s.heap news) (hl : h₀.IsList l vs.toArray) (h0 : J 0 m news)
    (turn : ∀ I i v m₁ news₁ it h tk, i < vs.length → vs[i]? = some v → J i m₁ news₁ → ItOf "list_iterator" it → Fr h₀ env.locals h (fun y => if y = x then some v else m₁ y) → News h₀ env.locals h ((I, it) :: news₁) →
      wpAny (model PR w) A (execs body env) (TurnPost h₀ env.locals I it (J (i + 1)) { s with heap := h, toks := tk } Q) E { s with heap := h, toks := tk })
    (done : ∀ h tk m₁ news₁, J vs.length m₁ news₁ → Fr h₀ env.locals h m₁ → News h₀ env.locals h news₁ → Q .next { s with heap := h, toks := tk }) :
    wpAny (model PR w) A (pyIter (.ref l)) (fun it s₂ => LoopAtV PR w A h₀ env x body Q E it s₂) E s := by
  have hls : s.heap.IsList l vs.toArray := hl.at fun o e => F.keep l o e
  obtain ⟨ol, hol, hr⟩ := id hl
  have hlt : l < s.heap.objs.size := Heap.lt_size (F.keep _ _ hol)
  have hne : l ≠ s.heap.objs.size := Nat.ne_of_lt hlt
  have hlL : env.locals ≠ l := fun q => absurd (Nat.lt_of_lt_of_le (Heap.lt_size hol) F.above) (by rw [q]; exact Nat.lt_irrefl _)
  refine wpAny_pyIter_list hls ?_
  have W := Walks.list (prog := PR) (w := w) hh s.heap.objs.size l hne vs.toArray
  have hlen : vs.toArray.size = vs.length := by simp
  rw [hlen] at W
  refine for_walk (s := { s with heap := s.heap.push _ }) J [] (ItOf "list_iterator") W (next_is_new F) ?_ (.head _) ?_ ?_ ⟨⟨_, Heap.get?_push_size _ rfl, rfl, rfl⟩, hls.push _⟩ (F.push _) (fun p hp => ⟨Heap.get?_push_of_some _ (N p hp).1, (N p hp).2⟩) (fun p hp q => absurd (Heap.lt_size (N p hp).1) (by rw [q]; exact Nat.lt_irrefl _)) (fun i m news j p hp => nomatch hp) h0 ?_ done
  · intro hmm
    rcases List.mem_cons.mp hmm with e | hmm
    · exact absurd F.ns.lt (e ▸ Nat.lt_irrefl _)
    · exact hlL (List.mem_singleton.mp hmm)
  · intro b hb hbI hb0
    rcases List.mem_cons.mp hb with e | hb
    · exact absurd e hbI
    · rw [List.mem_singleton.mp hb, hol] at hb0; cases hb0
  · rintro i h ⟨⟨o, ho, hc, hd⟩, _⟩
    exact ⟨o, ho, hc, .fields (by rw [hc]; intro h; cases h) hd (by intro q t h; simp [rawInt] at h)⟩
  · intro i v m₁ news₁ it h tk hi hP
    exact turn _ i v m₁ news₁ it h tk hi (by simpa using hP)
end
section
variable {w : World} {A : Around} {E : Value → Shared → Prop} {s : Shared} {env : Env} {h₀ : Heap} {x : Str} {body : List Stmt} {Q : Flow → Shared → Prop}
theorem for_range {r : Addr} {a₀ b₀ : Int} {t₀ u₀ v₀ : Tok} {n : Nat} {m : Str → Option Value} {news : List (Addr × Obj)} (J : Nat → (Str → Option Value) → List (Addr × Obj) → Prop)
    (hh : A.handled = none) (hr : IsRange s.heap r a₀ b₀ 1 t₀ u₀ v₀) (hsmall : Builtin.Range.small a₀ b₀ 1 = true) (hn : Builtin.Range.rangeSize a₀ b₀ 1 = (n : Int)) (F : Fr h₀ env.locals s.heap m) (N : News h₀ env.locals s.heap news) (h0 : J 0 m news)
    (turn : ∀ I i t m₁ news₁ it h tk, i < n → J i m₁ news₁ → ItOf "range_iterator" it → Fr h₀ env.locals h (fun y => if y = x then some (.int (a₀ + (i : Int)) t) else m₁ y) → News h₀ env.locals h ((I, it) :: news₁) →
      wpAny (model PR w) A (execs body env) (TurnPost h₀ env.locals I it (J (i + 1)) { s with heap := h, toks := tk } Q) E { s with heap := h, toks := tk })
    (done : ∀ h tk m₁ news₁, J n m₁ news₁ → Fr h₀ env.locals h m₁ → News h₀ env.locals h news₁ → Q .next { s with heap := h, toks := tk }) :
    wpAny (model PR w) A (pyIter (.ref r)) (fun it s₂ => LoopAtV PR w A h₀ env x body Q E it s₂) E s := by
  refine wpAny_pyIter_range hr hsmall ?_
  have W : Walks PR w A s.heap.objs.size [s.heap.objs.size] [s.heap.objs.size] n (fun i v => i < n ∧ ∃ t, v = .int (a₀ + i * 1) t)
      (fun i h => IsRangeIter h s.heap.objs.size (a₀ + (i : Nat) * 1) ((n : Int) - (i : Nat)) 1) := (Walks.range hh _ a₀ 1 n).bound
  refine for_walk (s := { s with heap := s.heap.push _ }) J [] (ItOf "range_iterator") W (next_is_new F) ?_ (.head _) ?_ ?_ (by show IsRangeIter _ _ _ _ _; rw [hn]; simpa using Heap.get?_push_size _ rfl) (F.push _) (fun p hp => ⟨Heap.get?_push_of_some _ (N p hp).1, (N p hp).2⟩) (fun p hp q => absurd (Heap.lt_size (N p hp).1) (by rw [q]; exact Nat.lt_irrefl _)) (fun i m news j p hp => nomatch hp) h0 ?_ done
  · intro hmm
    exact absurd F.ns.lt ((List.mem_singleton.mp hmm) ▸ Nat.lt_irrefl _)
  · intro b hb hbI hb0
    exact absurd (List.mem_singleton.mp hb) hbI
  · intro i h e
    exact ⟨_, e, rfl, .fields (by intro h; cases h) rfl (by intro q t h; simp [rawInt] at h)⟩
  · rintro i v m₁ news₁ it h tk hi ⟨_, t, rfl⟩ hJ hIt F₁ N₁
    rw [Int.mul_one] at F₁
    exact turn _ i t m₁ news₁ it h tk hi hJ hIt F₁ N₁
end
theorem bits_le_abs {a : Int} {k : Nat} (h : a.natAbs < 2 ^ k) : Builtin.Int.intBits a ≤ k := by
  unfold Builtin.Int.intBits
  split
  · exact Nat.zero_le _
  · rename_i h1
    have hne : a.natAbs ≠ 0 := by intro q; apply h1; simp; omega
    exact (Nat.log2_lt hne).mpr h
theorem mul_ok {a b : Int} (h : a.natAbs < 2 ^ 64) : IntMulOk a b := IntMulOk.of_left (bits_le_abs h)
theorem news_tl {g h : Heap} {L : Addr} {x : Addr × Obj} {r : List (Addr × Obj)} (N : News g L h (x :: r)) : News g L h r := fun p hp => N p (.tail _ hp)
theorem fr_know {h₀ h : Heap} {L : Addr} {m : Str → Option Value} {x : Str} {v : Value} (F : Fr h₀ L h m) (e : m x = some v) : Fr h₀ L h (fun z => if z = x then some v else m z) := by
  have : (fun z => if z = x then some v else m z) = m := by
    funext z
    by_cases q : z = x
    · subst q; simp [e]
    · simp [q]
  rw [this]; exact F
theorem ne_tab_it {T : String} {it : Obj} (h : ItOf T it) : it ≠ tabObj #[] := h.2.1 _
theorem ne_ty {o o' : Obj} {T U : String} (h1 : o.cls = .type T) (h2 : o'.cls = .type U) (h : T ≠ U) : o ≠ o' := fun e => h (by rw [e, h2] at h1; exact (Value.type.inj h1).symm)
theorem aps_nil {it : Obj} : ∀ p ∈ ([] : List (Addr × Obj)), p.2 ≠ it := fun _ h => nomatch h
theorem aps_cons {it : Obj} {q : Addr × Obj} {r : List (Addr × Obj)} (h : q.2 ≠ it) (hr : ∀ p ∈ r, p.2 ≠ it) : ∀ p ∈ q :: r, p.2 ≠ it := fun p hp => by
  rcases List.mem_cons.mp hp with rfl | hp
  · exact h
  · exact hr p hp
theorem TL.aps {h₀ : Heap} {it : Obj} {tl : List (Addr × Obj)} (S : TL h₀ tl) (o : Off it) : ∀ p ∈ tl, p.2 ≠ it := fun p hp q => by
  obtain ⟨ps30, ps37, codes, rfl, S⟩ := S
  rcases List.mem_cons.mp hp with rfl | hp
  · exact o.1 _ q.symm
  · rcases List.mem_cons.mp hp with rfl | hp
    · exact o.1 _ q.symm
    · obtain ⟨_, c⟩ := S.cd p hp
      exact o.2 _ (q ▸ c)
theorem ne_it {T : String} {it o : Obj} (h : ItOf T it) (hc : o.cls ≠ .type T) : o ≠ it := fun e => hc (by rw [e]; exact h.1)
theorem ne_it_cell {T : String} {it o : Obj} {v : Option Value} (h : ItOf T it) (hf : ∃ vs, it.data = .fields vs) (hc : o.data = .cell v) : o ≠ it := fun e => by
  obtain ⟨vs, hf⟩ := hf
  rw [e, hf] at hc; cases hc
end
section
theorem nat_and_high (a n : Nat) : a &&& (a / 2 ^ n * 2 ^ n) = a / 2 ^ n * 2 ^ n := by
  apply Nat.eq_of_testBit_eq
  intro i
  rw [Nat.testBit_and, ← Nat.shiftRight_eq_div_pow, ← Nat.shiftLeft_eq, Nat.testBit_shiftLeft, Nat.testBit_shiftRight]
  by_cases h : n ≤ i
  · simp only [h, decide_true, Bool.true_and, Nat.add_sub_cancel' h, Bool.and_self]
  · simp [h]
theorem bitAnd_nat (x y : Int) (hx : 0 ≤ x) (hy : 0 ≤ y) : Builtin.bitAnd x y = ((x.toNat &&& y.toNat : Nat) : Int) := by
  unfold Builtin.bitAnd
  simp [hx, hy]
theorem xor_low (a : Int) (n : Nat) (ha : 0 ≤ a) : Builtin.bitXor a (a.fdiv (2 ^ n) * 2 ^ n) = a - a.fdiv (2 ^ n) * 2 ^ n := by
  obtain ⟨k, rfl⟩ := Int.eq_ofNat_of_zero_le ha
  have e : ((k : Int).fdiv (2 ^ n)) * 2 ^ n = ((k / 2 ^ n * 2 ^ n : Nat) : Int) := by
    rw [Int.fdiv_eq_ediv_of_nonneg _ (by exact Int.le_of_lt (Int.pow_pos (by decide)))]
    simp
  rw [e, bitXor_and, bitAnd_nat _ _ (by omega) (by omega)]
  simp only [Int.toNat_natCast, nat_and_high]
  omega
end
local macro_rules | `(tactic| ktr_rel) => `(tactic| (repeat' (first | exact Cut.here | refine' Cut.cons ?_ ?_ | (refine ne_tab_cls ?_; intro h9; cases h9; done) | (exact ne_tab_cell (by assumption)) | exact ne_tab_it (by assumption))))
local macro_rules | `(tactic| ktr_room) => `(tactic| ((try dsimp only [At, Around.deeper]); omega))
local macro_rules | `(tactic| k_all) => `(tactic| (exact TL.ne (by k_asm) (by assumption) (fun p9 h9 => by repeat (first | exact h9 | refine List.mem_cons_of_mem _ ?_)) (by k_mem) (by first | exact Off.seq rfl | exact Off.rev | exact Off.func rfl | (exact Off.cell (by assumption)))))
local macro_rules | `(tactic| k_offL) => `(tactic| (exact TL.offI (by k_asm) (by assumption) (fun p9 h9 => by repeat (first | exact h9 | refine List.mem_cons_of_mem _ ?_)) (by k_mem) (by first | exact Off.rev | exact Off.seq rfl | (exact Off.cell (by assumption)))))
theorem rows_P2_4 : True := by
  k_with "call builtin:int.bit_length" => (k_here; (refine' bits_to (by with_reducible assumption) ?_; k_whole))
  k_with "call ref" => (k_here; (with_reducible show wpAny _ _ (call (Value.ref 21) _) _ _ _); k_dflt (refine' L_div2n1n (by k_asm) (by k_asm) (by assumption) (by ktr_rel) (by assumption) (by ktr_room) (by omega) (by omega) (by with_reducible assumption) (by with_reducible assumption) (by with_reducible assumption) ?_; k_whole); intro pZ9 hZ9 tkZ9 tqZ9 trZ9 tlZ9 SZ9 f30Z9 f37Z9 FZ9 NZ9 l1Z9; (try (replace f30Z9 := f30Z9 (by assumption))); (try (replace f37Z9 := f37Z9 (by assumption))); (try simp only [List.cons_append, List.nil_append] at NZ9); (try k_lt l1Z9))
  k_with "call ref" => (k_here; (with_reducible show wpAny _ _ (call (Value.ref 35) _) _ _ _); k_dflt (first | (refine' L_int2digits_zero (by k_asm) (by k_asm) (by assumption) (by ktr_rel) (by assumption) (by ktr_room) (by omega) (by omega) (by with_reducible assumption) ?_; k_whole; intro pZ9 hZ9 tkZ9 tlZ9 SZ9 f30Z9 f37Z9 FZ9 NZ9 l1Z9; (try (replace f37Z9 := f37Z9 (by assumption)))) | (refine' L_int2digits_one (by k_asm) (by k_asm) (by assumption) (by ktr_rel) (by assumption) (by ktr_room) (by omega) (by omega) (by omega) (by with_reducible assumption) ?_; k_whole; intro pZ9 hZ9 tkZ9 tqZ9 tlZ9 SZ9 f30Z9 f37Z9 FZ9 NZ9 l1Z9; (try (replace f37Z9 := f37Z9 (by assumption)))) | (refine' L_int2digits_two (by k_asm) (by k_asm) (by assumption) (by ktr_rel) (by assumption) (by ktr_room) (by omega) (by omega) (by omega) (by omega) (by with_reducible assumption) (by with_reducible assumption) (by with_reducible assumption) (by with_reducible assumption) (by omega) (by omega) (by with_reducible assumption) ?_; k_whole; intro pZ9 hZ9 tkZ9 tqZ9 trZ9 tlZ9 SZ9 f30Z9 f37Z9 FZ9 NZ9 l1Z9; (try (replace f37Z9 := f37Z9 (by assumption))))); (try simp only [List.cons_append, List.nil_append] at NZ9); (try k_lt l1Z9))
  k_with "call ref" => (k_here; (with_reducible show wpAny _ _ (call (Value.ref 42) _) _ _ _); k_dflt (first | (refine' L_digits2int_zero (by k_asm) (by k_asm) (by assumption) (by ktr_rel) (by assumption) (by ktr_room) (by omega) (by omega) (by k_mem) ?_; k_whole) | (refine' L_digits2int_one (by k_asm) (by k_asm) (by assumption) (by ktr_rel) (by assumption) (by ktr_room) (by omega) (by omega) (by k_mem) ?_; k_whole) | (refine' L_digits2int_two (by k_asm) (by k_asm) (by assumption) (by ktr_rel) (by assumption) (by ktr_room) (by omega) (by omega) (by k_mem) (by with_reducible assumption) (by with_reducible assumption) (by omega) (by omega) (by with_reducible assumption) ?_; k_whole)); intro hZ9 tkZ9 tZ9 tlZ9 SZ9 f30Z9 f37Z9 FZ9 NZ9; (try (replace f30Z9 := f30Z9 (by assumption))); (try simp only [List.cons_append, List.nil_append] at NZ9))
  trivial
section
theorem divmod_pos_zero {w : World} {mean mg mb} {dp un fr gd} {s : Shared} {Q E : Value → Shared → Prop} {b n : Int} {ta tb : Tok} (G : Good w mean mg mb s.heap)
   (hdp : dp + 12 < 1000) (hb : 0 < b) (hb1 : b < 1000) (hbn : ((Builtin.Int.intBits b : Nat) : Int) = n) (hn : 0 < n) (hn1 : n ≤ 10)
   (hnd : ((Builtin.Int.intBits 0 : Int) + n - 1).fdiv n = 0)
   (ret : ∀ p h' tk tq tr, Ext s.heap h' → Good w mean mg mb h' → Hits h' → s.heap.get? p = none → h'.get? p = some (tupO [.int 0 tq, .int 0 tr]) → Q (.ref p) { s with heap := h', toks := tk }) :
   wpAny (model PR w) (At dp un fr gd) (call (.ref 49) [.int 0 ta, .int b tb]) Q E s := by
  have X := G.g.X
  have T := G.g.T
  have e1 : (0 : Int) * 2 ^ n.toNat = 0 := by omega
  refine wpAny_call ?_
  k_dflt (refine' enter (binds := [(Str.ofString "a", .int 0 ta), (Str.ofString "b", .int b tb)]) ?k1 ?k8 ?k6 ?k7 ?k9 ?kB ?_ ?c2 ?c3 ?c4 ?c5; (case k1 => assumption); (case k6 => k_is); (case k7 => k_is); (case k8 => k_room); (case k9 => exact BindsTo.of_eq rfl); (case c5 => decide); (case kB => exact locs rfl); (case c2 => exact rfl); (case c3 => exact rfl); (case c4 => exact rfl))
  k_whole
  intro L h₁ ps30 ps37 eL hL S F N
  have S0 : TL s.heap (tls ps30 ps37 []) := ⟨_, _, _, rfl, S⟩
  clear S
  generalize tls ps30 ps37 [] = tl0 at N S0
  (try dsimp only); (try k_fold)
  k_steps
  all_goals try k_data
  all_goals (try dsimp only)
  rename Fr _ _ _ _ => F1
  rename News _ _ _ _ => N1
  rename TL _ _ => S1
  k_dflt (refine' unr_rev rfl F1 N1 .here ?hne ?hm ?hc ?hd ?hkk ?rest; (case hm => exact .tail _ (.head _)); (case hc => exact rfl); (case hd => exact rfl); (case hkk => exact rfl))
  case hne => exact aps_cons (ne_ty rfl rfl (by decide)) (aps_cons (ne_ty rfl rfl (by decide)) (TL.aps S1 Off.rev))
  simp only [List.reverse_cons, List.reverse_nil, List.nil_append, List.cons_append]
  clear F1 N1
  refine RRest.nil fun h6 tk6 F6 N6 => ?_
  (try dsimp only)
  k_steps
  rename Fr _ _ _ _ => F9
  rename News _ _ _ _ => N9
  rename TL _ _ => S9
  rename Full30 _ => f30
  rename Full37 _ => f37
  obtain ⟨X9, G9⟩ := Cut.good (by ktr_rel) G F9 N9 S9
  have H9 := Cut.hits (by ktr_rel) F9 N9 S9 f30 f37
  have n9 := nat_ N9 (List.Mem.head _)
  exact ret _ _ _ _ _ X9 G9 H9 (fresh_of n9 G9 (by intro h; cases h)) n9.1
theorem divmod_pos_one {w : World} {mean mg mb} {dp un fr gd} {s : Shared} {Q E : Value → Shared → Prop} {a b n q0 r0 : Int} {ta tb : Tok} (G : Good w mean mg mb s.heap)
   (hdp : dp + 12 < 1000) (hb : 0 < b) (hb1 : b < 1000) (hbn : ((Builtin.Int.intBits b : Nat) : Int) = n) (hn : 0 < n) (hn1 : n ≤ 10) (ha : 0 < a) (ha1 : a < 2 ^ 20)
   (hnd : ((Builtin.Int.intBits a : Int) + n - 1).fdiv n = 1) (hq0 : a.fdiv b = q0) (hr0 : a.fmod b = r0) (hb3 : (Builtin.Int.intBits a : Int) - n ≤ 4000)
   (ret : ∀ p h' tk tq tr, Ext s.heap h' → Good w mean mg mb h' → Hits h' → s.heap.get? p = none → h'.get? p = some (tupO [.int q0 tq, .int r0 tr]) → Q (.ref p) { s with heap := h', toks := tk }) :
   wpAny (model PR w) (At dp un fr gd) (call (.ref 49) [.int a ta, .int b tb]) Q E s := by
  have X := G.g.X
  have T := G.g.T
  have e1 : (0 : Int) * 2 ^ n.toNat = 0 := by omega
  have e2 : (0 : Int) + a = a := by omega
  refine wpAny_call ?_
  k_dflt (refine' enter (binds := [(Str.ofString "a", .int a ta), (Str.ofString "b", .int b tb)]) ?k1 ?k8 ?k6 ?k7 ?k9 ?kB ?_ ?c2 ?c3 ?c4 ?c5; (case k1 => assumption); (case k6 => k_is); (case k7 => k_is); (case k8 => k_room); (case k9 => exact BindsTo.of_eq rfl); (case c5 => decide); (case kB => exact locs rfl); (case c2 => exact rfl); (case c3 => exact rfl); (case c4 => exact rfl))
  k_whole
  intro L h₁ ps30 ps37 eL hL S F N
  have S0 : TL s.heap (tls ps30 ps37 []) := ⟨_, _, _, rfl, S⟩
  clear S
  generalize tls ps30 ps37 [] = tl0 at N S0
  (try dsimp only); (try k_fold)
  k_steps
  all_goals try k_data
  all_goals (try dsimp only)
  rename Fr _ _ _ _ => F1
  rename News _ _ _ _ => N1
  rename TL _ _ => S1
  k_dflt (refine' unr_rev rfl F1 N1 .here ?hne ?hm ?hc ?hd ?hkk ?rest; (case hm => exact .tail _ (.head _)); (case hc => exact rfl); (case hd => exact rfl); (case hkk => exact rfl))
  case hne => exact aps_cons (ne_ty rfl rfl (by decide)) (aps_cons (ne_ty rfl rfl (by decide)) (TL.aps S1 Off.rev))
  simp only [List.reverse_cons, List.reverse_nil, List.nil_append, List.cons_append]
  clear F1 N1
  refine RRest.cons fun it2 h2 tk2 hIt2 F2 N2 => ?_
  k_fold
  k_steps
  rename Fr _ _ _ _ => F3
  rename News _ _ _ _ => N3
  rename TL _ _ => S3
  k_dflt (refine' turn_end F3 N3 ?R ?ne ?J)
  case R => repeat' (first | exact Rem.here | refine' Rem.there ?_)
  case ne => repeat' (first | exact TL.aps S3 hIt2.2 | refine' aps_cons ?_ ?_ | exact ne_ty rfl hIt2.1 (by decide))
  refine ⟨by k_mem, ?_⟩
  clear F3 N3 hIt2
  refine RRest.nil fun h6 tk6 F6 N6 => ?_
  (try dsimp only)
  k_steps
  rename Fr _ _ _ _ => F9
  rename News _ _ _ _ => N9
  rename TL _ _ => S9
  rename Full30 _ => f30
  rename Full37 _ => f37
  obtain ⟨X9, G9⟩ := Cut.good (by ktr_rel) G F9 N9 S9
  have H9 := Cut.hits (by ktr_rel) F9 N9 S9 f30 f37
  have n9 := nat_ N9 (List.Mem.head _)
  exact ret _ _ _ _ _ X9 G9 H9 (fresh_of n9 G9 (by intro h; cases h)) n9.1
theorem divmod_pos_two {w : World} {mean mg mb} {dp un fr gd} {s : Shared} {Q E : Value → Shared → Prop} {a b n u v lo q1 r1 z y q0 r0 v2 k : Int} {ta tb : Tok} (G : Good w mean mg mb s.heap)
   (hdp : dp + 12 < 1000) (hb : 0 < b) (hb1 : b < 1000) (hbn : ((Builtin.Int.intBits b : Nat) : Int) = n) (hn : 0 < n) (hn1 : n ≤ 10) (ha : 0 < a) (ha1 : a < 2 ^ 20)
   (hnd : ((Builtin.Int.intBits a : Int) + n - 1).fdiv n = 2)
   (hu : a.fdiv (2 ^ n.toNat) = u) (hv : u * 2 ^ n.toNat = v) (hlo : Builtin.bitXor a v = lo) (hu1 : 0 ≤ u) (hu2 : u < 2 ^ 20) (hm : IntMulOk 1 n)
   (hq1 : u.fdiv b = q1) (hr1 : u.fmod b = r1) (hz : r1 * 2 ^ n.toNat = z) (hy : z + lo = y) (hq0 : y.fdiv b = q0) (hr0 : y.fmod b = r0) (hv2 : q1 * 2 ^ n.toNat = v2) (hk : v2 + q0 = k)
   (hb3 : (Builtin.Int.intBits u : Int) - n ≤ 4000) (hb4 : (Builtin.Int.intBits y : Int) - n ≤ 4000) (hr11 : 0 ≤ r1) (hr12 : r1 < 1000) (hq11 : 0 ≤ q1) (hq12 : q1 < 2 ^ 20)
   (ret : ∀ p h' tk tq tr, Ext s.heap h' → Good w mean mg mb h' → Hits h' → s.heap.get? p = none → h'.get? p = some (tupO [.int k tq, .int r0 tr]) → Q (.ref p) { s with heap := h', toks := tk }) :
   wpAny (model PR w) (At dp un fr gd) (call (.ref 49) [.int a ta, .int b tb]) Q E s := by
  have X := G.g.X
  have T := G.g.T
  have e1 : (0 : Int) * 2 ^ n.toNat = 0 := by omega
  have e2 : (0 : Int) + u = u := by omega
  refine wpAny_call ?_
  k_dflt (refine' enter (binds := [(Str.ofString "a", .int a ta), (Str.ofString "b", .int b tb)]) ?k1 ?k8 ?k6 ?k7 ?k9 ?kB ?_ ?c2 ?c3 ?c4 ?c5; (case k1 => assumption); (case k6 => k_is); (case k7 => k_is); (case k8 => k_room); (case k9 => exact BindsTo.of_eq rfl); (case c5 => decide); (case kB => exact locs rfl); (case c2 => exact rfl); (case c3 => exact rfl); (case c4 => exact rfl))
  k_whole
  intro L h₁ ps30 ps37 eL hL S F N
  have S0 : TL s.heap (tls ps30 ps37 []) := ⟨_, _, _, rfl, S⟩
  clear S
  generalize tls ps30 ps37 [] = tl0 at N S0
  (try dsimp only); (try k_fold)
  k_steps
  all_goals try k_data
  all_goals (try dsimp only)
  rename Fr _ _ _ _ => F1
  rename News _ _ _ _ => N1
  rename TL _ _ => S1
  k_dflt (refine' unr_rev rfl F1 N1 .here ?hne ?hm ?hc ?hd ?hkk ?rest; (case hm => exact .tail _ (.head _)); (case hc => exact rfl); (case hd => exact rfl); (case hkk => exact rfl))
  case hne => exact aps_cons (ne_ty rfl rfl (by decide)) (aps_cons (ne_ty rfl rfl (by decide)) (TL.aps S1 Off.rev))
  simp only [List.reverse_cons, List.reverse_nil, List.nil_append, List.cons_append]
  clear F1 N1
  refine RRest.cons fun it2 h2 tk2 hIt2 F2 N2 => ?_
  k_fold
  k_steps
  rename Fr _ _ _ _ => F3
  rename News _ _ _ _ => N3
  rename TL _ _ => S3
  k_dflt (refine' turn_end F3 N3 ?R ?ne ?J)
  case R => repeat' (first | exact Rem.here | refine' Rem.there ?_)
  case ne => repeat' (first | exact TL.aps S3 hIt2.2 | refine' aps_cons ?_ ?_ | exact ne_ty rfl hIt2.1 (by decide))
  refine ⟨by k_mem, ?_⟩
  clear F3 N3 hIt2
  refine RRest.cons fun it4 h4 tk4 hIt4 F4 N4 => ?_
  k_fold
  k_steps
  rename Fr _ _ _ _ => F5
  rename News _ _ _ _ => N5
  rename TL _ _ => S5
  k_dflt (refine' turn_end F5 N5 ?R2 ?ne2 ?J2)
  case R2 => repeat' (first | exact Rem.here | refine' Rem.there ?_)
  case ne2 => repeat' (first | exact TL.aps S5 hIt4.2 | refine' aps_cons ?_ ?_ | exact ne_ty rfl hIt4.1 (by decide))
  refine ⟨by k_mem, ?_⟩
  clear F5 N5 hIt4
  refine RRest.nil fun h6 tk6 F6 N6 => ?_
  (try dsimp only)
  k_steps
  rename Fr _ _ _ _ => F9
  rename News _ _ _ _ => N9
  rename TL _ _ => S9
  rename Full30 _ => f30
  rename Full37 _ => f37
  obtain ⟨X9, G9⟩ := Cut.good (by ktr_rel) G F9 N9 S9
  have H9 := Cut.hits (by ktr_rel) F9 N9 S9 f30 f37
  have n9 := nat_ N9 (List.Mem.head _)
  exact ret _ _ _ _ _ X9 G9 H9 (fresh_of n9 G9 (by intro h; cases h)) n9.1
end
section
theorem bits_le {a : Int} {k : Nat} (h0 : 0 ≤ a) (h : a < 2 ^ k) : Builtin.Int.intBits a ≤ k := by
  unfold Builtin.Int.intBits
  split
  · exact Nat.zero_le _
  · rename_i h1
    have hne : a.natAbs ≠ 0 := by intro q; apply h1; simp; omega
    have : a.natAbs < 2 ^ k := by
      have : ((a.natAbs : Nat) : Int) < ((2 ^ k : Nat) : Int) := by rw [Int.natAbs_of_nonneg h0]; simpa using h
      exact Int.ofNat_lt.mp this
    exact (Nat.log2_lt hne).mpr this
theorem bits_gt {a : Int} {k : Nat} (h : 2 ^ k ≤ a) : k < Builtin.Int.intBits a := by
  have h0 : (0 : Int) < 2 ^ k := Int.pow_pos (by decide)
  unfold Builtin.Int.intBits
  rw [if_neg (by simp; omega)]
  have hle : 2 ^ k ≤ a.natAbs := by
    have : ((2 ^ k : Nat) : Int) ≤ ((a.natAbs : Nat) : Int) := by rw [Int.natAbs_of_nonneg (by omega)]; simpa using h
    exact Int.ofNat_le.mp this
  have hne : a.natAbs ≠ 0 := by omega
  exact Nat.lt_succ_of_le ((Nat.le_log2 hne).mpr hle)
theorem fd {a b : Int} (hb : 0 ≤ b) : a.fdiv b = a / b := Int.fdiv_eq_ediv_of_nonneg _ hb
theorem fm {a b : Int} (hb : 0 ≤ b) : a.fmod b = a % b := Int.fmod_eq_emod_of_nonneg _ hb

theorem divmod_pos_ok {w : World} {mean mg mb} {dp un fr gd} {s : Shared} {Q E : Value → Shared → Prop} {a b : Int} {N : Nat} {ta tb : Tok} (G : Good w mean mg mb s.heap)
   (hdp : dp + 12 < 1000) (hb : 0 < b) (hb1 : b < 1000) (hbn : Builtin.Int.intBits b = N) (hn : 0 < N) (hn1 : N ≤ 10) (ha : 0 ≤ a) (ha2 : a < 2 ^ N * 2 ^ N) (hm : IntMulOk 1 N)
   (ret : ∀ p h' tk tq tr, Ext s.heap h' → Good w mean mg mb h' → Hits h' → s.heap.get? p = none → h'.get? p = some (tupO [.int (a.fdiv b) tq, .int (a.fmod b) tr]) → Q (.ref p) { s with heap := h', toks := tk }) :
   wpAny (model PR w) (At dp un fr gd) (call (.ref 49) [.int a ta, .int b tb]) Q E s := by
  have hP : (2 : Int) ^ N ≤ 2 ^ 10 := by
    have h : 2 ^ N ≤ 2 ^ 10 := Nat.pow_le_pow_right (by decide) hn1
    exact_mod_cast h
  have hP0 : (0 : Int) < 2 ^ N := Int.pow_pos (by decide)
  have hN : ((N : Int)).toNat = N := Int.toNat_natCast N
  have hNi : (0 : Int) < N := by omega
  generalize hPe : (2 : Int) ^ N = P at *
  have e10 : (2 : Int) ^ 10 = 1024 := by decide
  rw [e10] at hP
  have ha3 : a < 1024 * 1024 := Int.lt_of_lt_of_le ha2 (Int.mul_le_mul hP hP (by omega) (by decide))
  by_cases h0 : a = 0
  · subst h0
    refine divmod_pos_zero (n := N) G hdp hb hb1 (by rw [hbn]) hNi (by omega) ?_ ?_
    · rw [fd (by omega)]
      have : Builtin.Int.intBits 0 = 0 := rfl
      rw [this]
      exact Int.ediv_eq_zero_of_lt (by omega) (by omega)
    · intro p h' tk tq tr X G' H hp e
      exact ret p h' tk tq tr X G' H hp (by rw [e, Int.zero_fdiv, Int.zero_fmod])
  · by_cases h1 : a < P
    · have b1 : Builtin.Int.intBits a ≤ N := bits_le ha (by rw [hPe]; exact h1)
      have b2 : 0 < Builtin.Int.intBits a := bits_gt (k := 0) (by simp; omega)
      refine divmod_pos_one (n := N) G hdp hb hb1 (by rw [hbn]) hNi (by omega) (by omega) (by omega) ?_ rfl rfl (by omega) ret
      rw [fd (by omega)]
      have : (Builtin.Int.intBits a : Int) + N - 1 = (Builtin.Int.intBits a : Int) - 1 + N * 1 := by omega
      rw [this, Int.add_mul_ediv_left _ _ (by omega), Int.ediv_eq_zero_of_lt (by omega) (by omega)]; rfl
    · have b1 : Builtin.Int.intBits a ≤ N + N := bits_le ha (by rw [Int.pow_add, hPe]; exact ha2)
      have b2 : N < Builtin.Int.intBits a := bits_gt (by rw [hPe]; omega)
      have hu0 : 0 ≤ a.fdiv P := by rw [fd (by omega)]; exact Int.ediv_nonneg ha (by omega)
      have hu1 : a.fdiv P < P := by rw [fd (by omega)]; exact Int.ediv_lt_of_lt_mul hP0 ha2
      have hdecomp : a.fdiv P * P + a % P = a := by rw [fd (by omega), Int.mul_comm]; exact Int.mul_ediv_add_emod a P
      have hlo := xor_low a N ha
      rw [hPe] at hlo
      have hlo2 : a - a.fdiv P * P = a % P := by omega
      have hmp0 : 0 ≤ a % P := Int.emod_nonneg _ (by omega)
      have hmp1 : a % P < P := Int.emod_lt_of_pos _ hP0
      generalize hu : a.fdiv P = u at *
      have hq1' : b * (u.fdiv b) + u.fmod b = u := by rw [fd (by omega), fm (by omega)]; exact Int.mul_ediv_add_emod u b
      have hr10 : 0 ≤ u.fmod b := by rw [fm (by omega)]; exact Int.emod_nonneg _ (by omega)
      have hr11 : u.fmod b < b := by rw [fm (by omega)]; exact Int.emod_lt_of_pos _ hb
      have hq10 : 0 ≤ u.fdiv b := by rw [fd (by omega)]; exact Int.ediv_nonneg hu0 (by omega)
      have hq11 : u.fdiv b ≤ u := by rw [fd (by omega)]; exact Int.ediv_le_self _ hu0
      generalize hq1 : u.fdiv b = q1 at *
      generalize hr1 : u.fmod b = r1 at *
      have hz0 : 0 ≤ r1 * P := Int.mul_nonneg hr10 (by omega)
      have hz1 : r1 * P ≤ 1000 * 1024 := Int.mul_le_mul (by omega) hP (by omega) (by decide)
      have hy0 : 0 ≤ r1 * P + a % P := by omega
      have hy1 : r1 * P + a % P < 2 ^ 21 := by
        have : (2 : Int) ^ 21 = 2097152 := by decide
        omega
      have hq0' : b * ((r1 * P + a % P).fdiv b) + (r1 * P + a % P).fmod b = r1 * P + a % P := by rw [fd (by omega), fm (by omega)]; exact Int.mul_ediv_add_emod _ b
      have hr00 : 0 ≤ (r1 * P + a % P).fmod b := by rw [fm (by omega)]; exact Int.emod_nonneg _ (by omega)
      have hr01 : (r1 * P + a % P).fmod b < b := by rw [fm (by omega)]; exact Int.emod_lt_of_pos _ hb
      have bu : Builtin.Int.intBits u ≤ 10 := bits_le hu0 (by rw [e10]; omega)
      have by' : Builtin.Int.intBits (r1 * P + a % P) ≤ 21 := bits_le hy0 hy1
      generalize hq0 : (r1 * P + a % P).fdiv b = q0 at *
      generalize hr0 : (r1 * P + a % P).fmod b = r0 at *
      have e20 : (2 : Int) ^ 20 = 1048576 := by decide
      have key : a = b * (q1 * P + q0) + r0 := by
        have x1 : (b * q1 + r1) * P + a % P = a := by rw [hq1']; exact hdecomp
        rw [Int.add_mul] at x1
        have x2 : b * (q1 * P + q0) = b * q1 * P + b * q0 := by rw [Int.mul_add, Int.mul_assoc]
        omega
      have hfd : a.fdiv b = q1 * P + q0 := by
        rw [fd (by omega)]
        exact ((Int.ediv_emod_unique hb).mpr ⟨by omega, hr00, hr01⟩).1
      have hfm : a.fmod b = r0 := by
        rw [fm (by omega)]
        exact ((Int.ediv_emod_unique (q := q1 * P + q0) hb).mpr ⟨by omega, hr00, hr01⟩).2
      refine divmod_pos_two (n := N) (u := u) (v := u * P) (lo := a % P) (q1 := q1) (r1 := r1) (z := r1 * P) (y := r1 * P + a % P) (q0 := q0) (r0 := r0) (v2 := q1 * P) (k := q1 * P + q0) G hdp hb hb1 (by rw [hbn]) hNi (by omega) (by omega) (by omega) ?_ (by rw [hN, hPe]; exact hu) (by rw [hN, hPe]) (by rw [hlo]; exact hlo2) hu0 (by omega) hm hq1 hr1 (by rw [hN, hPe]) rfl hq0 hr0 (by rw [hN, hPe]) rfl (by omega) (by omega) hr10 (by omega) hq10 (by omega) ?_
      · rw [fd (by omega)]
        have : (Builtin.Int.intBits a : Int) + N - 1 = ((Builtin.Int.intBits a : Int) - 1 - N) + N * 2 := by omega
        rw [this, Int.add_mul_ediv_left _ _ (by omega), Int.ediv_eq_zero_of_lt (by omega) (by omega)]; rfl
      · rw [← hfd, ← hfm]; exact ret
end
section
/-- the moduli that the law draws -/
def Menu (b : Int) : Prop := b = 11 ∨ b = 13 ∨ b = 101 ∨ b = 997
/-- the numbers that are divided -/
def Div (a b : Int) : Prop := -150 ≤ a ∧ a < 5 * b
theorem Menu.range {b : Int} (h : Menu b) : 0 < b ∧ b < 1000 := by rcases h with rfl | rfl | rfl | rfl <;> decide

theorem pos_menu {w : World} {mean mg mb} {dp un fr gd} {s : Shared} {Q E : Value → Shared → Prop} {a b : Int} {ta tb : Tok} (G : Good w mean mg mb s.heap)
   (hdp : dp + 12 < 1000) (hb : Menu b) (ha : 0 ≤ a) (ha2 : a < 5 * b ∨ a < 200)
   (ret : ∀ p h' tk tq tr, Ext s.heap h' → Good w mean mg mb h' → Hits h' → s.heap.get? p = none → h'.get? p = some (tupO [.int (a.fdiv b) tq, .int (a.fmod b) tr]) → Q (.ref p) { s with heap := h', toks := tk }) :
   wpAny (model PR w) (At dp un fr gd) (call (.ref 49) [.int a ta, .int b tb]) Q E s := by
  rcases hb with rfl | rfl | rfl | rfl
  · exact divmod_pos_ok (N := 4) G hdp (by decide) (by decide) (by decide) (by decide) (by decide) ha (by have : (2 : Int) ^ 4 * 2 ^ 4 = 256 := (by decide); omega) (IntMulOk.of_left (by decide)) ret
  · exact divmod_pos_ok (N := 4) G hdp (by decide) (by decide) (by decide) (by decide) (by decide) ha (by have : (2 : Int) ^ 4 * 2 ^ 4 = 256 := (by decide); omega) (IntMulOk.of_left (by decide)) ret
  · exact divmod_pos_ok (N := 7) G hdp (by decide) (by decide) (by decide) (by decide) (by decide) ha (by have : (2 : Int) ^ 7 * 2 ^ 7 = 16384 := (by decide); omega) (IntMulOk.of_left (by decide)) ret
  · exact divmod_pos_ok (N := 10) G hdp (by decide) (by decide) (by decide) (by decide) (by decide) ha (by have : (2 : Int) ^ 10 * 2 ^ 10 = 1048576 := (by decide); omega) (IntMulOk.of_left (by decide)) ret

section
variable {w : World} {mean : ExcName → Option Value} {mg mb : Str → Option Value} {dp un : Nat} {fr : Option (List Env)} {gd : Option (List Code)} {s : Shared} {Q E : Value → Shared → Prop} {h₀ : Heap} {L : Addr} {m : Str → Option Value} {news own tl : List (Addr × Obj)}
theorem L_divmod_pos {a b q r : Int} {ta tb : Tok} (F : Fr (ghost h₀) L s.heap m) (N : News (ghost h₀) L s.heap news) (S : TL h₀ tl) (C : Cut tl news own) (G : Good w mean mg mb h₀)
   (hdp : dp + 12 < 1000) (hb : Menu b) (ha : 0 ≤ a ∧ (a < 5 * b ∨ a < 200)) (hq : a.fdiv b = q) (hr : a.fmod b = r)
   (ret : ∀ p h' tk tq tr tl', TL h₀ tl' → Full30 tl' → Full37 tl' → Fr (ghost h₀) L h' m → News (ghost h₀) L h' ((p, tupO [.int q tq, .int r tr]) :: (own ++ tl')) → AllNe p news → Q (.ref p) { s with heap := h', toks := tk }) :
   wpAny (model PR w) (At dp un fr gd) (call (.ref 49) [.int a ta, .int b tb]) Q E s := by
  subst hq hr
  refine pos_menu (C.good G F N S).2 hdp hb ha.1 ha.2 fun p h' tk tq tr X9 G9 H9 hp e => ?_
  obtain ⟨tl', S', F', N', f30, f37⟩ := C.after F N S X9 G9
  exact ret p h' tk tq tr tl' S' (f30 (.inr H9.1)) (f37 (.inr H9.2)) F' ((new_at2 F hp e).cons N') (apart_new N hp)
end
end
theorem rows_P3_5 : True := by
  k_with "call ref" => (k_here; (with_reducible show wpAny _ _ (call (Value.ref 49) _) _ _ _); k_dflt (refine' L_divmod_pos (by k_asm) (by k_asm) (by assumption) (by ktr_rel) (by assumption) (by ktr_room) (by with_reducible assumption) (by with_reducible assumption) (by with_reducible assumption) (by with_reducible assumption) ?_; k_whole); intro pZ9 hZ9 tkZ9 tqZ9 trZ9 tlZ9 SZ9 f30Z9 f37Z9 FZ9 NZ9 l1Z9; (try simp only [List.cons_append, List.nil_append] at NZ9); (try simp only [AllNe] at l1Z9))
  trivial
section
theorem int_divmod_nonneg {w : World} {mean mg mb} {dp un fr gd} {s : Shared} {Q E : Value → Shared → Prop} {a b q r : Int} {ta tb : Tok} (G : Good w mean mg mb s.heap)
   (hdp : dp + 14 < 1000) (hb : Menu b) (ha : 0 ≤ a ∧ (a < 5 * b ∨ a < 200)) (hq : a.fdiv b = q) (hr : a.fmod b = r)
   (ret : ∀ p h' tk tq tr, Ext s.heap h' → Good w mean mg mb h' → Hits h' → s.heap.get? p = none → h'.get? p = some (tupO [.int q tq, .int r tr]) → Q (.ref p) { s with heap := h', toks := tk }) :
   wpAny (model PR w) (At dp un fr gd) (call (.ref 56) [.int a ta, .int b tb]) Q E s := by
  have X := G.g.X
  have T := G.g.T
  have hb0 := hb.range.1
  have hb2 := hb.range.2
  have ha0 := ha.1
  refine wpAny_call ?_
  k_dflt (refine' enter (binds := [(Str.ofString "a", .int a ta), (Str.ofString "b", .int b tb)]) ?k1 ?k8 ?k6 ?k7 ?k9 ?kB ?_ ?c2 ?c3 ?c4 ?c5; (case k1 => assumption); (case k6 => k_is); (case k7 => k_is); (case k8 => k_room); (case k9 => exact BindsTo.of_eq rfl); (case c5 => decide); (case kB => exact locs rfl); (case c2 => exact rfl); (case c3 => exact rfl); (case c4 => exact rfl))
  k_whole
  intro L h₁ ps30 ps37 eL hL S F N
  have S0 : TL s.heap (tls ps30 ps37 []) := ⟨_, _, _, rfl, S⟩
  clear S
  generalize tls ps30 ps37 [] = tl0 at N S0
  (try dsimp only); (try k_fold)
  k_steps
  all_goals try k_data
  all_goals (try dsimp only)
  all_goals first | (exfalso; omega) | skip
  rename Fr _ _ _ _ => F9
  rename News _ _ _ _ => N9
  rename TL _ _ => S9
  rename Full30 _ => f30
  rename Full37 _ => f37
  obtain ⟨X9, G9⟩ := Cut.good (by ktr_rel) G F9 N9 S9
  have H9 := Cut.hits (by ktr_rel) F9 N9 S9 f30 f37
  have n9 := nat_ N9 (List.Mem.head _)
  exact ret _ _ _ _ _ X9 G9 H9 (fresh_of n9 G9 (by intro h; cases h)) n9.1

section
variable {w : World} {mean : ExcName → Option Value} {mg mb : Str → Option Value} {dp un : Nat} {fr : Option (List Env)} {gd : Option (List Code)} {s : Shared} {Q E : Value → Shared → Prop} {h₀ : Heap} {L : Addr} {m : Str → Option Value} {news own tl : List (Addr × Obj)}
theorem L_divmod_nonneg {a b q r : Int} {ta tb : Tok} (F : Fr (ghost h₀) L s.heap m) (N : News (ghost h₀) L s.heap news) (S : TL h₀ tl) (C : Cut tl news own) (G : Good w mean mg mb h₀)
   (hdp : dp + 14 < 1000) (hb : Menu b) (ha : 0 ≤ a ∧ (a < 5 * b ∨ a < 200)) (hq : a.fdiv b = q) (hr : a.fmod b = r)
   (ret : ∀ p h' tk tq tr tl', TL h₀ tl' → Full30 tl' → Full37 tl' → Fr (ghost h₀) L h' m → News (ghost h₀) L h' ((p, tupO [.int q tq, .int r tr]) :: (own ++ tl')) → AllNe p news → Q (.ref p) { s with heap := h', toks := tk }) :
   wpAny (model PR w) (At dp un fr gd) (call (.ref 56) [.int a ta, .int b tb]) Q E s := by
  refine int_divmod_nonneg (C.good G F N S).2 hdp hb ha hq hr fun p h' tk tq tr X9 G9 H9 hp e => ?_
  obtain ⟨tl', S', F', N', f30, f37⟩ := C.after F N S X9 G9
  exact ret p h' tk tq tr tl' S' (f30 (.inr H9.1)) (f37 (.inr H9.2)) F' ((new_at2 F hp e).cons N') (apart_new N hp)
end
theorem rows_C5_6 : True := by
  k_with "call ref" => (k_here; (with_reducible show wpAny _ _ (call (Value.ref 56) _) _ _ _); k_dflt (refine' L_divmod_nonneg (by k_asm) (by k_asm) (by assumption) (by ktr_rel) (by assumption) (by ktr_room) (by with_reducible assumption) (by with_reducible assumption) (by with_reducible assumption) (by with_reducible assumption) ?_; k_whole); intro pZ9 hZ9 tkZ9 tqZ9 trZ9 tlZ9 SZ9 f30Z9 f37Z9 FZ9 NZ9 l1Z9; (try simp only [List.cons_append, List.nil_append] at NZ9); (try simp only [AllNe] at l1Z9))
  trivial

theorem int_divmod_neg {w : World} {mean mg mb} {dp un fr gd} {s : Shared} {Q E : Value → Shared → Prop} {a b na q r nq nr k : Int} {ta tb : Tok} (G : Good w mean mg mb s.heap)
   (hdp : dp + 16 < 1000) (hb : Menu b) (ha : a < 0) (hna : Builtin.bitNot a = na) (hna2 : 0 ≤ na ∧ (na < 5 * b ∨ na < 200)) (hq : na.fdiv b = q) (hr : na.fmod b = r) (hnq : Builtin.bitNot q = nq) (hnr : Builtin.bitNot r = nr) (hk : b + nr = k)
   (ret : ∀ p h' tk tq tr, Ext s.heap h' → Good w mean mg mb h' → Hits h' → s.heap.get? p = none → h'.get? p = some (tupO [.int nq tq, .int k tr]) → Q (.ref p) { s with heap := h', toks := tk }) :
   wpAny (model PR w) (At dp un fr gd) (call (.ref 56) [.int a ta, .int b tb]) Q E s := by
  have X := G.g.X
  have T := G.g.T
  have hb0 := hb.range.1
  have hb2 := hb.range.2
  refine wpAny_call ?_
  k_dflt (refine' enter (binds := [(Str.ofString "a", .int a ta), (Str.ofString "b", .int b tb)]) ?k1 ?k8 ?k6 ?k7 ?k9 ?kB ?_ ?c2 ?c3 ?c4 ?c5; (case k1 => assumption); (case k6 => k_is); (case k7 => k_is); (case k8 => k_room); (case k9 => exact BindsTo.of_eq rfl); (case c5 => decide); (case kB => exact locs rfl); (case c2 => exact rfl); (case c3 => exact rfl); (case c4 => exact rfl))
  k_whole
  intro L h₁ ps30 ps37 eL hL S F N
  have S0 : TL s.heap (tls ps30 ps37 []) := ⟨_, _, _, rfl, S⟩
  clear S
  generalize tls ps30 ps37 [] = tl0 at N S0
  (try dsimp only); (try k_fold)
  k_steps
  all_goals try k_data
  all_goals (try dsimp only)
  all_goals first | (exfalso; omega) | skip
  rename Fr _ _ _ _ => F9
  rename News _ _ _ _ => N9
  rename TL _ _ => S9
  rename Full30 _ => f30
  rename Full37 _ => f37
  obtain ⟨X9, G9⟩ := Cut.good (by ktr_rel) G F9 N9 S9
  have H9 := Cut.hits (by ktr_rel) F9 N9 S9 f30 f37
  have n9 := nat_ N9 (List.Mem.head _)
  exact ret _ _ _ _ _ X9 G9 H9 (fresh_of n9 G9 (by intro h; cases h)) n9.1

/-- int_divmod's whole contract -/
theorem int_divmod_ok {w : World} {mean mg mb} {dp un fr gd} {s : Shared} {Q E : Value → Shared → Prop} {a b : Int} {ta tb : Tok} (G : Good w mean mg mb s.heap)
   (hdp : dp + 16 < 1000) (hb : Menu b) (ha : Div a b)
   (ret : ∀ p h' tk tq tr, Ext s.heap h' → Good w mean mg mb h' → Hits h' → s.heap.get? p = none → h'.get? p = some (tupO [.int (a / b) tq, .int (a % b) tr]) → Q (.ref p) { s with heap := h', toks := tk }) :
   wpAny (model PR w) (At dp un fr gd) (call (.ref 56) [.int a ta, .int b tb]) Q E s := by
  have hb0 := hb.range.1
  by_cases h0 : 0 ≤ a
  · exact int_divmod_nonneg G (by omega) hb ⟨h0, .inl ha.2⟩ (fd (by omega)) (fm (by omega)) ret
  · have h1 := ha.1
    have d1 := Int.mul_ediv_add_emod (-a - 1) b
    have d2 := Int.emod_nonneg (-a - 1) (show b ≠ 0 by omega)
    have d3 := Int.emod_lt_of_pos (-a - 1) hb0
    have x : b * (-((-a - 1) / b) - 1) = - (b * ((-a - 1) / b)) - b := by rw [Int.mul_sub, Int.mul_neg, Int.mul_one]
    have u := (Int.ediv_emod_unique (a := a) (q := -((-a - 1) / b) - 1) (r := b + (-((-a - 1) % b) - 1)) hb0).mpr ⟨by omega, by omega, by omega⟩
    refine int_divmod_neg (na := -a - 1) G hdp hb (by omega) rfl ⟨by omega, .inr (by omega)⟩ (fd (by omega)) (fm (by omega)) (nq := a / b) (nr := -((-a - 1) % b) - 1) (k := a % b) ?_ rfl ?_ ret
    · show -((-a - 1) / b) - 1 = a / b
      exact u.1.symm
    · exact u.2.symm
end
section
section
variable {w : World} {mean : ExcName → Option Value} {mg mb : Str → Option Value} {dp un : Nat} {fr : Option (List Env)} {gd : Option (List Code)} {s : Shared} {Q E : Value → Shared → Prop} {h₀ : Heap} {L : Addr} {m : Str → Option Value} {news own tl : List (Addr × Obj)}
theorem L_int_divmod {a b q r : Int} {ta tb : Tok} (F : Fr (ghost h₀) L s.heap m) (N : News (ghost h₀) L s.heap news) (S : TL h₀ tl) (C : Cut tl news own) (G : Good w mean mg mb h₀)
   (hdp : dp + 16 < 1000) (hb : Menu b) (ha : Div a b) (hq : a / b = q) (hr : a % b = r)
   (ret : ∀ p h' tk tq tr tl', TL h₀ tl' → Full30 tl' → Full37 tl' → Fr (ghost h₀) L h' m → News (ghost h₀) L h' ((p, tupO [.int q tq, .int r tr]) :: (own ++ tl')) → AllNe p news → Q (.ref p) { s with heap := h', toks := tk }) :
   wpAny (model PR w) (At dp un fr gd) (call (.ref 56) [.int a ta, .int b tb]) Q E s := by
  subst hq hr
  refine int_divmod_ok (C.good G F N S).2 hdp hb ha fun p h' tk tq tr X9 G9 H9 hp e => ?_
  obtain ⟨tl', S', F', N', f30, f37⟩ := C.after F N S X9 G9
  exact ret p h' tk tq tr tl' S' (f30 (.inr H9.1)) (f37 (.inr H9.2)) F' ((new_at2 F hp e).cons N') (apart_new N hp)
end
end
theorem rows_P4_7 : True := by
  k_with "call ref" => (k_here; (with_reducible show wpAny _ _ (call (Value.ref 56) _) _ _ _); k_dflt (refine' L_int_divmod (by k_asm) (by k_asm) (by assumption) (by ktr_rel) (by assumption) (by ktr_room) (by with_reducible assumption) (by with_reducible assumption) (by with_reducible assumption) (by with_reducible assumption) ?_; k_whole); intro pZ9 hZ9 tkZ9 tqZ9 trZ9 tlZ9 SZ9 f30Z9 f37Z9 FZ9 NZ9 l1Z9; (try simp only [List.cons_append, List.nil_append] at NZ9); (try simp only [AllNe] at l1Z9))
  trivial
section
/-- a stretch told as a number -/
def num (base p : Int) (ns : List Int) : Int := ns.foldl (fun f x => (f * base + x) % p) 0
def Base (base : Int) : Prop := base = 3 ∨ base = 4
theorem num_range {base p : Int} (hp : 0 < p) (ns : List Int) : 0 ≤ num base p ns ∧ num base p ns < p := by
  unfold num
  have : ∀ f, 0 ≤ f ∧ f < p → 0 ≤ ns.foldl (fun f x => (f * base + x) % p) f ∧ ns.foldl (fun f x => (f * base + x) % p) f < p := by
    induction ns with
    | nil => intro f h; exact h
    | cons n r ih => intro f h; exact ih _ ⟨Int.emod_nonneg _ (by omega), Int.emod_lt_of_pos _ hp⟩
  exact this 0 ⟨Int.le_refl _, hp⟩
theorem num_snoc (base p : Int) (ns : List Int) (x : Int) : num base p (ns ++ [x]) = (num base p ns * base + x) % p := by
  unfold num; rw [List.foldl_append]; rfl
theorem num_take {base p : Int} {ns : List Int} {i : Nat} {x : Int} (h : ns[i]? = some x) : num base p (ns.take (i + 1)) = (num base p (ns.take i) * base + x) % p := by
  rw [List.take_add_one, h]; exact num_snoc _ _ _ _

theorem number_ok {w : World} {mean mg mb} {dp un fr gd} {s : Shared} {Q E : Value → Shared → Prop} {l : Addr} {vs : List Value} {ns : List Int} {base p : Int} {tb tp : Tok} (G : Good w mean mg mb s.heap)
   (hdp : dp + 20 < 1000) (hp : Menu p) (hb : Base base) (hl : s.heap.IsList l vs.toArray) (hi : IntsAre vs ns) (hns : ∀ x ∈ ns, 0 ≤ x ∧ x < 3)
   (ret : ∀ h' tk t, Ext s.heap h' → Good w mean mg mb h' → (ns ≠ [] → Hits h') → Q (.int (num base p ns) t) { s with heap := h', toks := tk }) :
   wpAny (model PR w) (At dp un fr gd) (call (.ref 81) [.ref l, .int base tb, .int p tp]) Q E s := by
  have X := G.g.X
  have T := G.g.T
  have hlg : (ghost s.heap).IsList l vs.toArray := G.isList hl
  have hi2 : True ∧ IntsAre vs ns := ⟨trivial, hi⟩
  clear hi
  refine wpAny_call ?_
  k_dflt (refine' enter (binds := [(Str.ofString "piece", .ref l), (Str.ofString "base", .int base tb), (Str.ofString "prime", .int p tp)]) ?k1 ?k8 ?k6 ?k7 ?k9 ?kB ?_ ?c2 ?c3 ?c4 ?c5; (case k1 => assumption); (case k6 => k_is); (case k7 => k_is); (case k8 => k_room); (case k9 => exact BindsTo.of_eq rfl); (case c5 => decide); (case kB => exact locs rfl); (case c2 => exact rfl); (case c3 => exact rfl); (case c4 => exact rfl))
  k_whole
  intro L h₁ ps30 ps37 eL hL S F N
  have S0 : TL s.heap (tls ps30 ps37 []) := ⟨_, _, _, rfl, S⟩
  clear S
  generalize tls ps30 ps37 [] = tl0 at N S0
  (try dsimp only); (try k_fold)
  k_steps
  all_goals try k_data
  all_goals (try dsimp only)
  rename Fr _ _ _ _ => F1
  rename News _ _ _ _ => N1
  k_dflt (refine' For_invVF F1 ?f1 ?f2 ?_; (case f1 => exact rfl); (case f2 => exact rfl))
  k_steps
  obtain ⟨_, hi⟩ := hi2
  have hp0 := hp.range
  k_dflt (refine' for_list (J := fun i m news => ∃ tl t, TL s.heap tl ∧ (i ≠ 0 → Full30 tl ∧ Full37 tl) ∧ m (Str.ofString "base") = some (.int base tb) ∧ m (Str.ofString "prime") = some (.int p tp) ∧ m (Str.ofString "found") = some (.int (num base p (ns.take i)) t) ∧ news = tl) rfl F1 N1 hlg ?h0 ?turn ?done)
  case h0 => exact ⟨_, _, S0, fun h => absurd rfl h, rfl, rfl, rfl, rfl⟩
  case turn =>
    rintro I i v m₁ _ it h tk hi1 hv ⟨tl, t, S1, hf, hm1, hm2, hm3, rfl⟩ hIt F2 N2
    have hlen := hi.length
    obtain ⟨tx, hx⟩ := hi.get i (ns[i]'(by omega)) (List.getElem?_eq_getElem (by omega))
    have hvx := Option.some.inj (hv.symm.trans hx)
    have hnx : ns[i]? = some (ns[i]'(by omega)) := List.getElem?_eq_getElem (by omega)
    have hr := hns _ (List.mem_of_getElem? hnx)
    have hf0 := num_range (base := base) hp0.1 (ns.take i)
    have hstep := num_take (base := base) (p := p) hnx
    generalize ns[i]'(by omega) = x at *
    generalize num base p (ns.take i) = f at *
    subst hvx
    have F3 : Fr (ghost s.heap) L h _ := fr_know (x := Str.ofString "base") (fr_know (x := Str.ofString "prime") (fr_know (x := Str.ofString "found") F2 hm3) hm2) hm1
    have N3 : News (ghost s.heap) L h _ := N2
    obtain ⟨z, hz⟩ : ∃ z, f * base = z := ⟨_, rfl⟩
    obtain ⟨y, hy⟩ : ∃ y, z + x = y := ⟨_, rfl⟩
    have hD : Div y p := by unfold Div; rcases hb with rfl | rfl <;> omega
    obtain ⟨q, hq⟩ : ∃ q, y / p = q := ⟨_, rfl⟩
    obtain ⟨r, hrr⟩ : ∃ r, y % p = r := ⟨_, rfl⟩
    have hmul : IntMulOk f base := IntMulOk.of_left (Nat.le_trans (bits_le (k := 10) hf0.1 (by have : (2 : Int) ^ 10 = 1024 := (by decide); omega)) (by decide))
    rw [hz, hy, hrr] at hstep
    clear F2 N2 F1 N1
    (try k_unmd)
    k_fold
    k_steps
    all_goals try k_data
    rename Fr _ _ _ _ => F9
    rename News _ _ _ _ => N9
    rename TL _ _ => S9
    rename Full30 _ => f30
    rename Full37 _ => f37
    k_dflt (refine' turn_end F9 (news_tl N9) ?R ?ne ?J)
    case R => exact Rem.here
    case ne => exact TL.aps S9 hIt.2
    case J => exact ⟨_, _, S9, fun _ => ⟨f30, f37⟩, rfl, rfl, by rw [hstep]; rfl, rfl⟩
  case done =>
    rintro h tk m₁ _ ⟨tl, t, S1, hf, hm1, hm2, hm3, rfl⟩ F2 N2
    have hlen := hi.length
    rw [hlen, List.take_length] at hm3
    rw [hlen] at hf
    have F3 : Fr (ghost s.heap) L h _ := fr_know (x := Str.ofString "found") F2 hm3
    have N3 : News (ghost s.heap) L h _ := N2
    clear F2 N2 F1 N1
    (try dsimp only)
    k_steps
    all_goals try k_data
    all_goals (try dsimp only)
    rename Fr _ _ _ _ => F9
    rename News _ _ _ _ => N9
    obtain ⟨X9, G9⟩ := Cut.good (by ktr_rel) G F9 N9 S1
    exact ret _ _ _ X9 G9 fun hne => by
      have hl0 : ns.length ≠ 0 := fun q => hne (List.length_eq_zero_iff.mp q)
      exact Cut.hits (by ktr_rel) F9 N9 S1 (hf hl0).1 (hf hl0).2
section
variable {w : World} {mean : ExcName → Option Value} {mg mb : Str → Option Value} {dp un : Nat} {fr : Option (List Env)} {gd : Option (List Code)} {s : Shared} {Q E : Value → Shared → Prop} {h₀ : Heap} {L : Addr} {m : Str → Option Value} {news own tl : List (Addr × Obj)}
theorem L_number {l : Addr} {vs : List Value} {n : Nat} {ns : List Int} {base p k : Int} {tb tp : Tok} (F : Fr (ghost h₀) L s.heap m) (N : News (ghost h₀) L s.heap news) (S : TL h₀ tl) (C : Cut tl news own) (G : Good w mean mg mb h₀)
   (hdp : dp + 20 < 1000) (hp : Menu p) (hb : Base base) (hl : (l, W.listOf vs.toArray n) ∈ news) (hi : IntsAre vs ns) (hns : ∀ x ∈ ns, 0 ≤ x ∧ x < 3) (hk : num base p ns = k)
   (ret : ∀ h' tk t tl', TL h₀ tl' → (Full30 tl ∨ ns ≠ [] → Full30 tl') → (Full37 tl ∨ ns ≠ [] → Full37 tl') → Fr (ghost h₀) L h' m → News (ghost h₀) L h' (own ++ tl') → Q (.int k t) { s with heap := h', toks := tk }) :
   wpAny (model PR w) (At dp un fr gd) (call (.ref 81) [.ref l, .int base tb, .int p tp]) Q E s := by
  subst hk
  refine number_ok (C.good G F N S).2 hdp hp hb ⟨_, (N _ hl).1, rfl, _, rfl⟩ hi hns fun h' tk t X9 G9 H9 => ?_
  obtain ⟨tl', S', F', N', f30, f37⟩ := C.after F N S X9 G9
  exact ret h' tk t tl' S' (fun h => f30 (h.imp id fun h => (H9 h).1)) (fun h => f37 (h.imp id fun h => (H9 h).2)) F' N'
theorem L_number_g {l : Addr} {vs : List Value} {ns : List Int} {base p k : Int} {tb tp : Tok} (F : Fr (ghost h₀) L s.heap m) (N : News (ghost h₀) L s.heap news) (S : TL h₀ tl) (C : Cut tl news own) (G : Good w mean mg mb h₀)
   (hdp : dp + 20 < 1000) (hp : Menu p) (hb : Base base) (hl : (ghost h₀).IsList l vs.toArray) (hi : IntsAre vs ns) (hns : ∀ x ∈ ns, 0 ≤ x ∧ x < 3) (hk : num base p ns = k)
   (ret : ∀ h' tk t tl', TL h₀ tl' → (Full30 tl ∨ ns ≠ [] → Full30 tl') → (Full37 tl ∨ ns ≠ [] → Full37 tl') → Fr (ghost h₀) L h' m → News (ghost h₀) L h' (own ++ tl') → Q (.int k t) { s with heap := h', toks := tk }) :
   wpAny (model PR w) (At dp un fr gd) (call (.ref 81) [.ref l, .int base tb, .int p tp]) Q E s := by
  subst hk
  refine number_ok (C.good G F N S).2 hdp hp hb (hl.at fun o e => F.keep _ o e) hi hns fun h' tk t X9 G9 H9 => ?_
  obtain ⟨tl', S', F', N', f30, f37⟩ := C.after F N S X9 G9
  exact ret h' tk t tl' S' (fun h => f30 (h.imp id fun h => (H9 h).1)) (fun h => f37 (h.imp id fun h => (H9 h).2)) F' N'
end
end
section
/-- the number of a stretch, no modulus -/
def val (base : Int) (ns : List Int) : Int := ns.foldl (fun f x => f * base + x) 0
theorem val_from (base : Int) (ns : List Int) : ∀ f, ns.foldl (fun f x => f * base + x) f = f * base ^ ns.length + val base ns := by
  unfold val
  induction ns with
  | nil => intro f; simp
  | cons n r ih =>
    intro f
    rw [List.foldl_cons, ih, List.foldl_cons, ih (0 * base + n), List.length_cons, Int.pow_succ]
    have : (f * base + n) * base ^ r.length = f * (base ^ r.length * base) + n * base ^ r.length := by rw [Int.add_mul, Int.mul_assoc, Int.mul_comm base]
    rw [this, Int.zero_mul, Int.zero_add]; omega
theorem val_cons (base : Int) (x : Int) (w : List Int) : val base (x :: w) = x * base ^ w.length + val base w := by
  have := val_from base w x
  unfold val at *
  rw [List.foldl_cons, show (0 : Int) * base + x = x by omega]
  exact this
theorem val_append (base : Int) (v w : List Int) : val base (v ++ w) = val base v * base ^ w.length + val base w := by
  unfold val
  rw [List.foldl_append]
  exact val_from base w _
theorem val_snoc (base : Int) (w : List Int) (y : Int) : val base (w ++ [y]) = val base w * base + y := by
  unfold val; rw [List.foldl_append]; rfl
theorem num_val (base p : Int) (ns : List Int) : num base p ns = val base ns % p := by
  have : ∀ f g, f = g % p → ns.foldl (fun f x => (f * base + x) % p) f = ns.foldl (fun f x => f * base + x) g % p := by
    induction ns with
    | nil => intro f g h; exact h
    | cons n r ih =>
      intro f g h
      rw [List.foldl_cons, List.foldl_cons]
      refine ih _ _ ?_
      rw [h, Int.add_emod, Int.mul_emod, Int.emod_emod_of_dvd _ (Int.dvd_refl p), ← Int.mul_emod, ← Int.add_emod]
  exact this 0 0 (by simp)
/-- the next stretch's number out of the one ahead -/
theorem roll_step (base p x y : Int) (w : List Int) : ((num base p (x :: w) - x * base ^ w.length) * base + y) % p = num base p (w ++ [y]) := by
  rw [num_val, num_val, val_snoc, val_cons]
  rw [Int.add_emod, Int.mul_emod, Int.sub_emod, Int.emod_emod_of_dvd _ (Int.dvd_refl p), ← Int.sub_emod, ← Int.mul_emod, ← Int.add_emod]
  congr 3
  omega
def win (n : Nat) (ns : List Int) (k : Nat) : List Int := (ns.drop k).take n
/-- the numbers of all stretches -/
def rolls (base p : Int) (n : Nat) (ns : List Int) : List Int := if ns.length < n then [] else (List.range (ns.length - n + 1)).map fun k => num base p (win n ns k)
theorem win_length {n : Nat} {ns : List Int} {k : Nat} (h : k + n ≤ ns.length) : (win n ns k).length = n := by
  unfold win; rw [List.length_take, List.length_drop]; omega
theorem win_next {n : Nat} {ns : List Int} {k : Nat} {x y : Int} (hn : 0 < n) (hx : ns[k]? = some x) (hy : ns[k + n]? = some y) : ∃ w, win n ns k = x :: w ∧ w.length = n - 1 ∧ win n ns (k + 1) = w ++ [y] := by
  obtain ⟨n', rfl⟩ : ∃ n', n = n' + 1 := ⟨n - 1, by omega⟩
  have hk : k + (n' + 1) < ns.length := (List.getElem?_eq_some_iff.mp hy).1
  have hd : ns.drop k = x :: ns.drop (k + 1) := by
    have hk' : k < ns.length := by omega
    rw [List.drop_eq_getElem_cons hk']
    congr 1
    exact (List.getElem?_eq_some_iff.mp hx).2
  refine ⟨(ns.drop (k + 1)).take n', ?_, ?_, ?_⟩
  · unfold win; rw [hd, List.take_succ_cons]
  · rw [List.length_take, List.length_drop]; omega
  · unfold win
    rw [List.take_add_one, List.getElem?_drop, show k + 1 + n' = k + (n' + 1) by omega, hy]; rfl
theorem rolls_snoc (base p : Int) (n : Nat) (ns : List Int) (i : Nat) : (List.range (i + 1)).map (fun k => num base p (win n ns k)) = (List.range i).map (fun k => num base p (win n ns k)) ++ [num base p (win n ns i)] := by
  rw [List.range_succ, List.map_append]; rfl
theorem num_win_next {base p : Int} {n : Nat} {ns : List Int} {k : Nat} {x y : Int} (hn : 0 < n) (hx : ns[k]? = some x) (hy : ns[k + n]? = some y) :
    ((num base p (win n ns k) - x * base ^ (n - 1)) * base + y) % p = num base p (win n ns (k + 1)) := by
  obtain ⟨w, e1, e2, e3⟩ := win_next hn hx hy
  rw [e1, e3, ← e2]
  exact roll_step base p x y w
end
theorem rows_P5_8 : True := by
  k_with "call ref" => (k_here; (with_reducible show wpAny _ _ (call (Value.ref 81) _) _ _ _); k_dflt (first | (refine' L_number (by k_asm) (by k_asm) (by assumption) (by ktr_rel) (by assumption) (by ktr_room) (by with_reducible assumption) (by with_reducible assumption) (by k_mem) (by with_reducible assumption) (by with_reducible assumption) (by with_reducible assumption) ?_; k_whole) | (refine' L_number_g (by k_asm) (by k_asm) (by assumption) (by ktr_rel) (by assumption) (by ktr_room) (by with_reducible assumption) (by with_reducible assumption) (by with_reducible assumption) (by with_reducible assumption) (by with_reducible assumption) (by with_reducible assumption) ?_; k_whole)); intro hZ9 tkZ9 tZ9 tlZ9 SZ9 f30Z9 f37Z9 FZ9 NZ9; (try simp only [List.cons_append, List.nil_append] at NZ9))
  k_with "pyIter ref" => (k_here; (with_reducible show wpAny _ _ (pyIter (Value.ref _)) (fun it s₂ => LoopAtV _ _ _ _ _ _ _ _ _ it s₂) _ _); refine Locked.out ?_)
  k_with "call type:range" => (k_here; (rename Fr _ _ _ _ => F'); (rename News _ _ _ _ => N'); first | (with_unfolding_all refine range1_rows F' N' ?_; intro _ _ _ _ _ _ _ _ _) | (with_unfolding_all refine range2_rows F' N' ?_; intro _ _ _ _ _ _ _ _ _))
  trivial
theorem rows_P6_9 : True := by
  k_with "subscriptTail Name UnaryOp ref int" => (k_here; (with_reducible show wpAny _ _ (subscriptTail _ _ (Value.ref _) (Value.int _ _)) _ _ _); k_dflt (first | (refine' item_at (by k_asm) (by with_reducible assumption) (by (first | decide | omega)) (by (first | decide | omega)) (by with_reducible assumption) ?_ (by with_unfolding_all rfl); k_whole) | (refine' item_last (by k_asm) (by k_mem) (by with_reducible assumption) ?_ (by with_unfolding_all rfl); k_whole) | (refine' item_own (by k_asm) (by k_mem) (by (first | decide | omega)) (by (first | decide | omega)) (by with_reducible assumption) ?_ (by with_unfolding_all rfl); k_whole)))
  k_with "subscriptTail Name BinOp ref int" => (k_here; (with_reducible show wpAny _ _ (subscriptTail _ _ (Value.ref _) (Value.int _ _)) _ _ _); k_dflt (first | (refine' item_at (by k_asm) (by with_reducible assumption) (by (first | decide | omega)) (by (first | decide | omega)) (by with_reducible assumption) ?_ (by with_unfolding_all rfl); k_whole) | (refine' item_last (by k_asm) (by k_mem) (by with_reducible assumption) ?_ (by with_unfolding_all rfl); k_whole) | (refine' item_own (by k_asm) (by k_mem) (by (first | decide | omega)) (by (first | decide | omega)) (by with_reducible assumption) ?_ (by with_unfolding_all rfl); k_whole)))
  k_with "subscriptTail Name Name ref int" => (k_here; (with_reducible show wpAny _ _ (subscriptTail _ _ (Value.ref _) (Value.int _ _)) _ _ _); k_dflt (first | (refine' item_at (by k_asm) (by with_reducible assumption) (by (first | decide | omega)) (by (first | decide | omega)) (by with_reducible assumption) ?_ (by with_unfolding_all rfl); k_whole) | (refine' item_last (by k_asm) (by k_mem) (by with_reducible assumption) ?_ (by with_unfolding_all rfl); k_whole) | (refine' item_own (by k_asm) (by k_mem) (by (first | decide | omega)) (by (first | decide | omega)) (by with_reducible assumption) ?_ (by with_unfolding_all rfl); k_whole)))
  trivial
section
theorem news_drop2 {g h : Heap} {L : Addr} {a b c : Addr × Obj} {r : List (Addr × Obj)} (N : News g L h (a :: b :: c :: r)) : News g L h (b :: r) := fun p hp => N p (by
  rcases List.mem_cons.mp hp with rfl | hp
  · exact .tail _ (.head _)
  · exact .tail _ (.tail _ (.tail _ hp)))
theorem news_ne {g h : Heap} {L a b : Addr} {o o' : Obj} {news : List (Addr × Obj)} (N : News g L h news) (ha : (a, o) ∈ news) (hb : (b, o') ∈ news) (hne : o ≠ o') : a ≠ b := fun q => by
  subst q
  exact hne (Option.some.inj ((N _ ha).1.symm.trans (N _ hb).1))
theorem idx_two {i n l : Nat} (h : i < l - n) : i < l ∧ i + n < l := by omega
theorem idx_ints {i : Nat} {long k j : Int} (h1 : 1 ≤ long) (h3 : long ≤ 3) (hi : i < 100) (hk : long + (i : Int) = k) (hj : k - long = j) : j.toNat = i ∧ k.toNat = i + long.toNat ∧ 0 ≤ j ∧ 0 ≤ k ∧ j < 2 ^ 63 ∧ k < 2 ^ 63 := by
  have : (2 : Int) ^ 63 = 9223372036854775808 := by decide
  refine ⟨?_, ?_, ?_, ?_, ?_, ?_⟩ <;> omega
theorem div_step {base p f x top z1 z2 z3 z4 y : Int} (hb : Base base) (ht : 0 ≤ top ∧ top ≤ 16) (hx : 0 ≤ x ∧ x < 3) (hf : 0 ≤ f ∧ f < p) (hy : 0 ≤ y ∧ y < 3) (hp : 0 < p ∧ p < 1000) (hz1 : x * top = z1) (hz2 : f - z1 = z2) (hz3 : z2 * base = z3) (hz4 : z3 + y = z4) : Div z4 p ∧ x.natAbs < 2 ^ 64 ∧ z2.natAbs < 2 ^ 64 := by
  have hz1r : 0 ≤ z1 ∧ z1 ≤ 32 := by
    have : x = 0 ∨ x = 1 ∨ x = 2 := by omega
    rcases this with rfl | rfl | rfl <;> omega
  clear hz1 ht
  refine ⟨?_, by omega, by omega⟩
  unfold Div
  rcases hb with rfl | rfl <;> omega
theorem rolled_ok {w : World} {mean mg mb} {dp un fr gd} {s : Shared} {Q E : Value → Shared → Prop} {l : Addr} {vs : List Value} {ns : List Int} {long base p : Int} {tl' tb tp : Tok} (G : Good w mean mg mb s.heap)
   (hdp : dp + 24 < 1000) (hp : Menu p) (hb : Base base) (hl1 : 1 ≤ long) (hl3 : long ≤ 3) (hl : s.heap.IsList l vs.toArray) (hi : IntsAre vs ns) (hns : ∀ x ∈ ns, 0 ≤ x ∧ x < 3) (hlen : ns.length < 100)
   (ret : ∀ D h' tk arr cnt, Ext s.heap h' → Good w mean mg mb h' → (rolls base p long.toNat ns ≠ [] → Hits h') → s.heap.get? D = none → h'.get? D = some (W.listOf arr cnt) → IntsAre arr.toList (rolls base p long.toNat ns) → Q (.ref D) { s with heap := h', toks := tk }) :
   wpAny (model PR w) (At dp un fr gd) (call (.ref 88) [.ref l, .int long tl', .int base tb, .int p tp]) Q E s := by
  have X := G.g.X
  have T := G.g.T
  have hlg : (ghost s.heap).IsList l vs.toArray := G.isList hl
  have hns1 : ∀ x ∈ List.take long.toNat ns, 0 ≤ x ∧ x < 3 := fun x hx => hns x (List.mem_of_mem_take hx)
  have hl3b : True ∧ long ≤ 3 := ⟨trivial, hl3⟩
  clear hl3
  obtain ⟨r0, hr0⟩ : ∃ r0, num base p (List.take long.toNat ns) = r0 := ⟨_, rfl⟩
  obtain ⟨l1, hl1e⟩ : ∃ l1, long - 1 = l1 := ⟨_, rfl⟩
  obtain ⟨top, htop⟩ : ∃ top, base ^ l1.toNat = top := ⟨_, rfl⟩
  have hbs : base.natAbs < 2 ^ 64 := by rcases hb with rfl | rfl <;> decide
  refine wpAny_call ?_
  k_dflt (refine' enter (binds := [(Str.ofString "row", .ref l), (Str.ofString "long", .int long tl'), (Str.ofString "base", .int base tb), (Str.ofString "prime", .int p tp)]) ?k1 ?k8 ?k6 ?k7 ?k9 ?kB ?_ ?c2 ?c3 ?c4 ?c5; (case k1 => assumption); (case k6 => k_is); (case k7 => k_is); (case k8 => k_room); (case k9 => exact BindsTo.of_eq rfl); (case c5 => decide); (case kB => exact locs rfl); (case c2 => exact rfl); (case c3 => exact rfl); (case c4 => exact rfl))
  k_whole
  intro L h₁ ps30 ps37 eL hL S F N
  have S0 : TL s.heap (tls ps30 ps37 []) := ⟨_, _, _, rfl, S⟩
  clear S
  generalize tls ps30 ps37 [] = tl0 at N S0
  (try dsimp only); (try k_fold)
  k_steps
  all_goals try k_data
  all_goals (try dsimp only)
  · have hlt : ns.length < long.toNat := by omega
    rename Fr _ _ _ _ => F9
    rename News _ _ _ _ => N9
    obtain ⟨X9, G9⟩ := Cut.good (by ktr_rel) G F9 N9 S0
    have n9 := nat_ N9 (List.Mem.head _)
    have e9 : rolls base p long.toNat ns = [] := by unfold rolls; rw [if_pos hlt]
    exact ret _ _ _ _ _ X9 G9 (fun h => absurd e9 h) (fresh_of n9 G9 (by intro h; cases h)) n9.1 (by rw [e9]; exact .nil)
  · refine Locked.mk ?_
    rename Fr _ _ _ _ => F1
    rename News _ _ _ _ => N1
    rename TL _ _ => S1
    rename (Full30 _ ∨ _ → Full30 _) => f30
    rename (Full37 _ ∨ _ → Full37 _) => f37
    rename IsRange _ _ _ _ _ _ _ _ => hR
    rename (¬ (_ : Int) < _) => hge
    have hlen0 := hi.length
    have hp0 := hp.range
    have hl3 := hl3b.2
    have htop2 : 0 ≤ top ∧ top ≤ 16 := by
      have : l1 = 0 ∨ l1 = 1 ∨ l1 = 2 := by omega
      subst htop
      rcases hb with rfl | rfl <;> rcases this with rfl | rfl | rfl <;> decide
    have hwin0 : num base p (win long.toNat ns 0) = r0 := hr0
    have hn0 : Builtin.Range.rangeSize long (ns.length : Int) 1 = ((ns.length - long.toNat : Nat) : Int) := by rw [rangeSize_nat]; congr 1; omega
    have hl1n : l1.toNat = long.toNat - 1 := by omega
    clear hr0
    k_dflt (refine' for_range (n := ns.length - long.toNat) (J := fun i m news => ∃ tl lst arr cnt tt, TL s.heap tl ∧ Full30 tl ∧ Full37 tl ∧ m (Str.ofString "row") = some (.ref l) ∧ m (Str.ofString "long") = some (.int long tl') ∧ m (Str.ofString "base") = some (.int base tb) ∧ m (Str.ofString "prime") = some (.int p tp) ∧ m (Str.ofString "found") = some (.ref lst) ∧ m (Str.ofString "top") = some (.int top tt) ∧ news = (lst, W.listOf arr cnt) :: tl ∧ IntsAre arr.toList ((List.range (i + 1)).map fun k => num base p (win long.toNat ns k))) rfl hR ?hsmall hn0 F1 (news_drop2 N1) ?h0 ?turn ?done)
    case hsmall => exact small_one (by omega) (by omega) (by omega) (by omega)
    case h0 =>
      have hne0 : List.take long.toNat ns ≠ [] := fun q => by
        have : (List.take long.toNat ns).length = 0 := by rw [q]; rfl
        rw [List.length_take] at this; omega
      exact ⟨_, _, _, _, _, S1, f30 (.inr hne0), f37 (.inr hne0), rfl, rfl, rfl, rfl, rfl, rfl, rfl, by
        show IntsAre [_] [num base p (win long.toNat ns 0)]
        rw [hwin0]
        exact .cons _ _ .nil⟩
    case turn =>
      rintro I i t m₁ _ it h tk hi1 ⟨tl, lst, arr, cnt, tt, S2, g30, g37, hm1, hm2, hm3, hm4, hm5, hm6, rfl, hA⟩ hIt F2 N2
      have hij := idx_two hi1
      obtain ⟨x, hxn⟩ : ∃ x, ns[i]? = some x := ⟨_, List.getElem?_eq_getElem hij.1⟩
      obtain ⟨y, hyn⟩ : ∃ y, ns[i + long.toNat]? = some y := ⟨_, List.getElem?_eq_getElem hij.2⟩
      obtain ⟨tx, hxv⟩ := hi.get _ _ hxn
      obtain ⟨ty, hyv⟩ := hi.get _ _ hyn
      have hrx := hns _ (List.mem_of_getElem? hxn)
      have hry := hns _ (List.mem_of_getElem? hyn)
      have hstep := num_win_next (base := base) (p := p) (by omega) hxn hyn
      have hf0 := num_range (base := base) hp0.1 (win long.toNat ns i)
      have hsz : arr.size = i + 1 := by have := hA.length; simpa using this
      obtain ⟨tf, hlast⟩ := hA.get i (num base p (win long.toNat ns i)) (by simp)
      have hlast2 : arr[arr.size - 1]? = some (.int (num base p (win long.toNat ns i)) tf) := by rw [hsz]; simpa using hlast
      have hsnoc := rolls_snoc base p long.toNat ns (i + 1)
      obtain ⟨k, hk⟩ : ∃ k, long + (i : Int) = k := ⟨_, rfl⟩
      obtain ⟨j, hj⟩ : ∃ j, k - long = j := ⟨_, rfl⟩
      obtain ⟨hja, hka, hj0, hk0, hj1, hk1⟩ := idx_ints hl1 hl3 (Nat.lt_trans hij.1 hlen) hk hj
      have hxv2 : vs[j.toNat]? = some (.int x tx) := by rw [hja]; exact hxv
      have hyv2 : vs[k.toNat]? = some (.int y ty) := by rw [hka]; exact hyv
      clear hja hka hij
      rw [hk] at F2
      rw [← hl1n, htop] at hstep
      generalize num base p (win long.toNat ns (i + 1)) = g at *
      generalize num base p (win long.toNat ns i) = f at *
      obtain ⟨z1, hz1⟩ : ∃ z1, x * top = z1 := ⟨_, rfl⟩
      obtain ⟨z2, hz2⟩ : ∃ z2, f - z1 = z2 := ⟨_, rfl⟩
      obtain ⟨z3, hz3⟩ : ∃ z3, z2 * base = z3 := ⟨_, rfl⟩
      obtain ⟨z4, hz4⟩ : ∃ z4, z3 + y = z4 := ⟨_, rfl⟩
      rw [hz1, hz2, hz3, hz4] at hstep
      obtain ⟨hD, hnx, hnz⟩ := div_step hb htop2 hrx hf0 hry hp0 hz1 hz2 hz3 hz4
      have hmul1 : IntMulOk x top := mul_ok hnx
      have hmul2 : IntMulOk z2 base := mul_ok hnz
      obtain ⟨q, hq⟩ : ∃ q, z4 / p = q := ⟨_, rfl⟩
      have F3 : Fr (ghost s.heap) L h _ := fr_know (x := Str.ofString "row") (fr_know (x := Str.ofString "long") (fr_know (x := Str.ofString "base") (fr_know (x := Str.ofString "prime") (fr_know (x := Str.ofString "found") (fr_know (x := Str.ofString "top") F2 hm6) hm5) hm4) hm3) hm2) hm1
      have N3 : News (ghost s.heap) L h _ := N2
      have hpush : ∀ t, IntsAre (arr.push (.int g t)).toList ((List.range (i + 1 + 1)).map fun k => num base p (win long.toNat ns k)) := fun t => by rw [hsnoc]; exact intsAre_push hA
      have hneI : I ≠ lst := news_ne N2 (.head _) (.tail _ (.head _)) (ne_ty hIt.1 rfl (by decide))
      have hsize : arr.size ≤ sizeLine := by rw [hsz]; exact Nat.le_trans (by omega : i + 1 ≤ 200) (by decide)
      clear F2 N2 F1 N1 hR S1 f30 f37 S0 hwin0 hi hxv hyv hxn hyn hi1 hA hlast hsz hk hn0 htop htop2 hl1n hge hlen hl3b hl3 hl1 hlen0
      (try k_unmd)
      k_fold
      k_steps
      all_goals try k_data
      rename Fr _ _ _ _ => F9
      rename News _ _ _ _ => N9
      rename TL _ _ => S9
      rename Full30 _ => f30
      rename Full37 _ => f37
      k_dflt (refine' turn_end F9 (news_tl N9) ?Rr ?ne ?J)
      case Rr => exact Rem.here
      case ne => exact aps_cons (ne_ty rfl hIt.1 (by decide)) (TL.aps S9 hIt.2)
      case J => exact ⟨_, _, _, _, _, S9, f30, f37, rfl, rfl, rfl, rfl, rfl, rfl, rfl, hpush _⟩
    case done =>
      rintro h tk m₁ _ ⟨tl, lst, arr, cnt, tt, S2, g30, g37, hm1, hm2, hm3, hm4, hm5, hm6, rfl, hA⟩ F2 N2
      have F3 : Fr (ghost s.heap) L h _ := fr_know (x := Str.ofString "found") F2 hm5
      have N3 : News (ghost s.heap) L h _ := N2
      clear F2 N2 F1 N1 hR
      (try dsimp only)
      k_steps
      all_goals try k_data
      all_goals (try dsimp only)
      obtain ⟨X9, G9⟩ := Cut.good (by ktr_rel) G F3 N3 S2
      have n9 := nat_ N3 (List.Mem.head _)
      have e9 : rolls base p long.toNat ns = (List.range (ns.length - long.toNat + 1)).map fun k => num base p (win long.toNat ns k) := by unfold rolls; rw [if_neg (by omega)]
      exact ret _ _ _ _ _ X9 G9 (fun _ => Cut.hits (by ktr_rel) F3 N3 S2 g30 g37) (fresh_of n9 G9 (by intro h; cases h)) n9.1 (by rw [e9]; exact hA)
section
variable {w : World} {mean : ExcName → Option Value} {mg mb : Str → Option Value} {dp un : Nat} {fr : Option (List Env)} {gd : Option (List Code)} {s : Shared} {Q E : Value → Shared → Prop} {h₀ : Heap} {L : Addr} {m : Str → Option Value} {news own tl : List (Addr × Obj)}
theorem L_rolled {l : Addr} {vs : List Value} {n : Nat} {ns rs : List Int} {long base p : Int} {t0 tb tp : Tok} (F : Fr (ghost h₀) L s.heap m) (N : News (ghost h₀) L s.heap news) (S : TL h₀ tl) (C : Cut tl news own) (G : Good w mean mg mb h₀)
   (hdp : dp + 24 < 1000) (hp : Menu p) (hb : Base base) (hl1 : 1 ≤ long) (hl3 : long ≤ 3) (hl : (l, W.listOf vs.toArray n) ∈ news) (hi : IntsAre vs ns) (hns : ∀ x ∈ ns, 0 ≤ x ∧ x < 3) (hlen : ns.length < 100) (hk : rolls base p long.toNat ns = rs)
   (ret : ∀ D h' tk arr cnt tl', IntsAre arr.toList rs → TL h₀ tl' → (Full30 tl ∨ rs ≠ [] → Full30 tl') → (Full37 tl ∨ rs ≠ [] → Full37 tl') → Fr (ghost h₀) L h' m → News (ghost h₀) L h' ((D, W.listOf arr cnt) :: (own ++ tl')) → AllNe D news → Q (.ref D) { s with heap := h', toks := tk }) :
   wpAny (model PR w) (At dp un fr gd) (call (.ref 88) [.ref l, .int long t0, .int base tb, .int p tp]) Q E s := by
  subst hk
  refine rolled_ok (C.good G F N S).2 hdp hp hb hl1 hl3 ⟨_, (N _ hl).1, rfl, _, rfl⟩ hi hns hlen fun D h' tk arr cnt X9 G9 H9 hD e hA => ?_
  obtain ⟨tl', S', F', N', f30, f37⟩ := C.after F N S X9 G9
  exact ret D h' tk arr cnt tl' hA S' (fun h => f30 (h.imp id fun h => (H9 h).1)) (fun h => f37 (h.imp id fun h => (H9 h).2)) F' ((new_at2 F hD e).cons N') (apart_new N hD)
end
end
section
section
variable {w : World} {A : Around} {s : Shared} {x y : Addr} {ox oy : Obj} {a b c d : Int} {ta tb tc td : Tok} {n k : Nat}
/-- pairs in order -/
def PLt (p q : Int × Int) : Prop := p.1 < q.1 ∨ (p.1 = q.1 ∧ p.2 < q.2)
def decPLt (p q : Int × Int) : Decidable (PLt p q) := inferInstanceAs (Decidable (p.1 < q.1 ∨ (p.1 = q.1 ∧ p.2 < q.2)))
theorem lt_pair_tree {E : Value → Shared → Prop} {P : PySem.Fin → Shared → Prop} (hx : s.heap.get? x = some ox) (dx : ox.data = .seq #[.int a ta, .int b tb] n) (hy : s.heap.get? y = some oy) (cy : oy.cls = .type "tuple") (dy : oy.data = .seq #[.int c tc, .int d td] k)
    (h : P (.done (.ret (.bool (@decide (PLt (a, b) (c, d)) (decPLt (a, b) (c, d)))))) s) : wpAny (model PR w) A (Builtin.«tuple.__lt__» ⟨[.ref x, .ref y], []⟩) P E s := by
  have hTy : s.TypeIs (.ref y) "tuple" := ⟨_, hy, cy⟩
  show wpAny _ _ (isInstance (.ref y) (.type "tuple") >>= _) _ _ s
  refine wpAny_bind (wpAny_isInstance hTy isSubtype_tuple_tuple ?_)
  simp only [Bool.not_true, Bool.false_eq_true, if_false]
  refine wpAny_bind (wpAny_tupleItemsOf hx dx ?_)
  refine wpAny_bind (wpAny_tupleItemsOf hy dy ?_)
  refine wpAny_bind ?_
  show wpAny _ _ (forIn [(Value.int a ta, Value.int c tc), (Value.int b tb, Value.int d td)] _ _) _ _ s
  rw [List.forIn_cons]
  refine wpAny_bind (wpAny_bind (wpAny_eqBool_int ?_))
  by_cases h1 : a = c
  · subst h1
    rw [beq_self_eq_true]
    simp only [Bool.not_true, Bool.false_eq_true, if_false]
    refine wpAny_pure ?_
    dsimp only
    rw [List.forIn_cons]
    refine wpAny_bind (wpAny_bind (wpAny_eqBool_int ?_))
    by_cases h2 : b = d
    · subst h2
      rw [beq_self_eq_true]
      simp only [Bool.not_true, Bool.false_eq_true, if_false]
      refine wpAny_pure ?_
      dsimp only
      rw [List.forIn_nil]
      refine wpAny_pure ?_
      refine wpAny_pure ?_
      have e : @decide (PLt (a, b) (a, b)) (decPLt (a, b) (a, b)) = false := by simp [PLt]
      rw [e] at h
      exact h
    · have e2 : (b == d) = false := by simpa using h2
      rw [e2]
      simp only [Bool.not_false, if_true]
      refine wpAny_bind (wpAny_rule ?_)
      refine wpAny_bind (show wpAny (model PR w) A (compareOp .Lt (.int b tb) (.int d td)) _ E s from PyProof.Rows.lt_int ?_)
      have e : @decide (PLt (a, b) (a, d)) (decPLt (a, b) (a, d)) = decide (b < d) := by simp [PLt]
      rw [e] at h
      exact wpAny_bind (wpAny_pure (wpAny_pure (wpAny_pure (wpAny_pure h))))
  · have e2 : (a == c) = false := by simpa using h1
    rw [e2]
    simp only [Bool.not_false, if_true]
    refine wpAny_bind (wpAny_rule ?_)
    refine wpAny_bind (show wpAny (model PR w) A (compareOp .Lt (.int a ta) (.int c tc)) _ E s from PyProof.Rows.lt_int ?_)
    have e : @decide (PLt (a, b) (c, d)) (decPLt (a, b) (c, d)) = decide (a < c) := by simp [PLt, h1]
    rw [e] at h
    exact wpAny_bind (wpAny_pure (wpAny_pure (wpAny_pure (wpAny_pure h))))
theorem lt_pair {Q E : Value → Shared → Prop} {r : Bool} (hu : A.units < cLine) (hx : s.heap.get? x = some ox) (cx : ox.cls = .type "tuple") (dx : ox.data = .seq #[.int a ta, .int b tb] n) (hy : s.heap.get? y = some oy) (cy : oy.cls = .type "tuple") (dy : oy.data = .seq #[.int c tc, .int d td] k)
    (hr : @decide (PLt (a, b) (c, d)) (decPLt (a, b) (c, d)) = r) (h : Q (.bool r) s) : wpAny (model PR w) A (compareOp .Lt (.ref x) (.ref y)) Q E s := by
  subst hr
  have hTx : s.TypeIs (.ref x) "tuple" := ⟨_, hx, cx⟩
  have hTy : s.TypeIs (.ref y) "tuple" := ⟨_, hy, cy⟩
  show wpAny _ _ (richCompare .Lt (.ref x) (.ref y)) _ _ _
  exact wpAny_richCompare_same_room (op := .Lt) hTx hTy F.slot_tuple_lt (wpAny_call_entry F.slot_tuple_lt hTx F.entry_tuple_lt (lt_pair_tree hx dx hy cy dy ⟨_, rfl, (fun e => nomatch e), h⟩) (F.args_tuple_lt_2 _ _)) hu
end
end
section
theorem ns_key {h : Heap} {D : Addr} {oD : Obj} {hh : Int} {t : Tok} (hD : h.get? D = some oD) (dD : oD.data = .dict #[⟨hh, .str (Str.ofString "key") t, .none⟩] 1) : h.Ns D (fun y => nsFind #[⟨hh, .str (Str.ofString "key") t, .none⟩] y) :=
  ⟨oD, _, _, hD, dD, by
    intro e he
    simp at he
    subst he
    exact ⟨_, _, rfl⟩, fun _ => rfl⟩
theorem wp_no {α : Type} {M : Model} {A : Around} {E : Value → Shared → Prop} {s : Shared} {Q : α → Shared → Prop} {c : Prop} [Decidable c] {a b : Sem α} (hc : ¬c) (h : wpAny M A b Q E s) : wpAny M A (if c then a else b) Q E s := by rw [if_neg hc]; exact h
theorem wp_yes {α : Type} {M : Model} {A : Around} {E : Value → Shared → Prop} {s : Shared} {Q : α → Shared → Prop} {c : Prop} [Decidable c] {a b : Sem α} (hc : c) (h : wpAny M A a Q E s) : wpAny M A (if c then a else b) Q E s := by rw [if_pos hc]; exact h
theorem binds_bis2 {s : Shared} {fd : FuncData} {T D : Addr} {oT oD : Obj} {n : Nat} {hh : Int} {t tk : Tok} {v1 v2 : Value} (h1 : fd.params.posonlyargs = []) (h2 : fd.params.args.map (·.arg) = [Str.ofString "a", Str.ofString "x", Str.ofString "lo", Str.ofString "hi"]) (h3 : fd.params.kwonlyargs.map (·.arg) = [Str.ofString "key"]) (h4 : fd.params.vararg = none) (h5 : fd.params.kwarg = none)
    (hd : fd.defaults = .ref T) (hk : fd.kwdefaults = .ref D) (hT : s.heap.get? T = some oT) (dT : oT.data = .seq #[.int 0 t, .none] n) (hD : s.heap.get? D = some oD) (dD : oD.data = .dict #[⟨hh, .str (Str.ofString "key") tk, .none⟩] 1) :
    BindsTo s fd ⟨[v1, v2], []⟩ [(Str.ofString "a", v1), (Str.ofString "x", v2), (Str.ofString "lo", .int 0 t), (Str.ofString "hi", .none), (Str.ofString "key", .none)] := by
  intro M A E Q hq
  unfold bindArgs
  simp only [h1, h2, h3, h4, h5, hd, hk, List.map_nil, List.nil_append, List.length_cons, List.length_nil, List.forIn_nil, pure_bind]
  refine wpAny_bind (wpAny_seqItems hT dT ?_)
  have e1 : nsFind #[⟨hh, .str (Str.ofString "key") tk, .none⟩] (Str.ofString "key") = some .none := rfl
  dsimp only [Option.getD]
  rw [if_neg (by decide)]
  refine wp_no (fun h => Bool.noConfusion (show false = true from h)) ?_
  refine wpAny_bind ?_
  show wpAny M A (forIn [(Str.ofString "lo", Value.int 0 t), (Str.ofString "hi", Value.none)] _ _) _ _ _
  rw [List.forIn_cons]
  refine wpAny_bind ?_
  dsimp only
  refine wp_yes (show true = true from rfl) ?_
  refine wpAny_pure ?_
  dsimp only
  rw [List.forIn_cons]
  refine wpAny_bind ?_
  dsimp only
  refine wp_yes (show true = true from rfl) ?_
  refine wpAny_pure ?_
  dsimp only
  rw [List.forIn_nil]
  refine wpAny_pure ?_
  refine wpAny_bind ?_
  rw [List.forIn_cons]
  refine wpAny_bind ?_
  dsimp only
  refine wp_yes (show true = true from rfl) ?_
  refine wpAny_bind (wpAny_nsGet (ns_key hD dD) ?_)
  rw [e1]
  dsimp only
  refine wpAny_pure ?_
  dsimp only
  rw [List.forIn_nil]
  refine wpAny_pure ?_
  refine wp_no (fun h => Bool.noConfusion (show false = true from h)) ?_
  exact wpAny_pure hq
theorem binds_bis4 {s : Shared} {fd : FuncData} {T D : Addr} {oT oD : Obj} {n : Nat} {hh : Int} {t tk : Tok} {v1 v2 v3 v4 : Value} (h1 : fd.params.posonlyargs = []) (h2 : fd.params.args.map (·.arg) = [Str.ofString "a", Str.ofString "x", Str.ofString "lo", Str.ofString "hi"]) (h3 : fd.params.kwonlyargs.map (·.arg) = [Str.ofString "key"]) (h4 : fd.params.vararg = none) (h5 : fd.params.kwarg = none)
    (hd : fd.defaults = .ref T) (hk : fd.kwdefaults = .ref D) (hT : s.heap.get? T = some oT) (dT : oT.data = .seq #[.int 0 t, .none] n) (hD : s.heap.get? D = some oD) (dD : oD.data = .dict #[⟨hh, .str (Str.ofString "key") tk, .none⟩] 1) :
    BindsTo s fd ⟨[v1, v2, v3, v4], []⟩ [(Str.ofString "a", v1), (Str.ofString "x", v2), (Str.ofString "lo", v3), (Str.ofString "hi", v4), (Str.ofString "key", .none)] := by
  intro M A E Q hq
  unfold bindArgs
  simp only [h1, h2, h3, h4, h5, hd, hk, List.map_nil, List.nil_append, List.length_cons, List.length_nil, List.forIn_nil, pure_bind]
  refine wpAny_bind (wpAny_seqItems hT dT ?_)
  have e1 : nsFind #[⟨hh, .str (Str.ofString "key") tk, .none⟩] (Str.ofString "key") = some .none := rfl
  dsimp only [Option.getD]
  rw [if_neg (by decide)]
  refine wp_no (fun h => Bool.noConfusion (show false = true from h)) ?_
  refine wpAny_bind ?_
  show wpAny M A (forIn [(Str.ofString "lo", Value.int 0 t), (Str.ofString "hi", Value.none)] _ _) _ _ _
  rw [List.forIn_cons]
  refine wpAny_bind ?_
  dsimp only
  refine wp_no (fun h => Bool.noConfusion (show false = true from h)) ?_
  refine wpAny_pure ?_
  dsimp only
  rw [List.forIn_cons]
  refine wpAny_bind ?_
  dsimp only
  refine wp_no (fun h => Bool.noConfusion (show false = true from h)) ?_
  refine wpAny_pure ?_
  dsimp only
  rw [List.forIn_nil]
  refine wpAny_pure ?_
  refine wpAny_bind ?_
  rw [List.forIn_cons]
  refine wpAny_bind ?_
  dsimp only
  refine wp_yes (show true = true from rfl) ?_
  refine wpAny_bind (wpAny_nsGet (ns_key hD dD) ?_)
  rw [e1]
  dsimp only
  refine wpAny_pure ?_
  dsimp only
  rw [List.forIn_nil]
  refine wpAny_pure ?_
  refine wp_no (fun h => Bool.noConfusion (show false = true from h)) ?_
  exact wpAny_pure hq
end
section
/-- a pair of numbers in the heap -/
def IsPair (h : Heap) (a : Addr) (p : Int × Int) : Prop := ∃ o ta tb n, h.get? a = some o ∧ o.cls = .type "tuple" ∧ o.data = .seq #[.int p.1 ta, .int p.2 tb] n
theorem IsPair.up {h h' : Heap} {a : Addr} {p : Int × Int} (k : ∀ b o, h.get? b = some o → h'.get? b = some o) (x : IsPair h a p) : IsPair h' a p := by
  obtain ⟨o, ta, tb, n, e, c, d⟩ := x
  exact ⟨o, ta, tb, n, k _ _ e, c, d⟩
inductive Pairs (h : Heap) : List Value → List (Int × Int) → Prop
  | nil : Pairs h [] []
  | cons {a : Addr} {p : Int × Int} {vs ps} : IsPair h a p → Pairs h vs ps → Pairs h (.ref a :: vs) (p :: ps)
theorem Pairs.up {h h' : Heap} {vs ps} (k : ∀ b o, h.get? b = some o → h'.get? b = some o) (x : Pairs h vs ps) : Pairs h' vs ps := by
  induction x with
  | nil => exact .nil
  | cons p _ ih => exact .cons (p.up k) ih
theorem Pairs.length {h : Heap} {vs ps} (x : Pairs h vs ps) : vs.length = ps.length := by
  induction x with
  | nil => rfl
  | cons p _ ih => simp [ih]
theorem Pairs.get {h : Heap} {vs ps} (x : Pairs h vs ps) : ∀ (i : Nat) (p : Int × Int), ps[i]? = some p → ∃ a, vs[i]? = some (.ref a) ∧ IsPair h a p := by
  induction x with
  | nil => intro i p e; simp at e
  | cons q _ ih =>
    intro i p e
    cases i with
    | zero => simp at e; subst e; exact ⟨_, rfl, q⟩
    | succ i => simpa using ih i p (by simpa using e)
section
variable {w : World} {A : Around} {s : Shared} {Q E : Value → Shared → Prop} {h₀ : Heap} {L : Addr} {m : Str → Option Value} {x y : Addr} {p q : Int × Int} {r : Bool}
theorem lt_pair_at (F : Fr h₀ L s.heap m) (hx : IsPair h₀ x p) (hy : IsPair h₀ y q) (hr : @decide (PLt p q) (decPLt p q) = r) (hu : A.units < cLine) (h : Q (.bool r) s) : wpAny (model PR w) A (compareOp .Lt (.ref x) (.ref y)) Q E s := by
  obtain ⟨ox, ta, tb, n, ex, cx, dx⟩ := hx
  obtain ⟨oy, tc, td, k, ey, cy, dy⟩ := hy
  exact lt_pair hu (F.keep _ _ ex) cx dx (F.keep _ _ ey) cy dy hr h
end
end
theorem rows_P7_10 : True := by
  k_with "compareOp Lt ref" => (k_here; k_dflt (refine' lt_pair_at (by k_asm) (by with_reducible assumption) (by with_reducible assumption) (by with_reducible assumption) (by ((try dsimp only [At, Around.deeper]); omega)) ?_; k_whole))
  k_with "compareOp Lt ref ref" => (k_here; k_dflt (refine' lt_pair_at (by k_asm) (by with_reducible assumption) (by with_reducible assumption) (by with_reducible assumption) (by ((try dsimp only [At, Around.deeper]); omega)) ?_; k_whole))
  k_with "exec While" => (k_here; refine Locked.out ?_)
  k_with "exec While Compare" => (k_here; refine Locked.out ?_)
  k_with "exec While BoolOp" => (k_here; refine Locked.out ?_)
  trivial
section
/-- r pairs of the order are ahead of p -/
def Place (ps : List (Int × Int)) (p : Int × Int) (r : Nat) : Prop := r ≤ ps.length ∧ (∀ i q, i < r → ps[i]? = some q → PLt q p) ∧ (∀ i q, r ≤ i → ps[i]? = some q → ¬ PLt q p)
theorem PLt.trans {a b c : Int × Int} (h : PLt a b) (k : PLt b c) : PLt a c := by unfold PLt at *; omega
theorem PLt.lt_of {a b c : Int × Int} (h : PLt a b) (k : ¬ PLt a c) : ¬ PLt b c := fun x => k (h.trans x)
theorem pair_le {ps : List (Int × Int)} (hso : ps.Pairwise PLt) {i j : Nat} {q q' : Int × Int} (h : i ≤ j) (e : ps[i]? = some q) (e' : ps[j]? = some q') : q = q' ∨ PLt q q' := by
  rcases Nat.lt_or_eq_of_le h with h | rfl
  · obtain ⟨h1, rfl⟩ := List.getElem?_eq_some_iff.mp e
    obtain ⟨h2, rfl⟩ := List.getElem?_eq_some_iff.mp e'
    exact .inr (List.pairwise_iff_getElem.mp hso i j h1 h2 h)
  · rw [e] at e'; exact .inl (Option.some.inj e')
theorem before_mid {ps : List (Int × Int)} {p : Int × Int} (hso : ps.Pairwise PLt) {mid i : Nat} {q q' : Int × Int} (hq : ps[mid]? = some q) (hc : PLt q p) (h : i ≤ mid) (e : ps[i]? = some q') : PLt q' p := by
  rcases pair_le hso h e hq with rfl | x
  · exact hc
  · exact x.trans hc
theorem after_mid {ps : List (Int × Int)} {p : Int × Int} (hso : ps.Pairwise PLt) {mid i : Nat} {q q' : Int × Int} (hq : ps[mid]? = some q) (hc : ¬ PLt q p) (h : mid ≤ i) (e : ps[i]? = some q') : ¬ PLt q' p := by
  rcases pair_le hso h hq e with rfl | x
  · exact hc
  · exact x.lt_of hc
theorem bisect_ok {w : World} {mean mg mb} {dp un fr gd} {s : Shared} {Q E : Value → Shared → Prop} {x l : Addr} {vs : List Value} {ps : List (Int × Int)} {p : Int × Int} {args : List Value} {t0 : Tok} (G : Good w mean mg mb s.heap)
   (hdp : dp + 4 < 1000) (hun : un + 4 < cLine) (hlen : ps.length < 100) (hl : s.heap.IsList l vs.toArray) (hps : Pairs (ghost s.heap) vs ps) (hx : IsPair (ghost s.heap) x p) (hso : ps.Pairwise PLt)
   (hargs : (args = [.ref l, .ref x] ∧ t0 = 284) ∨ args = [.ref l, .ref x, .int 0 t0, .none])
   (ret : ∀ h' tk r t, Ext s.heap h' → Good w mean mg mb h' → Place ps p r → Q (.int r t) { s with heap := h', toks := tk }) :
   wpAny (model PR w) (At dp un fr gd) (call (.ref 74) args) Q E s := by
  have X := G.g.X
  have T := G.g.T
  have hlg : (ghost s.heap).IsList l vs.toArray := G.isList hl
  have e66 : (hd.heap_39 w.params).lookup 66 = some { cls := Value.type "tuple", data := Data.seq #[Value.int 0 284, Value.none] } := by k_is
  have e67 : (hd.heap_39 w.params).lookup 67 = some { cls := Value.type "dict", data := Data.dict #[{ hash := PyData.keyHash w.params (Str.ofString "key"), key := Value.str (Str.ofString "key") 285, val := Value.none }] 1 } := by k_is
  refine wpAny_call ?_
  k_dflt (refine' enter (binds := [(Str.ofString "a", .ref l), (Str.ofString "x", .ref x), (Str.ofString "lo", .int 0 t0), (Str.ofString "hi", .none), (Str.ofString "key", .none)]) ?k1 ?k8 ?k6 ?k7 ?k9 ?kB ?_ ?c2 ?c3 ?c4 ?c5; (case k1 => assumption); (case k6 => k_is); (case k7 => k_is); (case k8 => k_room); (case c5 => decide); (case kB => exact locs rfl); (case c2 => exact rfl); (case c3 => exact rfl); (case c4 => exact rfl))
  case k9 =>
    rcases hargs with ⟨rfl, rfl⟩ | rfl
    · exact binds_bis2 rfl rfl rfl rfl rfl rfl rfl (of_ghost (G.g.X 66 _ e66)) rfl (of_ghost (G.g.X 67 _ e67)) rfl
    · exact binds_bis4 rfl rfl rfl rfl rfl rfl rfl (of_ghost (G.g.X 66 _ e66)) rfl (of_ghost (G.g.X 67 _ e67)) rfl
  clear hargs e66 e67
  k_whole
  intro L h₁ ps30 ps37 eL hL S F N
  have S0 : TL s.heap (tls ps30 ps37 []) := ⟨_, _, _, rfl, S⟩
  clear S
  generalize tls ps30 ps37 [] = tl0 at N S0
  have hvl : (vs.length : Int) = ps.length := by rw [hps.length]
  (try dsimp only); (try k_fold)
  k_steps
  all_goals try k_data
  all_goals (try dsimp only)
  refine Locked.mk ?_
  rename Fr _ _ _ _ => F1
  rename News _ _ _ _ => N1
  k_dflt (refine' While_inv (n₀ := ps.length) (fun n m news => ∃ lo hi tlo thi, n = hi - lo ∧ lo ≤ hi ∧ hi ≤ ps.length ∧ (∀ i q, i < lo → ps[i]? = some q → PLt q p) ∧ (∀ i q, hi ≤ i → ps[i]? = some q → ¬ PLt q p) ∧ m (Str.ofString "a") = some (.ref l) ∧ m (Str.ofString "x") = some (.ref x) ∧ m (Str.ofString "lo") = some (.int ((lo : Nat) : Int) tlo) ∧ m (Str.ofString "hi") = some (.int ((hi : Nat) : Int) thi) ∧ news = tl0) F1 N1 ?h0 ?turn ?hE)
  case h0 =>
    refine ⟨0, ps.length, _, _, rfl, Nat.zero_le _, Nat.le_refl _, fun i q h => absurd h (Nat.not_lt_zero _), fun i q h e => ?_, rfl, rfl, rfl, rfl, rfl⟩
    rw [List.getElem?_eq_none h] at e; cases e
  case turn =>
    rintro n m₁ _ h₁ tk₁ F2 N2 ⟨lo, hi, tlo, thi, rfl, hlh, hhl, hlow, hhigh, hm1, hm2, hm3, hm4, rfl⟩
    by_cases hlt : lo < hi
    · obtain ⟨mid, hmid⟩ : ∃ mid, mid = (lo + hi) / 2 := ⟨_, rfl⟩
      have hm5 : lo ≤ mid ∧ mid < hi := by omega
      obtain ⟨q, hq⟩ : ∃ q, ps[mid]? = some q := ⟨_, List.getElem?_eq_getElem (by omega)⟩
      obtain ⟨y, hyv, hy⟩ := hps.get _ _ hq
      obtain ⟨sm, hsm⟩ : ∃ sm, (lo : Int) + (hi : Int) = sm := ⟨_, rfl⟩
      obtain ⟨md, hmd⟩ : ∃ md : Int, md = (mid : Int) := ⟨_, rfl⟩
      have hfd : sm.fdiv 2 = md := by rw [fd (by decide)]; omega
      obtain ⟨md1, hmd1⟩ : ∃ md1, md + 1 = md1 := ⟨_, rfl⟩
      have hyv2 : vs[md.toNat]? = some (.ref y) := by rw [show md.toNat = mid by omega]; exact hyv
      have hb1 : 0 ≤ md := by omega
      have hb2 : md < 2 ^ 63 := by omega
      have hdec : decide ((lo : Int) < (hi : Int)) = true := by simp; omega
      have F3 : Fr (ghost s.heap) L h₁ _ := fr_know (x := Str.ofString "a") (fr_know (x := Str.ofString "x") (fr_know (x := Str.ofString "lo") (fr_know (x := Str.ofString "hi") F2 hm4) hm3) hm2) hm1
      have N3 : News (ghost s.heap) L h₁ _ := N2
      clear F2 N2 F1 N1
      by_cases hc : PLt q p
      · have hr : @decide (PLt q p) (decPLt q p) = true := by simp [hc]
        (try k_unmd)
        (try k_fold)
        k_steps
        all_goals try k_data
        rename Fr _ _ _ _ => F9
        rename News _ _ _ _ => N9
        k_dflt (refine' WhileStep.intro (n' := hi - (mid + 1)) F9 N9 ?w1 ?w2)
        case w1 => omega
        case w2 => exact ⟨mid + 1, hi, _, _, rfl, by omega, hhl, fun i q' h e => before_mid hso hq hc (by omega) e, hhigh, rfl, rfl, by rw [show ((mid + 1 : Nat) : Int) = md1 by omega]; rfl, rfl, rfl⟩
      · have hr : @decide (PLt q p) (decPLt q p) = false := by simp [hc]
        (try k_unmd)
        (try k_fold)
        k_steps
        all_goals try k_data
        rename Fr _ _ _ _ => F9
        rename News _ _ _ _ => N9
        k_dflt (refine' WhileStep.intro (n' := mid - lo) F9 N9 ?w3 ?w4)
        case w3 => omega
        case w4 => exact ⟨lo, mid, _, _, rfl, by omega, by omega, hlow, fun i q' h e => after_mid hso hq hc h e, rfl, rfl, rfl, by rw [← hmd]; rfl, rfl⟩
    · have F3 : Fr (ghost s.heap) L h₁ _ := fr_know (x := Str.ofString "lo") (fr_know (x := Str.ofString "hi") F2 hm4) hm3
      have N3 : News (ghost s.heap) L h₁ _ := N2
      clear F2 N2 F1 N1
      (try k_unmd)
      (try k_fold)
      k_steps
      all_goals try k_data
      (try dsimp only)
      rename Fr _ _ _ _ => F9
      rename News _ _ _ _ => N9
      have hle : lo = hi := by omega
      subst hle
      obtain ⟨X9, G9⟩ := Cut.good (by ktr_rel) G F9 N9 S0
      exact ret _ _ lo _ X9 G9 ⟨hhl, hlow, hhigh⟩
  case hE =>
    passes_own
end
section
theorem IsPair.ghost {w mean mg mb} {h : Heap} {a : Addr} {p : Int × Int} (G : Good w mean mg mb h) (x : IsPair h a p) : IsPair (ghost h) a p := by
  obtain ⟨o, ta, tb, n, e, c, d⟩ := x
  exact ⟨o, ta, tb, n, G.ghost_of e (by rw [c]; nofun), c, d⟩
theorem Pairs.ghost {w mean mg mb} {h : Heap} {vs ps} (G : Good w mean mg mb h) (x : Pairs h vs ps) : Pairs (ghost h) vs ps := by
  induction x with
  | nil => exact .nil
  | cons p _ ih => exact .cons (p.ghost G) ih
/-- pairs that stand in a ledger -/
inductive PairsN (tups : List (Addr × Obj)) : List Value → List (Int × Int) → Prop
  | nil : PairsN tups [] []
  | cons {a : Addr} {p : Int × Int} {ta tb : Tok} {vs ps} : (a, tupO [.int p.1 ta, .int p.2 tb]) ∈ tups → PairsN tups vs ps → PairsN tups (.ref a :: vs) (p :: ps)
theorem PairsN.more {tups tups' : List (Addr × Obj)} {vs ps} (h : ∀ q ∈ tups, q ∈ tups') (x : PairsN tups vs ps) : PairsN tups' vs ps := by
  induction x with
  | nil => exact .nil
  | cons p _ ih => exact .cons (h _ p) ih
theorem pair_news {g h : Heap} {L a : Addr} {news : List (Addr × Obj)} {p q : Int} {ta tb : Tok} (N : News g L h news) (hm : (a, tupO [.int p ta, .int q tb]) ∈ news) : IsPair h a (p, q) := ⟨_, ta, tb, _, (N _ hm).1, rfl, rfl⟩
theorem PairsN.heap {g h : Heap} {L : Addr} {news tups : List (Addr × Obj)} {vs ps} (N : News g L h news) (hs : ∀ q ∈ tups, q ∈ news) (x : PairsN tups vs ps) : Pairs h vs ps := by
  induction x with
  | nil => exact .nil
  | cons p _ ih => exact .cons ⟨_, _, _, _, (N _ (hs _ p)).1, rfl, rfl⟩ ih
theorem PairsN.length {tups : List (Addr × Obj)} {vs ps} (x : PairsN tups vs ps) : vs.length = ps.length := by
  induction x with
  | nil => rfl
  | cons p _ ih => simp [ih]
theorem PairsN.ins {tups : List (Addr × Obj)} {vs ps} {a : Addr} {p : Int × Int} {ta tb : Tok} (x : PairsN tups vs ps) (hp : (a, tupO [.int p.1 ta, .int p.2 tb]) ∈ tups) : ∀ r, PairsN tups (vs.take r ++ .ref a :: vs.drop r) (ps.take r ++ p :: ps.drop r) := by
  induction x with
  | nil => intro r; simp; exact .cons hp .nil
  | cons q y ih =>
    intro r
    cases r with
    | zero => exact .cons hp (.cons q y)
    | succ r => exact .cons q (ih r)
section
variable {w : World} {mean : ExcName → Option Value} {mg mb : Str → Option Value} {dp un : Nat} {fr : Option (List Env)} {gd : Option (List Code)} {s : Shared} {Q E : Value → Shared → Prop} {h₀ : Heap} {L : Addr} {m : Str → Option Value} {news own tl : List (Addr × Obj)}
theorem L_bisect {x l : Addr} {vs : List Value} {ps : List (Int × Int)} {p : Int × Int} {args : List Value} {t0 : Tok} (F : Fr (ghost h₀) L s.heap m) (N : News (ghost h₀) L s.heap news) (S : TL h₀ tl) (C : Cut tl news own) (G : Good w mean mg mb h₀)
   (hdp : dp + 4 < 1000) (hun : un + 4 < cLine) (hlen : ps.length < 100) (hl : s.heap.IsList l vs.toArray) (hps : Pairs s.heap vs ps) (hx : IsPair s.heap x p) (hso : ps.Pairwise PLt)
   (hargs : (args = [.ref l, .ref x] ∧ t0 = 284) ∨ args = [.ref l, .ref x, .int 0 t0, .none])
   (ret : ∀ h' tk r k t tl', (r : Nat) = (k : Int) → Place ps p r → TL h₀ tl' → (Full30 tl → Full30 tl') → (Full37 tl → Full37 tl') → Fr (ghost h₀) L h' m → News (ghost h₀) L h' (own ++ tl') → Q (.int k t) { s with heap := h', toks := tk }) :
   wpAny (model PR w) (At dp un fr gd) (call (.ref 74) args) Q E s := by
  have G1 := (C.good G F N S).2
  refine bisect_ok G1 hdp hun hlen hl (hps.ghost G1) (hx.ghost G1) hso hargs fun h' tk r t X9 G9 hr => ?_
  obtain ⟨tl', S', F', N', f30, f37⟩ := C.after F N S X9 G9
  exact ret h' tk r _ t tl' rfl hr S' (fun h => f30 (.inl h)) (fun h => f37 (.inl h)) F' N'
end
/-- an object out of sight -/
def less (h : Heap) (l : Addr) : Heap := hideAll h [l]
theorem of_less {h : Heap} {l b : Addr} {o : Obj} (e : (less h l).get? b = some o) : h.get? b = some o := of_hideAll _ e
theorem less_get {h : Heap} {l b : Addr} {o : Obj} (e : h.get? b = some o) (n : b ≠ l) : (less h l).get? b = some o := hideAll_get _ e (fun q => n (List.mem_singleton.mp q))
theorem less_none {h : Heap} {l : Addr} : (less h l).get? l = none := hideAll_none _ (List.mem_singleton.mpr rfl)
/-- a top-level def is entered; one list is on the ledger, not in the ground -/
theorem enterV {w : World} {mean mg mb} {A : Around} {s : Shared} {R : Result → Shared → Prop} {name qual : Str} {params : Arguments} {body : List Stmt} {scope : Scope} {dV kV doc pm cdv ct oc : Value} {an od : Option Addr} {osl : Array (Option Value)} {f l : Addr} {ol : Obj} {args : Args} {binds : List (Str × Value)}
    (G : Good w mean mg mb (less s.heap l)) (hl : s.heap.get? l = some ol) (hroom : A.depth < recursionLimit)
    (ho : (hd.heap_39 w.params).lookup f = some ⟨oc, od, .func (fnOf name qual params body scope dV kV doc pm an cdv ct), osl⟩) (hcd : codeIn (hd.heap_39 w.params) cdv qual = true)
    (hbind : BindsTo s (fnOf name qual params body scope dV kV doc pm an cdv ct) args binds) (hloc : ∀ y ∈ binds, scope.names.lookup y.1 = some .local)
    (h : ∀ L h₁ ps30 ps37, L = s.heap.objs.size → 37 < L → TS (less s.heap l) ps30 ps37 [] →
      Fr (ghost (less s.heap l)) L h₁ (fun y => binds.reverse.lookup y) → News (ghost (less s.heap l)) L h₁ ((l, ol) :: tls ps30 ps37 []) →
      wpAny (model PR w) (A.deeper (envOf qual scope L f cdv)) (execs body (envOf qual scope L f cdv))
        (fun fl s' => R (.ok (.ret (match fl with | .ret v => v | _ => .none))) s')
        (fun e s' => wpAny (model PR w) (A.deeper (envOf qual scope L f cdv)) (leaving (envOf qual scope L f cdv) e) (fun _ s'' => R (.error e) s'') (fun e' s'' => R (.error e') s'') s')
        { s with heap := h₁, toks := s.toks + binds.length })
    (hco : scope.isCoroutine = false) (hgen : scope.isGenerator = false) (hk : scope.kind = .function)
    (hcell : ∀ x ∈ scope.names, x.2 ≠ .cell) : codeAny (model PR w) A (.call (.ref f) args) R s := by
  have k : ∀ b o, (ghost (less s.heap l)).get? b = some o → s.heap.get? b = some o := fun b o e => of_less (of_ghost e)
  obtain ⟨ps30, ps37, e30, e37, S⟩ := TL.start G
  refine codeAny_call_def (fd := fnOf name qual params body scope dV kV doc pm an cdv ct) (body := body) (binds := binds) hroom (k _ _ (G.g.X _ _ ho)) rfl (G.g.T.nolimit.keeps k) (codeRec_of (G.g.X.keeps k) hcd) rfl hbind hcell hloc (fun h₁ hns hk₁ => ?_) hco hgen hk
  refine h _ h₁ ps30 ps37 rfl (Heap.lt_size (of_less e37)) S ⟨hns, fun b o e => hk₁ b o (k b o e), Nat.le_of_eq ((hideAll_size _ _).trans (hideAll_size _ _))⟩ fun p hp => ?_
  rcases List.mem_cons.mp hp with rfl | hp
  · refine ⟨hk₁ _ _ hl, Nat.ne_of_lt (Heap.lt_size hl), ?_⟩
    cases q : (ghost (less s.heap l)).get? l with
    | none => rfl
    | some o => have := of_ghost q; rw [less_none] at this; cases this
  · rcases List.mem_cons.mp hp with rfl | hp
    · exact ⟨hk₁ _ _ (of_less e30), Nat.ne_of_lt (Heap.lt_size (of_less e30)), ghost_30⟩
    · rcases List.mem_cons.mp hp with rfl | hp
      · exact ⟨hk₁ _ _ (of_less e37), Nat.ne_of_lt (Heap.lt_size (of_less e37)), ghost_37⟩
      · cases hp
end
section
theorem fits_idx {k : Int} (h0 : 0 ≤ k) (h1 : k < 2 ^ 62) : Builtin.List.listFitsIndex k = true := by
  unfold Builtin.List.listFitsIndex; simp; omega
theorem ins_at {vs : List Value} {r : Nat} {k : Int} {y : Value} (hk : (r : Int) = k) (h : r ≤ vs.length) : kl_ins vs k y = vs.take r ++ y :: vs.drop r := by
  unfold kl_ins
  rw [if_neg (by omega)]
  have : min k.toNat vs.length = r := by omega
  rw [this]
end
theorem rows_P8_11 : True := by
  k_with "call ref" => (k_here; (with_reducible show wpAny _ _ (call (Value.ref 74) _) _ _ _); k_dflt (refine' L_bisect (by k_asm) (by k_asm) (by assumption) (by ktr_rel) (by assumption) (by ktr_room) (by ((try dsimp only [At, Around.deeper]); omega)) (by assumption) (by exact isList_own (by k_asm) (by k_mem)) (by (first | assumption | exact Pairs.up (Fr.keep (by k_asm)) (by assumption))) (by (first | assumption | exact IsPair.up (Fr.keep (by k_asm)) (by assumption))) (by assumption) (by (first | exact .inr rfl | exact .inl ⟨rfl, rfl⟩)) ?_; k_whole); intro hZ9 tkZ9 rZ9 kZ9 tZ9 tlZ9 hkZ9 hrZ9 SZ9 f30Z9 f37Z9 FZ9 NZ9; have hb' := hrZ9.1; (try simp only [List.cons_append, List.nil_append] at NZ9))
  k_with "call builtin:list.insert" => (k_here; (with_reducible show wpAny _ _ (call (Value.builtin _) [Value.ref _, Value.int _ _, _]) _ _ _); k_dflt (refine' kl_insert (by k_asm) (by k_asm) (by exact fits_idx (by omega) (by omega)) rfl (by k_upd) (by assumption) ?_; k_whole); intro hZ9 FZ9 NZ9)
  trivial
section
theorem insort_ok {w : World} {mean mg mb} {dp un fr gd} {s : Shared} {Q E : Value → Shared → Prop} {x l : Addr} {vs : List Value} {ps : List (Int × Int)} {p : Int × Int} {n : Nat} (G : Good w mean mg mb (less s.heap l))
   (hdp : dp + 8 < 1000) (hun : un + 8 < cLine) (hlen : ps.length < 100) (hl : s.heap.get? l = some (W.listOf vs.toArray n)) (hps : Pairs (less s.heap l) vs ps) (hx : IsPair (less s.heap l) x p) (hso : ps.Pairwise PLt)
   (ret : ∀ h' tk r, Ext (less s.heap l) h' → Good w mean mg mb h' → Place ps p r → h'.get? l = some (W.listOf (vs.take r ++ .ref x :: vs.drop r).toArray (n + 1)) → Q .none { s with heap := h', toks := tk }) :
   wpAny (model PR w) (At dp un fr gd) (call (.ref 65) [.ref l, .ref x]) Q E s := by
  have X := G.g.X
  have T := G.g.T
  have hps0 := hps.ghost G
  have hx0 := hx.ghost G
  have hvl : vs.length = ps.length := hps.length
  have hroom : (vs.toArray.toList).length ≤ sizeLine := by rw [show vs.toArray.toList = vs from rfl]; exact Nat.le_trans (by omega : vs.length ≤ 200) (by decide)
  have e57 : (hd.heap_39 w.params).lookup 57 = some { cls := Value.type "tuple", data := Data.seq #[Value.int 0 271, Value.none] } := by k_is
  have e58 : (hd.heap_39 w.params).lookup 58 = some { cls := Value.type "dict", data := Data.dict #[{ hash := PyData.keyHash w.params (Str.ofString "key"), key := Value.str (Str.ofString "key") 272, val := Value.none }] 1 } := by k_is
  refine wpAny_call ?_
  k_dflt (refine' enterV (binds := [(Str.ofString "a", .ref l), (Str.ofString "x", .ref x), (Str.ofString "lo", .int 0 271), (Str.ofString "hi", .none), (Str.ofString "key", .none)]) ?k1 hl ?k8 ?k6 ?k7 ?k9 ?kB ?_ ?c2 ?c3 ?c4 ?c5; (case k1 => assumption); (case k6 => k_is); (case k7 => k_is); (case k8 => k_room); (case c5 => decide); (case kB => exact locs rfl); (case c2 => exact rfl); (case c3 => exact rfl); (case c4 => exact rfl))
  case k9 => exact binds_bis2 rfl rfl rfl rfl rfl rfl rfl (of_less (of_ghost (G.g.X 57 _ e57))) rfl (of_less (of_ghost (G.g.X 58 _ e58))) rfl
  clear e57 e58
  k_whole
  intro L h₁ ps30 ps37 eL hL S F N
  have S0 : TL (less s.heap l) (tls ps30 ps37 []) := ⟨_, _, _, rfl, S⟩
  clear S
  generalize tls ps30 ps37 [] = tl0 at N S0
  (try dsimp only); (try k_fold)
  k_steps
  all_goals try k_data
  all_goals (try dsimp only)
  rename Fr _ _ _ _ => F9
  rename News _ _ _ _ => N9
  rename TL _ _ => S9
  rename Place _ _ _ => hr9
  rename (_ : Int) = _ => hk9
  have hb9 := hr9.1
  rw [show vs.toArray.toList = vs from rfl, ins_at hk9 (by omega)] at N9
  obtain ⟨X9, G9⟩ := Cut.good (by ktr_rel) G F9 N9 S9
  exact ret _ _ _ X9 G9 hr9 (nat_ N9 (List.Mem.head _)).1
section
variable {w : World} {mean : ExcName → Option Value} {mg mb : Str → Option Value} {dp un : Nat} {fr : Option (List Env)} {gd : Option (List Code)} {s : Shared} {Q E : Value → Shared → Prop} {h₀ : Heap} {L : Addr} {m : Str → Option Value} {rest own tl : List (Addr × Obj)}
theorem L_insort {x l : Addr} {vs : List Value} {ps : List (Int × Int)} {p : Int × Int} {n : Nat} {ta tb : Tok} (F : Fr (ghost h₀) L s.heap m) (N : News (ghost h₀) L s.heap ((l, W.listOf vs.toArray n) :: rest)) (hne : ∀ q ∈ rest, q.1 ≠ l) (S : TL h₀ tl) (C : Cut tl rest own) (G : Good w mean mg mb h₀)
   (hdp : dp + 8 < 1000) (hun : un + 8 < cLine) (hlen : ps.length < 100) (hps : PairsN rest vs ps) (hx : (x, tupO [.int p.1 ta, .int p.2 tb]) ∈ rest) (hso : ps.Pairwise PLt)
   (ret : ∀ h' tk r tl', Place ps p r → TL h₀ tl' → (Full30 tl → Full30 tl') → (Full37 tl → Full37 tl') → Fr (ghost h₀) L h' m → News (ghost h₀) L h' ((l, W.listOf (vs.take r ++ .ref x :: vs.drop r).toArray (n + 1)) :: (own ++ tl')) → Q .none { s with heap := h', toks := tk }) :
   wpAny (model PR w) (At dp un fr gd) (call (.ref 65) [.ref l, .ref x]) Q E s := by
  have hl := N _ (.head _)
  have F2 : Fr (ghost h₀) L (less s.heap l) m := by
    obtain ⟨oL, es, ep, hL, r⟩ := F.ns
    refine ⟨⟨oL, es, ep, less_get hL (fun q => hl.2.1 q.symm), r⟩, fun b o e => less_get (F.keep b o e) (fun q => by rw [q, hl.2.2] at e; cases e), F.above⟩
  have N2 : News (ghost h₀) L (less s.heap l) rest := fun q hq => ⟨less_get (N q (.tail _ hq)).1 (hne q hq), (N q (.tail _ hq)).2⟩
  have G2 := (C.good G F2 N2 S).2
  refine insort_ok (p := p) G2 hdp hun hlen hl.1 (hps.heap N2 fun _ h => h) (pair_news N2 hx) hso fun h' tk r X9 G9 hr e => ?_
  obtain ⟨tl', S', F', N', f30, f37⟩ := C.after F2 N2 S X9 G9
  refine ret h' tk r tl' hr S' (fun h => f30 (.inl h)) (fun h => f37 (.inl h)) F' fun q hq => ?_
  rcases List.mem_cons.mp hq with rfl | hq
  · exact ⟨e, hl.2⟩
  · exact N' q hq
end
end
section
theorem kc_nine {cm : Str → Option Value} {n₁ n₂ n₃ n₄ n₅ n₆ n₇ n₈ n₉ : Str} {c₁ c₂ c₃ c₄ c₅ c₆ c₇ c₈ c₉ : Addr} {cells : List (Addr × Obj)} (x : CellsAre cm [(n₁, c₁), (n₂, c₂), (n₃, c₃), (n₄, c₄), (n₅, c₅), (n₆, c₆), (n₇, c₇), (n₈, c₈), (n₉, c₉)] cells) :
    ∃ o₁ o₂ o₃ o₄ o₅ o₆ o₇ o₈ o₉, cells = [(c₁, o₁), (c₂, o₂), (c₃, o₃), (c₄, o₄), (c₅, o₅), (c₆, o₆), (c₇, o₇), (c₈, o₈), (c₉, o₉)] ∧ o₁.data = .cell (cm n₁) ∧ o₂.data = .cell (cm n₂) ∧ o₃.data = .cell (cm n₃) ∧ o₄.data = .cell (cm n₄) ∧ o₅.data = .cell (cm n₅) ∧ o₆.data = .cell (cm n₆) ∧ o₇.data = .cell (cm n₇) ∧ o₈.data = .cell (cm n₈) ∧ o₉.data = .cell (cm n₉) := by
  cases x with | cons h r => obtain ⟨o₂, o₃, o₄, o₅, o₆, o₇, o₈, o₉, rfl, h₂, h₃, h₄, h₅, h₆, h₇, h₈, h₉⟩ := kc_eight r; exact ⟨_, o₂, o₃, o₄, o₅, o₆, o₇, o₈, o₉, rfl, h, h₂, h₃, h₄, h₅, h₆, h₇, h₈, h₉⟩
/-- every second one -/
def evens (ns : List Int) : List Int := pickNums ns none none (some 2)
theorem filterMap_len {α β : Type} (f : α → Option β) : ∀ l : List α, (l.filterMap f).length ≤ l.length
  | [] => Nat.le_refl _
  | a :: r => by
    rw [List.filterMap_cons]
    have := filterMap_len f r
    split <;> simp <;> omega
theorem evens_len (ns : List Int) : (evens ns).length ≤ ns.length := by
  unfold evens pickNums
  refine Nat.le_trans (filterMap_len _ _) ?_
  have e : sliceBounds none none (some 2) ns.length = (0, (ns.length : Int), 2) := by simp [sliceBounds]
  rw [e]
  unfold sliceRange
  simp only [show (2 : Int) > 0 by decide, if_true, List.length_map, List.length_range]
  split <;> omega
theorem evens_fit {ns : List Int} {a b c : Int} (h : ns.length ≤ 100) : (evens ns).length + [a, b, c].length ≤ sizeLine := Nat.le_trans (Nat.add_le_add (Nat.le_trans (evens_len ns) h) (Nat.le_refl 3)) (by decide)
theorem piece_fit {vs : List Value} {ns : List Int} {a b c : Int} (hi : IntsAre vs (evens ns ++ [a, b, c])) (h : ns.length ≤ 100) : vs.toArray.size ≤ sizeLine := by
  rw [List.size_toArray, hi.length, List.length_append]
  exact evens_fit h
theorem evens_mem {ns : List Int} {x : Int} (h : x ∈ evens ns) : x ∈ ns := by
  unfold evens pickNums at h
  obtain ⟨i, _, e⟩ := List.mem_filterMap.mp h
  exact List.mem_of_getElem? e
section
variable {w : World} {A : Around} {E : Value → Shared → Prop} {s : Shared} {h₀ : Heap} {L l : Addr} {m : Str → Option Value} {news : List (Addr × Obj)} {value slice : PySem.Expr} {vs : List Value} {ns : List Int} {vk : Value} {ops : List Value} {Q : Value → Shared → Prop}
theorem evens_ints (F : Fr h₀ L s.heap m) (N : News h₀ L s.heap news) (hl : s.heap.IsList l vs.toArray) (pk : IsPart vk (some 2)) (hi : IntsAre vs ns)
    (h : ∀ D ws h', Fr h₀ L h' m → News h₀ L h' ((D, W.listOf (List.toArray ws) 0) :: news) → (∀ p ∈ news, p.1 < D) → IntsAre ws (evens ns) → Q (.ref D) { s with heap := h' })
    (hs : subscripted slice false (.ref l) (.ref s.heap.objs.size) = operate ops (getItem (.ref l) (.ref s.heap.objs.size))) (ht : ∀ r, letTemporaryGo value (.ref l) r = pure ()) (hz : vs.toArray.size ≤ sizeLine) :
    wpAny (model PR w) A (subscriptTail value slice (.ref l) (.ref s.heap.objs.size)) Q E { s with heap := s.heap.push { cls := .type "slice", data := .fields #[.none, .none, vk] } } :=
  kmk_slice3_lit F N hl .none .none pk (by decide) rfl (fun D h' F' N' l1 => h D _ h' F' N' l1 (hi.pick none none (some 2))) hs ht hz
/-- one of four numbers -/
theorem pick_four {a b c d k j : Int} {ta tb tc td u : Tok} {n : Nat} (N : News h₀ L s.heap news) (hm : (l, W.listOf #[.int a ta, .int b tb, .int c tc, .int d td] n) ∈ news) (hj : 0 ≤ j ∧ j < 4) (hk : [a, b, c, d].getD j.toNat 0 = k) (h : ∀ t, Q (.int k t) s)
    (hs : subscripted slice false (.ref l) (.int j u) = operate [.ref l, .int j u] (getItem (.ref l) (.int j u)) := by with_unfolding_all rfl) :
    wpAny (model PR w) A (subscriptTail value slice (.ref l) (.int j u)) Q E s := by
  have hj2 : j.toNat = 0 ∨ j.toNat = 1 ∨ j.toNat = 2 ∨ j.toNat = 3 := by omega
  have hx : ∃ t, #[Value.int a ta, .int b tb, .int c tc, .int d td][j.toNat]? = some (.int k t) := by
    subst hk
    rcases hj2 with e | e | e | e <;> rw [e] <;> exact ⟨_, rfl⟩
  obtain ⟨t, hx⟩ := hx
  exact item_own N hm hj.1 (by omega) hx (h t) hs
end
end
section
section
variable {w : World} {A : Around} {h₀ : Heap} {L : Addr} {m : Str → Option Value} {env : Env} {elt : PySem.Expr} {x : Str} {scope : Scope} {cl : List (Str × Addr)} {s : Shared} {S : List (Addr × Obj) → Prop} {P : Nat → Value → Prop} {Fin : List Value → List (Addr × Obj) → Prop} {news : List (Addr × Obj)}
/-- a comprehension by an invariant of turn, items and ledger -/
theorem comp_inv {n : Nat} (J : Nat → List Value → List (Addr × Obj) → Prop) (h0 : J 0 [] news)
    (turn : ∀ i v I oI C oC D m₂ ys news₁ h tk (E' : Value → Shared → Prop), i < n → P i v → J i ys news₁ → LCg.NsObj oC m₂ → m₂ x = some v → Fr h₀ L h m → News h₀ L h ((I, oI) :: (C, oC) :: (D, LCg.lst ys) :: news₁) → LCg.Off3 I C D news₁ → ((@Ne Nat I C) ∧ (@Ne Nat I D) ∧ (@Ne Nat C D)) →
      wpAny (model PR w) A (eval elt (compEnvC scope cl C env)) (LCg.CompEnd h₀ L m { s with heap := h, toks := tk } I oI C oC D (LCg.lst ys) S (fun y news' => J (i + 1) (ys ++ [y]) news')) E' { s with heap := h, toks := tk })
    (fin : ∀ ys news', J n ys news' → Fin ys news') : LCg.CompRest PR w A h₀ L m env elt x scope cl s S P Fin n 0 [] news := by
  have key : ∀ (j i : Nat) (ys : List Value) (nw : List (Addr × Obj)), i + j = n → J i ys nw → LCg.CompRest PR w A h₀ L m env elt x scope cl s S P Fin j i ys nw := by
    intro j
    induction j with
    | zero =>
      intro i ys nw hi hJ
      obtain rfl : i = n := by omega
      exact LCg.CompRest.zero (fin ys nw hJ)
    | succ j ih =>
      intro i ys nw hi hJ
      refine LCg.CompRest.succ ?_
      intro v I oI C oC D m₂ h tk E' hv hC hx F N off ne
      refine wpAny_mono (turn i v I oI C oC D m₂ ys nw h tk E' (by omega) hv hJ hC hx F N off ne) (fun y s₂ hq => ?_) fun _ _ e => e
      obtain ⟨h', tk', nw', e, F', N', off', hS, hJ'⟩ := hq
      exact ⟨h', tk', nw', e, F', N', off', hS, ih (i + 1) _ _ (by omega) hJ'⟩
  exact key n 0 [] news (by omega) h0
end
end
section
/-- an object that stays as it is: a list or a tuple -/
def Imm (o : Obj) : Prop := o.cls ≠ .none ∧ ∃ xs n, o.data = .seq xs n
def Imms (ex : List (Addr × Obj)) : Prop := ∀ p ∈ ex, Imm p.2
theorem imm_list {xs : Array Value} {n : Nat} : Imm (W.listOf xs n) := ⟨fun h => (by cases h), _, _, rfl⟩
theorem imm_lst {ys : List Value} : Imm (LCg.lst ys) := ⟨fun h => (by cases h), _, _, rfl⟩
theorem imm_tup {ys : List Value} : Imm (tupO ys) := ⟨fun h => (by cases h), _, _, rfl⟩
theorem Imms.nil : Imms [] := fun _ h => nomatch h
theorem Imms.cons {a : Addr} {o : Obj} {ex : List (Addr × Obj)} (h : Imm o) (hx : Imms ex) : Imms ((a, o) :: ex) := fun p hp => by
  rcases List.mem_cons.mp hp with rfl | hp
  · exact h
  · exact hx p hp
theorem Imms.app {ex ey : List (Addr × Obj)} (h : Imms ex) (hy : Imms ey) : Imms (ex ++ ey) := fun p hp => by
  rcases List.mem_append.mp hp with hp | hp
  · exact h p hp
  · exact hy p hp
theorem Imm.tab {o : Obj} (h : Imm o) : o ≠ tabObj #[] := ne_tab_cls h.1
theorem Cut.skip {tl : List (Addr × Obj)} : ∀ {ex : List (Addr × Obj)}, Imms ex → Cut tl (ex ++ tl) ex
  | [], _ => .here
  | p :: r, h => .cons (h p (.head _)).tab (Cut.skip fun q hq => h q (.tail _ hq))
/-- the tail lies apart from a cell -/
theorem tail_ne {h₀ g h : Heap} {L c : Addr} {o : Obj} {v : Option Value} {news tl ex : List (Addr × Obj)} (N : News g L h news) (S : TL h₀ tl) (I : Imms ex) (hs : ∀ p ∈ ex ++ tl, p ∈ news) (hc : (c, o) ∈ news) (hd : o.data = .cell v) : ∀ p ∈ ex ++ tl, p.1 ≠ c := fun p hp => by
  rcases List.mem_append.mp hp with hp' | hp'
  · intro q
    obtain ⟨_, xs, n, e⟩ := I p hp'
    have h1 := (N p (hs p hp)).1
    have h2 := (N _ hc).1
    rw [q] at h1
    have h3 : o = p.2 := Option.some.inj (h2.symm.trans h1)
    rw [← h3, hd] at e
    cases e
  · exact TL.ne N S (fun q hq => hs q (List.mem_append_right _ hq)) hc (Off.cell hd) p hp'
/-- a list and a cell lie apart -/
theorem cell_ne {g h : Heap} {L c x : Addr} {o ox : Obj} {v : Option Value} {news : List (Addr × Obj)} (N : News g L h news) (hx : (x, ox) ∈ news) (hi : Imm ox) (hc : (c, o) ∈ news) (hd : o.data = .cell v) : @Ne Nat c x := fun q => by
  have q' : c = x := q
  subst q'
  obtain ⟨_, xs, n, e⟩ := hi
  have h1 := (N _ hx).1
  have h2 := (N _ hc).1
  have h3 : o = ox := Option.some.inj (h2.symm.trans h1)
  rw [← h3, hd] at e
  cases e
theorem news_add {g h : Heap} {L : Addr} {p : Addr × Obj} {news : List (Addr × Obj)} (hp : p ∈ news) (N : News g L h news) : News g L h (p :: news) := fun q hq => by
  rcases List.mem_cons.mp hq with rfl | hq
  · exact N _ hp
  · exact N _ hq
theorem news_sub {g h : Heap} {L : Addr} {news news' : List (Addr × Obj)} (N : News g L h news) (hs : ∀ p ∈ news', p ∈ news) : News g L h news' := fun q hq => N q (hs q hq)
end
theorem rows_P9_12 : True := by
  k_with "subscriptTail Name Slice ref ref" => (k_here; (with_reducible show wpAny _ _ (subscriptTail _ (PySem.Expr.Slice none none (some (PySem.Expr.Constant _ _ _)) _) (Value.ref _) (Value.ref _)) _ _ _); k_dflt (refine' evens_ints (by k_asm) (by k_asm) (by kmk_list) (by exact IsPart.int _ _) (by l_ints) ?_ (by with_unfolding_all rfl) (by kmk_pure) (by kmk_size)); intro DZ9 wsZ9 hZ9 FZ9 NZ9 l1Z9 hIZ9; (try k_lt l1Z9); (try k_sweep))
  k_with "subscriptTail" => (k_here; (with_reducible show wpAny _ _ (subscriptTail _ _ (Value.ref _) (Value.int _ _)) _ _ _); k_dflt (refine' pick_four (by k_asm) (by k_mem) (by with_reducible assumption) (by with_reducible assumption) ?_ (by with_unfolding_all rfl); k_whole); intro tZ9)
  k_with "binaryOp Add ref ref" => (k_here; (with_reducible show wpAny _ _ (binaryOp _ (Value.ref _) (Value.ref _)) _ _ _); k_dflt (refine' kmk_add_ints (ns := evens _) (by k_asm) (by k_asm) (by kmk_list) (by kmk_list) (by with_reducible assumption) (by exact .cons _ _ (.cons _ _ (.cons _ _ .nil))) ?_ (by (exact evens_fit (by first | omega | (simp only [List.length_map, List.length_take]; omega))))); intro DZ9 wsZ9 hZ9 FZ9 NZ9 l1Z9 hIZ9; (try k_lt l1Z9); (try k_sweep))
  k_with "last subscriptTail" => (k_here; (with_reducible show wpAny _ _ (subscriptTail _ (PySem.Expr.Slice none (some _) none _) (Value.ref _) (Value.ref _)) _ _ _); k_dflt (refine' kmk_slice_ints (by k_asm) (by k_asm) (by kmk_list) (by kmk_part) (by kmk_part) (by with_reducible assumption) (by exact kmk_upto (by with_reducible assumption) (by omega)) (by exact rfl) ?_ (by with_unfolding_all rfl) (by kmk_pure) (by (exact piece_fit (by with_reducible assumption) (by first | omega | (simp only [List.length_map, List.length_take]; omega))))); intro DZ9 wsZ9 hZ9 FZ9 NZ9 l1Z9 hIZ9 hCZ9 hLZ9; (try k_lt l1Z9); (try k_sweep))
  trivial
section
local macro_rules | `(tactic| k_all) => `(tactic| with_reducible assumption)
theorem fetch2 {K : Frag} {a : Addr} {o : Obj} {P : Prop} (hl : K.lookup a = some o) (k : K.lookup a = some o → P) : P := k hl
theorem fn_inj {K : Frag} {a : Addr} {oc oc' : Value} {od od' : Option Addr} {fd fd' : FuncData} {osl osl' : Array (Option Value)} (h1 : K.lookup a = some ⟨oc, od, .func fd, osl⟩) (h2 : K.lookup a = some ⟨oc', od', .func fd', osl'⟩) : fd' = fd := by
  rw [h1] at h2
  injection h2 with h2
  injection h2 with _ _ h2 _
  injection h2 with h2
  exact h2.symm
/-- the stretches made so far: lists on the ledger -/
inductive Strs (n : Nat) (row : List Int) : Nat → List Value → List (Addr × Obj) → Prop
  | nil : Strs n row 0 [] []
  | snoc {k : Nat} {ys : List Value} {sts : List (Addr × Obj)} {a : Addr} {ws : List Value} : Strs n row k ys sts → IntsAre ws (win n row k) → Strs n row (k + 1) (ys ++ [.ref a]) (sts ++ [(a, W.listOf ws.toArray 0)])
theorem sub_snoc {X : Type} {I C D n : X} {b tl sts : List X} : ∀ p ∈ I :: C :: D :: (b ++ (tl ++ (sts ++ [n]))), p ∈ n :: I :: C :: D :: (b ++ (tl ++ sts)) := by
  intro p hp
  simp only [List.mem_cons, List.mem_append, List.not_mem_nil, or_false] at hp ⊢
  rcases hp with h | h | h | h | h | h | h <;> simp [h]
theorem off_snoc {I C D : Addr} {n : Addr × Obj} {b tl sts : List (Addr × Obj)} (h : LCg.Off3 I C D (b ++ (tl ++ sts))) (hI : n.1 ≠ I) (hC : n.1 ≠ C) (hD : n.1 ≠ D) : LCg.Off3 I C D (b ++ (tl ++ (sts ++ [n]))) :=
  LCg.Off3.of fun p hp => by
    simp only [List.mem_append, List.mem_cons, List.not_mem_nil, or_false] at hp
    rcases hp with hp | hp | hp | rfl
    · exact h.mem p (List.mem_append_left _ hp)
    · exact h.mem p (List.mem_append_right _ (List.mem_append_left _ hp))
    · exact h.mem p (List.mem_append_right _ (List.mem_append_right _ hp))
    · exact ⟨hI, hC, hD⟩
theorem Strs.seq {n : Nat} {row : List Int} {k : Nat} {ys : List Value} {sts : List (Addr × Obj)} (x : Strs n row k ys sts) : ∀ p ∈ sts, ∃ ws : List Value, p.2 = W.listOf ws.toArray 0 := by
  induction x with
  | nil => intro p hp; cases hp
  | snoc y _ ih =>
    intro p hp
    rcases List.mem_append.mp hp with hp | hp
    · exact ih p hp
    · rw [List.mem_singleton.mp hp]; exact ⟨_, rfl⟩
theorem Strs.ne {n : Nat} {row : List Int} {k : Nat} {ys : List Value} {sts news : List (Addr × Obj)} {g h : Heap} {L c : Addr} {o : Obj} {v : Option Value} (x : Strs n row k ys sts) (N : News g L h news) (hs : ∀ p ∈ sts, p ∈ news) (hc : (c, o) ∈ news) (hd : o.data = .cell v) : ∀ p ∈ sts, p.1 ≠ c := fun p hp => by
  obtain ⟨ws, e⟩ := x.seq p hp
  have hm : (p.1, W.listOf ws.toArray 0) ∈ news := by rw [← e]; exact hs p hp
  exact news_ne N hm hc (fun q => by rw [← q] at hd; cases hd)
theorem exec_one {A : Around} {env : Env} {w : World} {s : Shared} {E : Value → Shared → Prop} {st : Stmt} {rest : List Stmt} {Q : Flow → Shared → Prop}
    (h : wpAny (model PR w) A (exec st env) (fun f s' => match f with | .next => Locked (wpAny (model PR w) A (execs rest env) Q E s') | f => Q f s') E s) : wpAny (model PR w) A (execs (st :: rest) env) Q E s := wpAny_execs_cons h
theorem rows_L2_13 : True := by
  k_with "CompSrc" => (k_here; k_dflt (refine LCg.CompSrc.range (by rfl) (by k_asm) (by k_asm) (by assumption) (by exact small_one (by omega) (by omega) (by omega) (by omega)) (by exact rangeSize_nat _ _) (by rw [PySem.sizeLine_eq]; omega) ?_; intro gZ9; refine Locked.out ?_))
  k_with "CompEnd" => (k_here; refine Locked.out ?_)
  trivial
/-- law after its first four statements: the stretches are made -/
theorem law_stretches {w : World} {mean mg mb} {dp un fr gd} {s : Shared} {g : Heap} {Q : Flow → Shared → Prop} {E : Value → Shared → Prop} {L : Addr} {m : Str → Option Value}
   {fd : FuncData} {body : List Stmt} {oc : Value} {od : Option Addr} {osl : Array (Option Value)} (ho : (hd.heap_39 w.params).lookup 93 = some ⟨oc, od, .func fd, osl⟩) (hbody : fd.body = .stmts body) (G : Good w mean mg mb g)
   {row : List Int} {long prime : Int} {R P T : Addr} {wsR : List Value} {nR : Nat} {oP oT o1 o2 o3 o4 o5 o6 o7 o8 o9 : Obj} {tL tP : Tok} {tl : List (Addr × Obj)} (S : TL g tl)
   (F : Fr (ghost g) L s.heap m) (N : News (ghost g) L s.heap ((T, oT) :: (P, oP) :: (R, W.listOf wsR.toArray nR) :: (L + 1 + 1 + 1 + 1 + 1 + 1 + 1 + 1 + 1, o1) :: (L + 1 + 1 + 1 + 1 + 1 + 1 + 1 + 1, o2) :: (L + 1 + 1 + 1 + 1 + 1 + 1 + 1, o3) :: (L + 1 + 1 + 1 + 1 + 1 + 1, o4) :: (L + 1 + 1 + 1 + 1 + 1, o5) :: (L + 1 + 1 + 1 + 1, o6) :: (L + 1 + 1 + 1, o7) :: (L + 1 + 1, o8) :: (L + 1, o9) :: tl))
   (hoT : Imm oT) (hoP : Imm oP)
   (c1 : o1.data = .cell none) (c2 : o2.data = .cell none) (c3 : o3.data = .cell none) (c4 : o4.data = .cell none) (c5 : o5.data = .cell (some (.ref T))) (c6 : o6.data = .cell (some (.ref P))) (c7 : o7.data = .cell (some (.ref R))) (c8 : o8.data = .cell (some (.int prime tP))) (c9 : o9.data = .cell (some (.int long tL)))
   (hrow : IntsAre wsR row) (hlong1 : 1 ≤ long) (hlong3 : long ≤ 3) (hrowl : row.length ≤ 14)
   (next : ∀ D ys sts h' tk o4', Strs long.toNat row ((row.length : Int) - long + 1 - 0).toNat ys sts → o4'.data = .cell (some (.ref D)) → LCg.Off1 D ((T, oT) :: (P, oP) :: (R, W.listOf wsR.toArray nR) :: (L + 1 + 1 + 1 + 1 + 1 + 1 + 1 + 1 + 1, o1) :: (L + 1 + 1 + 1 + 1 + 1 + 1 + 1 + 1, o2) :: (L + 1 + 1 + 1 + 1 + 1 + 1 + 1, o3) :: (L + 1 + 1 + 1 + 1 + 1 + 1, o4') :: (L + 1 + 1 + 1 + 1 + 1, o5) :: (L + 1 + 1 + 1 + 1, o6) :: (L + 1 + 1 + 1, o7) :: (L + 1 + 1, o8) :: (L + 1, o9) :: (tl ++ sts)) → Fr (ghost g) L h' m → News (ghost g) L h' ((D, LCg.lst ys) :: (T, oT) :: (P, oP) :: (R, W.listOf wsR.toArray nR) :: (L + 1 + 1 + 1 + 1 + 1 + 1 + 1 + 1 + 1, o1) :: (L + 1 + 1 + 1 + 1 + 1 + 1 + 1 + 1, o2) :: (L + 1 + 1 + 1 + 1 + 1 + 1 + 1, o3) :: (L + 1 + 1 + 1 + 1 + 1 + 1, o4') :: (L + 1 + 1 + 1 + 1 + 1, o5) :: (L + 1 + 1 + 1 + 1, o6) :: (L + 1 + 1 + 1, o7) :: (L + 1 + 1, o8) :: (L + 1, o9) :: (tl ++ sts)) →
     wpAny (model PR w) ((At dp un fr gd).deeper (envOfC fd.qualname fd.scope L 93 fd.code)) (execs (body.drop 5) (envOfC fd.qualname fd.scope L 93 fd.code)) Q E { s with heap := h', toks := tk }) :
   wpAny (model PR w) ((At dp un fr gd).deeper (envOfC fd.qualname fd.scope L 93 fd.code)) (execs (body.drop 4) (envOfC fd.qualname fd.scope L 93 fd.code)) Q E s := by
  have X := G.g.X
  have T0 := G.g.T
  k_dflt (refine' fetch2 (K := hd.heap_39 w.params) (a := 93) ?k1 ?_; (case k1 => k_is))
  intro e93
  have e := fn_inj ho e93
  subst e
  injection hbody with hbody
  subst hbody
  clear ho e93
  simp only [List.drop_succ_cons, List.drop_zero]
  refine exec_one ?_
  have hT6 : @Ne Nat (L + 1 + 1 + 1 + 1 + 1 + 1) T := cell_ne N (by k_mem) hoT (by k_mem) c4
  have hP6 : @Ne Nat (L + 1 + 1 + 1 + 1 + 1 + 1) P := cell_ne N (by k_mem) hoP (by k_mem) c4
  have hR6 : @Ne Nat (L + 1 + 1 + 1 + 1 + 1 + 1) R := cell_ne N (by k_mem) imm_list (by k_mem) c4
  have hwl := hrow.length
  (try dsimp only); (try k_fold)
  k_steps
  all_goals try k_data
  refine Locked.mk ?_
  have hlen1 : (row.length : Int) ≤ 14 := by omega
  k_dflt (refine' comp_inv (J := fun i ys nw => ∃ sts, Strs long.toNat row i ys sts ∧ nw = (T, oT) :: (P, oP) :: (R, W.listOf wsR.toArray nR) :: (L + 1 + 1 + 1 + 1 + 1 + 1 + 1 + 1 + 1, o1) :: (L + 1 + 1 + 1 + 1 + 1 + 1 + 1 + 1, o2) :: (L + 1 + 1 + 1 + 1 + 1 + 1 + 1, o3) :: (L + 1 + 1 + 1 + 1 + 1 + 1, o4) :: (L + 1 + 1 + 1 + 1 + 1, o5) :: (L + 1 + 1 + 1 + 1, o6) :: (L + 1 + 1 + 1, o7) :: (L + 1 + 1, o8) :: (L + 1, o9) :: (tl ++ sts)) ?j0 ?turn ?fin)
  case j0 => exact ⟨[], .nil, by rw [List.append_nil]⟩
  case turn =>
    rintro i v I oI C oC D m₂ ys _ h tk E' hin ⟨t, hv⟩ ⟨sts, hst, rfl⟩ hC hx F1 N1 off ne
    clear ne hT6 hP6 hR6
    obtain ⟨k, hk⟩ : ∃ k, (0 : Int) + (i : Int) = k := ⟨_, rfl⟩
    rw [hk] at hv
    subst hv
    obtain ⟨k2, hk2⟩ : ∃ k2, k + long = k2 := ⟨_, rfl⟩
    have hk0 : 0 ≤ k := by omega
    have hk20 : 0 ≤ k2 := by omega
    have hk3 : k2 ≤ row.length := by omega
    k_steps
    all_goals try k_data
    refine Locked.mk ?_
    rename Fr _ _ _ _ => F2
    rename News _ _ _ _ => N2
    rename IntsAre _ (List.take _ _) => hS2
    rename I < _ ∧ _ => l1
    have hw : List.take (min k2.toNat row.length - k.toNat) (List.drop k.toNat row) = win long.toNat row i := by
      unfold win
      congr 1
      · omega
      · congr 1; omega
    rw [hw] at hS2
    have n1 := l1.1
    have n2 := l1.2.1
    have n3 := l1.2.2.1
    k_dflt (refine' LCg.CompEnd.intro F2 N2 _ ?sub ?off ?hS ⟨_, .snoc hst hS2, rfl⟩)
    case sub => exact sub_snoc (b := [_, _, _, _, _, _, _, _, _, _, _, _])
    case off => exact off_snoc (b := [_, _, _, _, _, _, _, _, _, _, _, _]) off (Nat.ne_of_gt n1) (Nat.ne_of_gt n2) (Nat.ne_of_gt n3)
    case hS => first | exact trivial | lcg_src
  case fin =>
    rintro ys _ ⟨sts, hst, rfl⟩
    unfold LCg.FinE
    intro D h tk F3 N3 off3
    have hne1 : ∀ p ∈ tl ++ sts, p.1 ≠ L + 1 + 1 + 1 + 1 + 1 + 1 := fun p hp => by
      rcases List.mem_append.mp hp with hp | hp
      · exact TL.ne N3 S (fun p9 h9 => by repeat (first | exact List.mem_append_left _ h9 | refine List.mem_cons_of_mem _ ?_)) (by k_mem) (Off.cell c4) p hp
      · exact hst.ne N3 (fun p9 h9 => by repeat (first | exact List.mem_append_right _ h9 | refine List.mem_cons_of_mem _ ?_)) (by k_mem) c4 p hp
    have off4 := off3
    simp only [LCg.Off1] at off3
    obtain ⟨e1, e2, e3, e4, e5, e6, e7, e8, e9, e10, e11, e12, _⟩ := off3
    (try dsimp only)
    (try k_unmd)
    (try k_fold)
    k_steps
    all_goals try k_data
    (try dsimp only)
    refine Locked.mk ?_
    rename Fr _ _ _ _ => F5
    rename News _ _ _ _ => N5
    rename _ = Data.cell (some (Value.ref D)) => d5
    exact next _ _ _ _ _ _ hst d5 off4 F5 N5
end
section
section
section
variable {w : World} {mean : ExcName → Option Value} {mg mb : Str → Option Value} {dp un : Nat} {fr : Option (List Env)} {gd : Option (List Code)} {s : Shared} {Q E : Value → Shared → Prop} {h₀ : Heap} {L : Addr} {m : Str → Option Value} {news own tl : List (Addr × Obj)}
theorem TL.sub (N : News (ghost h₀) L s.heap news) (ht : ∀ p ∈ tl, p ∈ news) : News (ghost h₀) L s.heap ([] ++ tl) := fun p hp => N p (ht p hp)
theorem TL.same {h' : Heap} (F : Fr (ghost h₀) L s.heap m) (N : News (ghost h₀) L s.heap news) (S : TL h₀ tl) (ht : ∀ p ∈ tl, p ∈ news) (f30 : Full30 tl) (f37 : Full37 tl) (X : Ext s.heap h') : (∀ b o, s.heap.get? b = some o → h'.get? b = some o) ∧ Fr (ghost h₀) L h' m ∧ News (ghost h₀) L h' news := by
  have k := X.keeps_of_hits (TL.hits F (TL.sub N ht) S f30 f37)
  exact ⟨k, F.keeps k, N.grown k⟩
theorem K_number {l : Addr} {vs : List Value} {ns : List Int} {base p k : Int} {tb tp : Tok} (F : Fr (ghost h₀) L s.heap m) (N : News (ghost h₀) L s.heap news) (S : TL h₀ tl) (ht : ∀ p ∈ tl, p ∈ news) (f30 : Full30 tl) (f37 : Full37 tl) (G : Good w mean mg mb h₀)
   (hdp : dp + 20 < 1000) (hp : Menu p) (hb : Base base) (hl : s.heap.IsList l vs.toArray) (hi : IntsAre vs ns) (hns : ∀ x ∈ ns, 0 ≤ x ∧ x < 3) (hk : num base p ns = k)
   (ret : ∀ h' tk t, Fr (ghost h₀) L h' m → News (ghost h₀) L h' news → Q (.int k t) { s with heap := h', toks := tk }) :
   wpAny (model PR w) (At dp un fr gd) (call (.ref 81) [.ref l, .int base tb, .int p tp]) Q E s := by
  subst hk
  refine number_ok (TL.good G F (TL.sub N ht) S).2 hdp hp hb hl hi hns fun h' tk t X9 G9 H9 => ?_
  obtain ⟨_, F', N'⟩ := TL.same F N S ht f30 f37 X9
  exact ret h' tk t F' N'
theorem K_rolled {l : Addr} {vs : List Value} {ns rs : List Int} {long base p : Int} {t0 tb tp : Tok} (F : Fr (ghost h₀) L s.heap m) (N : News (ghost h₀) L s.heap news) (S : TL h₀ tl) (ht : ∀ p ∈ tl, p ∈ news) (f30 : Full30 tl) (f37 : Full37 tl) (G : Good w mean mg mb h₀)
   (hdp : dp + 24 < 1000) (hp : Menu p) (hb : Base base) (hl1 : 1 ≤ long) (hl3 : long ≤ 3) (hl : s.heap.IsList l vs.toArray) (hi : IntsAre vs ns) (hns : ∀ x ∈ ns, 0 ≤ x ∧ x < 3) (hlen : ns.length < 100) (hk : rolls base p long.toNat ns = rs)
   (ret : ∀ D h' tk arr cnt, IntsAre arr.toList rs → Fr (ghost h₀) L h' m → News (ghost h₀) L h' ((D, W.listOf arr cnt) :: news) → AllNe D news → Q (.ref D) { s with heap := h', toks := tk }) :
   wpAny (model PR w) (At dp un fr gd) (call (.ref 88) [.ref l, .int long t0, .int base tb, .int p tp]) Q E s := by
  subst hk
  refine rolled_ok (TL.good G F (TL.sub N ht) S).2 hdp hp hb hl1 hl3 hl hi hns hlen fun D h' tk arr cnt X9 G9 H9 hD e hA => ?_
  obtain ⟨_, F', N'⟩ := TL.same F N S ht f30 f37 X9
  exact ret D h' tk arr cnt hA F' ((new_at2 F hD e).cons N') (apart_new N hD)
theorem K_bisect {x l : Addr} {vs : List Value} {ps : List (Int × Int)} {p : Int × Int} {args : List Value} {t0 : Tok} (F : Fr (ghost h₀) L s.heap m) (N : News (ghost h₀) L s.heap news) (S : TL h₀ tl) (ht : ∀ p ∈ tl, p ∈ news) (f30 : Full30 tl) (f37 : Full37 tl) (G : Good w mean mg mb h₀)
   (hdp : dp + 4 < 1000) (hun : un + 4 < cLine) (hl : s.heap.IsList l vs.toArray) (hps : Pairs s.heap vs ps) (hlen : ps.length < 100) (hx : IsPair s.heap x p) (hso : ps.Pairwise PLt)
   (hargs : (args = [.ref l, .ref x] ∧ t0 = 284) ∨ args = [.ref l, .ref x, .int 0 t0, .none])
   (ret : ∀ h' tk r k t, (r : Nat) = (k : Int) → Place ps p r → Fr (ghost h₀) L h' m → News (ghost h₀) L h' news → Q (.int k t) { s with heap := h', toks := tk }) :
   wpAny (model PR w) (At dp un fr gd) (call (.ref 74) args) Q E s := by
  have G1 := (TL.good G F (TL.sub N ht) S).2
  refine bisect_ok G1 hdp hun hlen hl (hps.ghost G1) (hx.ghost G1) hso hargs fun h' tk r t X9 G9 hr => ?_
  obtain ⟨_, F', N'⟩ := TL.same F N S ht f30 f37 X9
  exact ret h' tk r _ t rfl hr F' N'
theorem K_insort {x l : Addr} {vs : List Value} {ps : List (Int × Int)} {p : Int × Int} {n : Nat} {ta tb : Tok} {rest : List (Addr × Obj)} (F : Fr (ghost h₀) L s.heap m) (N : News (ghost h₀) L s.heap ((l, W.listOf vs.toArray n) :: rest)) (hne : ∀ q ∈ rest, q.1 ≠ l) (S : TL h₀ tl) (ht : ∀ p ∈ tl, p ∈ rest) (f30 : Full30 tl) (f37 : Full37 tl) (G : Good w mean mg mb h₀)
   (hdp : dp + 8 < 1000) (hun : un + 8 < cLine) (hlen : ps.length < 100) (hps : PairsN rest vs ps) (hx : (x, tupO [.int p.1 ta, .int p.2 tb]) ∈ rest) (hso : ps.Pairwise PLt)
   (ret : ∀ h' tk r, Place ps p r → Fr (ghost h₀) L h' m → News (ghost h₀) L h' ((l, W.listOf (vs.take r ++ .ref x :: vs.drop r).toArray (n + 1)) :: rest) → Q .none { s with heap := h', toks := tk }) :
   wpAny (model PR w) (At dp un fr gd) (call (.ref 65) [.ref l, .ref x]) Q E s := by
  have hl := N _ (.head _)
  have F2 : Fr (ghost h₀) L (less s.heap l) m := by
    obtain ⟨oL, es, ep, hL, r⟩ := F.ns
    refine ⟨⟨oL, es, ep, less_get hL (fun q => hl.2.1 q.symm), r⟩, fun b o e => less_get (F.keep b o e) (fun q => by rw [q, hl.2.2] at e; cases e), F.above⟩
  have N2 : News (ghost h₀) L (less s.heap l) rest := fun q hq => ⟨less_get (N q (.tail _ hq)).1 (hne q hq), (N q (.tail _ hq)).2⟩
  have G2 := (TL.good (h := less s.heap l) G F2 (TL.sub (s := { s with heap := less s.heap l }) N2 ht) S).2
  refine insort_ok (p := p) G2 hdp hun hlen hl.1 (hps.heap N2 fun _ h => h) (pair_news N2 hx) hso fun h' tk r X9 G9 hr e => ?_
  obtain ⟨_, F', N'⟩ := TL.same (s := { s with heap := less s.heap l }) F2 N2 S ht f30 f37 X9
  exact ret h' tk r hr F' fun q hq => by
    rcases List.mem_cons.mp hq with rfl | hq
    · exact ⟨e, hl.2⟩
    · exact N' q hq
end
section
variable {w : World} {A : Around} {h₀ : Heap} {L : Addr} {m : Str → Option Value} {env : Env} {ct elt : PySem.Expr} {x : Str} {scope : Scope} {cl : List (Str × Addr)} {s : Shared} {S : List (Addr × Obj) → Prop} {P : Nat → Value → Prop} {Fin : List Value → List (Addr × Obj) → Prop} {news : List (Addr × Obj)}
/-- a comprehension with a test by an invariant of turn, items and ledger -/
theorem compT_inv {n : Nat} (J : Nat → List Value → List (Addr × Obj) → Prop) (h0 : J 0 [] news)
    (turn : ∀ i v I oI C oC D m₂ ys news₁ h tk (E' : Value → Shared → Prop), i < n → P i v → J i ys news₁ → LCg.NsObj oC m₂ → m₂ x = some v → Fr h₀ L h m → News h₀ L h ((I, oI) :: (C, oC) :: (D, LCg.lst ys) :: news₁) → LCg.Off3 I C D news₁ → ((@Ne Nat I C) ∧ (@Ne Nat I D) ∧ (@Ne Nat C D)) →
      wpAny (model PR w) A (isTrue ct (compEnvC scope cl C env) (eval ct (compEnvC scope cl C env))) (fun b s' => if b = true then wpAny (model PR w) A (eval elt (compEnvC scope cl C env)) (LCg.CompEnd h₀ L m { s with heap := h, toks := tk } I oI C oC D (LCg.lst ys) S (fun y news' => J (i + 1) (ys ++ [y]) news')) E' s'
        else LCg.CompEnd h₀ L m { s with heap := h, toks := tk } I oI C oC D (LCg.lst ys) S (fun _ news' => J (i + 1) ys news') Value.none s') E' { s with heap := h, toks := tk })
    (fin : ∀ ys news', J n ys news' → Fin ys news') : LCt.CompRestT PR w A h₀ L m env ct elt x scope cl s S P Fin n 0 [] news := by
  have key : ∀ (j i : Nat) (ys : List Value) (nw : List (Addr × Obj)), i + j = n → J i ys nw → LCt.CompRestT PR w A h₀ L m env ct elt x scope cl s S P Fin j i ys nw := by
    intro j
    induction j with
    | zero =>
      intro i ys nw hi hJ
      obtain rfl : i = n := by omega
      exact LCt.CompRestT.zero (fin ys nw hJ)
    | succ j ih =>
      intro i ys nw hi hJ
      refine LCt.CompRestT.succ ?_
      intro v I oI C oC D m₂ h tk E' hv hC hx F N off ne
      refine wpAny_mono (turn i v I oI C oC D m₂ ys nw h tk E' (by omega) hv hJ hC hx F N off ne) (fun b s₂ hq => ?_) fun _ _ e => e
      cases b with
      | true =>
        simp only [if_true] at hq ⊢
        refine wpAny_mono hq (fun y s₃ hr => ?_) fun _ _ e => e
        obtain ⟨h', tk', nw', e, F', N', off', hS, hJ'⟩ := hr
        exact ⟨h', tk', nw', e, F', N', off', hS, ih (i + 1) _ _ (by omega) hJ'⟩
      | false =>
        simp only [Bool.false_eq_true, if_false] at hq ⊢
        obtain ⟨h', tk', nw', e, F', N', off', hS, hJ'⟩ := hq
        exact ⟨h', tk', nw', e, F', N', off', hS, ih (i + 1) _ _ (by omega) hJ'⟩
  exact key n 0 [] news (by omega) h0
end
section
variable {w : World} {A : Around} {s : Shared} {Q E : Value → Shared → Prop} {h₀ : Heap} {L : Addr} {m : Str → Option Value} {news : List (Addr × Obj)} {l : Addr} {vs : List Value} {n : Nat} {k : Int}
theorem len_own (N : News h₀ L s.heap news) (hm : (l, W.listOf vs.toArray n) ∈ news) (hk : (vs.length : Int) = k) (hfit : k < 1000) (h : Q (.int k (s.toks + 1)) { s with toks := s.toks + 1 + 1 }) : wpAny (model PR w) A (call (.builtin "len") [.ref l]) Q E s := by
  have hl' : s.heap.IsList l vs.toArray := ⟨_, (N _ hm).1, rfl, _, rfl⟩
  subst hk
  exact call_len_list hl' (by simp; omega) (by simpa using h)
end
section
variable {w : World} {A : Around} {s : Shared} {Q E : Value → Shared → Prop} {h₀ : Heap} {L : Addr} {news : List (Addr × Obj)} {a b : Addr} {us vs : List Value} {ns ms : List Int} {n k : Nat} {r : Bool}
theorem ne_nils (N : News h₀ L s.heap news) (ha : (a, W.listOf ([] : List Value).toArray n) ∈ news) (hb : (b, W.listOf ([] : List Value).toArray k) ∈ news) (hu : A.units + 64 < cLine) (h : Q (.bool false) s) : wpAny (model PR w) A (compareOp .NotEq (.ref a) (.ref b)) Q E s :=
  ne_intsK (ns := []) (ms := []) ⟨_, (N _ ha).1, rfl, _, rfl⟩ .nil ⟨_, (N _ hb).1, rfl, _, rfl⟩ .nil hu h
theorem ne_lists (N : News h₀ L s.heap news) (ha : (a, W.listOf us.toArray n) ∈ news) (hb : (b, W.listOf vs.toArray k) ∈ news) (hi : IntsAre us ns) (hj : IntsAre vs ms) (hu : A.units + 64 < cLine) (hr : decide (ns = ms) = r) (h : Q (.bool (!r)) s) : wpAny (model PR w) A (compareOp .NotEq (.ref a) (.ref b)) Q E s := by
  subst hr
  exact ne_intsK ⟨_, (N _ ha).1, rfl, _, rfl⟩ hi ⟨_, (N _ hb).1, rfl, _, rfl⟩ hj hu h
theorem eq_lists (N : News h₀ L s.heap news) (ha : (a, W.listOf us.toArray n) ∈ news) (hb : (b, W.listOf vs.toArray k) ∈ news) (hi : IntsAre us ns) (hj : IntsAre vs ms) (hu : A.units + 64 < cLine) (hr : decide (ns = ms) = r) (h : Q (.bool r) s) : wpAny (model PR w) A (compareOp .Eq (.ref a) (.ref b)) Q E s := by
  subst hr
  exact eq_intsK ⟨_, (N _ ha).1, rfl, _, rfl⟩ hi ⟨_, (N _ hb).1, rfl, _, rfl⟩ hj hu h
end
theorem allLt_mem {d : Nat} : ∀ {l : List (Addr × Obj)}, AllLt d l → ∀ p ∈ l, @LT.lt Nat _ p.1 d
  | [], _, _, h => nomatch h
  | _ :: _, x, p, h => by
    rcases List.mem_cons.mp h with rfl | h
    · exact x.1
    · exact allLt_mem x.2 p h
theorem rolls_range {base p : Int} {n : Nat} {ns : List Int} (hp : 0 < p) : ∀ x ∈ rolls base p n ns, 0 ≤ x ∧ x < p := fun x hx => by
  unfold rolls at hx
  split at hx
  · cases hx
  · obtain ⟨k, _, rfl⟩ := List.mem_map.mp hx
    exact num_range hp _
theorem rolls_get {base p : Int} {n : Nat} {ns : List Int} {i : Nat} (h : i < (rolls base p n ns).length) : (rolls base p n ns)[i]? = some (num base p (win n ns i)) ∧ i + n ≤ ns.length := by
  unfold rolls at h ⊢
  split at h
  · cases h
  · rename_i h1
    rw [if_neg h1]
    rw [List.length_map, List.length_range] at h
    rw [List.getElem?_map, List.getElem?_range h]
    exact ⟨rfl, by omega⟩
theorem rolls_length {base p : Int} {n : Nat} {ns : List Int} : (rolls base p n ns).length = ns.length + 1 - n ∨ (ns.length < n ∧ (rolls base p n ns).length = 0) := by
  unfold rolls
  split
  · rename_i h; exact .inr ⟨h, rfl⟩
  · rename_i h; exact .inl (by rw [List.length_map, List.length_range]; omega)
theorem fr_back {h₀ h : Heap} {L : Addr} {m : Str → Option Value} {x : Str} {v : Value} (e : m x = some v) (F : Fr h₀ L h (fun z => if z = x then some v else m z)) : Fr h₀ L h m := by
  have : (fun z => if z = x then some v else m z) = m := by
    funext z
    by_cases q : z = x
    · subst q; simp [e]
    · simp [q]
  rw [this] at F; exact F
/-- the stretches, as the ledger has them -/
def Sts (n : Nat) (row : List Int) (k : Nat) (ys : List Value) (ex : List (Addr × Obj)) : Prop := ys.length = k ∧ ∀ i, i < k → ∃ a ws, ys[i]? = some (.ref a) ∧ (a, W.listOf (List.toArray ws) 0) ∈ ex ∧ IntsAre ws (win n row i)
theorem Strs.sts {n : Nat} {row : List Int} {k : Nat} {ys : List Value} {sts : List (Addr × Obj)} (x : Strs n row k ys sts) : Sts n row k ys sts := by
  induction x with
  | nil => exact ⟨rfl, fun i h => absurd h (Nat.not_lt_zero _)⟩
  | @snoc k ys sts a ws y hw ih =>
    have hk : ys.length = k := ih.1
    refine ⟨by rw [List.length_append, ih.1]; rfl, fun i hi => ?_⟩
    rcases Nat.lt_or_ge i k with h | h
    · obtain ⟨b, vs, e, hm, hv⟩ := ih.2 i h
      exact ⟨b, vs, by rw [List.getElem?_append_left (by omega)]; exact e, List.mem_append_left _ hm, hv⟩
    · obtain rfl : i = k := by omega
      exact ⟨a, ws, by rw [List.getElem?_append_right (by omega), ih.1, Nat.sub_self]; rfl, List.mem_append_right _ (.head _), hw⟩
theorem Strs.imms {n : Nat} {row : List Int} {k : Nat} {ys : List Value} {sts : List (Addr × Obj)} (x : Strs n row k ys sts) : Imms sts := fun p hp => by
  obtain ⟨ws, e⟩ := x.seq p hp
  rw [e]; exact imm_list
theorem Sts.more {n : Nat} {row : List Int} {k : Nat} {ys : List Value} {ex ex' : List (Addr × Obj)} (x : Sts n row k ys ex) (h : ∀ p ∈ ex, p ∈ ex') : Sts n row k ys ex' := ⟨x.1, fun i hi => by
  obtain ⟨a, ws, e, hm, hv⟩ := x.2 i hi
  exact ⟨a, ws, e, h _ hm, hv⟩⟩
end
local macro_rules | `(tactic| k_all) => `(tactic| with_reducible assumption)
local macro_rules | `(tactic| ktr_rel) => `(tactic| exact fun p9 h9 => by repeat (first | exact List.mem_append_right _ h9 | exact h9 | refine List.mem_cons_of_mem _ ?_))
theorem rows_PA_14 : True := by
  k_with "CompSrc" => (k_here; k_dflt (refine LCg.CompSrc.range (by rfl) (by k_asm) (by k_asm) (by assumption) (by exact small_one (by omega) (by omega) (by omega) (by omega)) (by exact rangeSize_nat _ _) (by rw [PySem.sizeLine_eq]; omega) ?_; intro gZ9; refine Locked.out ?_))
  k_with "CompSrcT" => (k_here; k_dflt (refine LCt.CompSrcT.range (by rfl) (by k_asm) (by k_asm) (by assumption) (by exact small_one (by omega) (by omega) (by omega) (by omega)) (by exact rangeSize_nat _ _) (by rw [PySem.sizeLine_eq]; omega) ?_; intro gZ9; refine Locked.out ?_))
  k_with "CompEnd" => (k_here; refine Locked.out ?_)
  k_with "call builtin:len" => (k_here; (with_reducible show wpAny _ _ (call (Value.builtin "len") [Value.ref _]) _ _ _); k_dflt (refine' len_own (by k_asm) (by k_mem) (by with_reducible assumption) (by omega) ?_; k_whole))
  k_with "call ref" => (k_here; (with_reducible show wpAny _ _ (call (Value.ref 81) _) _ _ _); k_dflt (refine' K_number (by k_asm) (by k_asm) (by assumption) (by ktr_rel) (by assumption) (by assumption) (by assumption) (by ktr_room) (by with_reducible assumption) (by with_reducible assumption) (by exact isList_own (by k_asm) (by k_mem)) (by with_reducible assumption) (by with_reducible assumption) (by with_reducible assumption) ?_; k_whole); intro hZ9 tkZ9 tZ9 FZ9 NZ9)
  k_with "subscriptTail Name Name ref int" => (k_here; (with_reducible show wpAny _ _ (subscriptTail _ _ (Value.ref _) (Value.int _ _)) _ _ _); k_dflt (refine' item_own (by k_asm) (by k_mem) (by (first | decide | omega)) (by (first | decide | omega)) (by with_reducible assumption) ?_ (by with_unfolding_all rfl); k_whole))
  k_with "subscriptTail Name BinOp ref int" => (k_here; (with_reducible show wpAny _ _ (subscriptTail _ _ (Value.ref _) (Value.int _ _)) _ _ _); k_dflt (refine' item_own (by k_asm) (by k_mem) (by (first | decide | omega)) (by (first | decide | omega)) (by with_reducible assumption) ?_ (by with_unfolding_all rfl); k_whole))
  k_with "compareOp NotEq ref ref" => (k_here; k_dflt (first | (refine' ne_nils (by k_asm) (by k_mem) (by k_mem) (by ((try dsimp only [At, Around.deeper]); omega)) ?_; k_whole) | (refine' ne_lists (by k_asm) (by k_mem) (by k_mem) (by with_reducible assumption) (by with_reducible assumption) (by ((try dsimp only [At, Around.deeper]); omega)) (by with_reducible assumption) ?_; k_whole)))
  k_with "compareOp Eq ref ref" => (k_here; k_dflt (refine' eq_lists (by k_asm) (by k_mem) (by k_mem) (by with_reducible assumption) (by with_reducible assumption) (by ((try dsimp only [At, Around.deeper]); omega)) (by with_reducible assumption) ?_; k_whole))
  trivial
section
theorem law_5 {w : World} {mean mg mb} {dp un fr gd} {s : Shared} {g : Heap} {Q : Flow → Shared → Prop} {E : Value → Shared → Prop} {L : Addr} {m : Str → Option Value}
   {fd : FuncData} {body : List Stmt} {oc : Value} {od : Option Addr} {osl : Array (Option Value)} (ho : (hd.heap_39 w.params).lookup 93 = some ⟨oc, od, .func fd, osl⟩) (hbody : fd.body = .stmts body) (G : Good w mean mg mb g)
   (hdp : dp + 60 < 1000) (hun : un + 100 < cLine) {row : List Int} {long prime : Int} {o1 o2 o3 o4 o5 o6 o7 o8 o9 : Obj} {tl ex : List (Addr × Obj)} (S : TL g tl) (I : Imms ex) (F : Fr (ghost g) L s.heap m) (N : News (ghost g) L s.heap ((L + 1 + 1 + 1 + 1 + 1 + 1 + 1 + 1 + 1, o1) :: (L + 1 + 1 + 1 + 1 + 1 + 1 + 1 + 1, o2) :: (L + 1 + 1 + 1 + 1 + 1 + 1 + 1, o3) :: (L + 1 + 1 + 1 + 1 + 1 + 1, o4) :: (L + 1 + 1 + 1 + 1 + 1, o5) :: (L + 1 + 1 + 1 + 1, o6) :: (L + 1 + 1 + 1, o7) :: (L + 1 + 1, o8) :: (L + 1, o9) :: (ex ++ tl)))
   (hP : Menu prime) (hlong1 : 1 ≤ long) (hlong3 : long ≤ 3) (hrowl : row.length ≤ 14) (hrowr : ∀ x ∈ row, 0 ≤ x ∧ x < 3) {tL tP : Tok} (c8 : o8.data = .cell (some (.int prime tP))) (c9 : o9.data = .cell (some (.int long tL)))
   {T : Addr} {wsT : List Value} {nT : Nat} (mT : (T, W.listOf wsT.toArray nT) ∈ ex) (hT : IntsAre wsT (rolls 3 prime long.toNat row)) (c5 : o5.data = .cell (some (.ref T)))
   {D : Addr} {ys : List Value} {nD : Nat} (mD : (D, W.listOf ys.toArray nD) ∈ ex) (hst : Sts long.toNat row ((row.length : Int) - long + 1 - 0).toNat ys ex) (c4 : o4.data = .cell (some (.ref D)))
   (hfull : rolls 3 prime long.toNat row ≠ [] → Full30 tl ∧ Full37 tl)
   (next : ∀ h' tk, Fr (ghost g) L h' m → News (ghost g) L h' ((L + 1 + 1 + 1 + 1 + 1 + 1 + 1 + 1 + 1, o1) :: (L + 1 + 1 + 1 + 1 + 1 + 1 + 1 + 1, o2) :: (L + 1 + 1 + 1 + 1 + 1 + 1 + 1, o3) :: (L + 1 + 1 + 1 + 1 + 1 + 1, o4) :: (L + 1 + 1 + 1 + 1 + 1, o5) :: (L + 1 + 1 + 1 + 1, o6) :: (L + 1 + 1 + 1, o7) :: (L + 1 + 1, o8) :: (L + 1, o9) :: (ex ++ tl)) →
     wpAny (model PR w) ((At dp un fr gd).deeper (envOfC fd.qualname fd.scope L 93 fd.code)) (execs (body.drop 6) (envOfC fd.qualname fd.scope L 93 fd.code)) Q E { s with heap := h', toks := tk }) :
   wpAny (model PR w) ((At dp un fr gd).deeper (envOfC fd.qualname fd.scope L 93 fd.code)) (execs (body.drop 5) (envOfC fd.qualname fd.scope L 93 fd.code)) Q E s := by
  have X := G.g.X
  have T0 := G.g.T
  k_dflt (refine' fetch2 (K := hd.heap_39 w.params) (a := 93) ?k1 ?_; (case k1 => k_is))
  intro e93
  have e := fn_inj ho e93
  subst e
  injection hbody with hbody
  subst hbody
  clear ho e93
  simp only [List.drop_succ_cons, List.drop_zero]
  refine exec_one ?_
  have N1 := news_add (p := (T, W.listOf wsT.toArray nT)) (by repeat (first | exact List.mem_append_left _ mT | refine List.mem_cons_of_mem _ ?_)) (news_add (p := (D, W.listOf ys.toArray nD)) (by repeat (first | exact List.mem_append_left _ mD | refine List.mem_cons_of_mem _ ?_)) N)
  clear N
  obtain ⟨kT, hkT⟩ : ∃ kT : Int, (wsT.length : Int) = kT := ⟨_, rfl⟩
  have hkD : (ys.length : Int) = kT := by
    rw [← hkT, hT.length, hst.1]
    unfold rolls
    split <;> simp <;> omega
  have hkT2 : kT ≤ 14 ∧ 0 ≤ kT := by
    have := hst.1
    omega
  (try dsimp only); (try k_fold)
  k_steps
  all_goals try k_data
  all_goals first | (exfalso; omega) | skip
  refine Locked.mk ?_
  k_dflt (refine' compT_inv (J := fun i zs nw => zs = [] ∧ nw = (T, W.listOf wsT.toArray nT) :: (D, W.listOf ys.toArray nD) :: (L + 1 + 1 + 1 + 1 + 1 + 1 + 1 + 1 + 1, o1) :: (L + 1 + 1 + 1 + 1 + 1 + 1 + 1 + 1, o2) :: (L + 1 + 1 + 1 + 1 + 1 + 1 + 1, o3) :: (L + 1 + 1 + 1 + 1 + 1 + 1, o4) :: (L + 1 + 1 + 1 + 1 + 1, o5) :: (L + 1 + 1 + 1 + 1, o6) :: (L + 1 + 1 + 1, o7) :: (L + 1 + 1, o8) :: (L + 1, o9) :: (ex ++ tl)) ?j0 ?turn ?fin)
  case j0 => exact ⟨rfl, rfl⟩
  case turn =>
    rintro i v I1 oI C1 oC D1 m₂ zs _ h tk E' hin ⟨t, hv⟩ ⟨rfl, rfl⟩ hC hx F1 N2 off ne
    clear ne
    obtain ⟨k, hk⟩ : ∃ k, (0 : Int) + (i : Int) = k := ⟨_, rfl⟩
    rw [hk] at hv
    subst hv
    have hik : i = k.toNat := by omega
    subst hik
    have hlen := hst.1
    have hTl := hT.length
    have hroll : rolls 3 prime long.toNat row = (List.range (row.length - long.toNat + 1)).map fun k => num 3 prime (win long.toNat row k) := by
      unfold rolls; rw [if_neg (by omega)]
    obtain ⟨f30, f37⟩ := hfull (by rw [hroll]; simp)
    obtain ⟨a, ws, ha, hma, hwa⟩ := hst.2 k.toNat (by omega)
    obtain ⟨ta, hxa⟩ := hT.get k.toNat (num 3 prime (win long.toNat row k.toNat)) (by rw [hroll, List.getElem?_map, List.getElem?_range (by omega)]; rfl)
    have hxa2 : wsT.toArray[k.toNat]? = some (Value.int (num 3 prime (win long.toNat row k.toNat)) ta) := by simpa using hxa
    have hya2 : ys.toArray[k.toNat]? = some (Value.ref a) := by simpa using ha
    have hwr : ∀ x ∈ win long.toNat row k.toNat, 0 ≤ x ∧ x < 3 := fun x hx => hrowr x (List.mem_of_mem_drop (List.mem_of_mem_take hx))
    have hk0 : 0 ≤ k := by omega
    have hk1 : k < 2 ^ 63 := by omega
    have hb3 : Base 3 := .inl rfl
    have N3 := news_add (p := (a, W.listOf ws.toArray 0)) (by repeat (first | exact List.mem_append_left _ hma | refine List.mem_cons_of_mem _ ?_)) N2
    clear N2
    generalize hnum : num 3 prime (win long.toNat row k.toNat) = nk at *
    k_steps
    all_goals try k_data
    all_goals first | (exfalso; omega) | skip
    refine Locked.mk ?_
    rename Fr _ _ _ _ => F2
    rename News _ _ _ _ => N4
    exact LCg.CompEnd.intro F2 (news_tl N4) _ (fun p hp => hp) off trivial ⟨rfl, rfl⟩
  case fin =>
    rintro zs _ ⟨rfl, rfl⟩
    unfold LCg.FinE
    intro D1 h tk F3 N3 off3
    clear off3
    (try dsimp only)
    (try k_unmd)
    (try k_fold)
    k_steps
    all_goals try k_data
    k_unmd
    k_steps
    all_goals try k_data
    (try dsimp only)
    refine Locked.mk ?_
    rename Fr _ _ _ _ => F5
    rename News _ _ _ _ => N5
    exact next _ _ F5 (news_sub N5 fun p9 h9 => by repeat (first | exact h9 | refine List.mem_cons_of_mem _ ?_))
end
section
/-- a for over enumerate of a list, by an invariant -/
theorem items_inv {w : World} {A : Around} {E : Value → Shared → Prop} {h₀ : Heap} {env : Env} {target : PySem.Expr} {body : List Stmt} {Q : Flow → Shared → Prop} {s : Shared} {I : Addr} {keep : List (Addr × Obj)} {vs : List Value} {m : Str → Option Value} {news : List (Addr × Obj)}
    (J : Nat → (Str → Option Value) → List (Addr × Obj) → Prop) (h0 : J 0 m news)
    (turn : ∀ i v m₁ news₁ T t h tk oE oL, vs[i]? = some v → J i m₁ news₁ → IsTup h T #[.int ((i : Nat) : Int) t, v] → oE.cls = .type "enumerate" → oL.cls = .type "list_iterator" → Fr h₀ env.locals h m₁ → News h₀ env.locals h ((I + 1, oE) :: (I, oL) :: news₁) →
      wpAny (model PR w) A (assign target env (.ref T)) (fun _ s₂ => wpAny (model PR w) A (execs body env) (UnrPostW h₀ env.locals { s with heap := h, toks := tk } [(I + 1, oE), (I, oL)] (fun m' n' => SubL keep n' ∧ J (i + 1) m' n') Q) E s₂) E { s with heap := h, toks := tk })
    (done : ∀ h tk m₁ news₁, J vs.length m₁ news₁ → Fr h₀ env.locals h m₁ → News h₀ env.locals h news₁ → Q .next { s with heap := h, toks := tk }) :
    ItemsRest PR w A E h₀ env target body Q s [(I + 1, "enumerate"), (I, "list_iterator")] keep (enumItems 0 vs) m news := by
  have key : ∀ (r : List Value) (i : Nat) (m : Str → Option Value) (news : List (Addr × Obj)), vs.drop i = r → i ≤ vs.length → J i m news → ItemsRest PR w A E h₀ env target body Q s [(I + 1, "enumerate"), (I, "list_iterator")] keep (enumItems i r) m news := by
    intro r
    induction r with
    | nil =>
      intro i m news hr hle hJ
      have : i = vs.length := by
        have := congrArg List.length hr
        rw [List.length_drop] at this
        simp at this
        omega
      subst this
      exact ItemsRest.zero fun h tk F N => done h tk m news hJ F N
    | cons v r ih =>
      intro i m news hr hle hJ
      have hlt : i < vs.length := by
        have := congrArg List.length hr
        rw [List.length_drop] at this
        simp at this
        omega
      have hv : vs[i]? = some v := by
        have := congrArg (fun l => l[0]?) hr
        simpa using this
      have hr' : vs.drop (i + 1) = r := by
        have := congrArg (List.drop 1) hr
        rw [List.drop_drop] at this
        simpa using this
      refine ItemsRest.pair fun T t h tk ht F => AllObj.cons fun oE hE => AllObj.cons fun oL hL => AllObj.nil fun N => ?_
      refine wpAny_mono (turn i v m news T t h tk oE oL hv hJ ht hE hL F N) (fun u s₂ hq => wpAny_mono hq (fun f s₃ hp => ?_) fun _ _ e => e) fun _ _ e => e
      have up : ∀ s₄, UnrEndW h₀ env.locals { s with heap := h, toks := tk } [(I + 1, oE), (I, oL)] (fun m' n' => SubL keep n' ∧ J (i + 1) m' n') s₄ → UnrEndW h₀ env.locals { s with heap := h, toks := tk } [(I + 1, oE), (I, oL)] (fun m' n' => SubL keep n' ∧ ItemsRest PR w A E h₀ env target body Q s [(I + 1, "enumerate"), (I, "list_iterator")] keep (enumItems (i + 1) r) m' n') s₄ := by
        rintro s₄ ⟨h', tk', m', n', e, F', N', off, hk, hj⟩
        exact ⟨h', tk', m', n', e, F', N', off, hk, ih (i + 1) m' n' hr' hlt hj⟩
      cases f with
      | ret v => exact hp
      | brk => exact hp
      | next => exact up _ hp
      | cont => exact up _ hp
  exact key vs 0 m news rfl (Nat.zero_le _) h0
/-- the order after i turns -/
def Ord (told : List Int) (i : Nat) (ps : List (Int × Int)) : Prop := ps.Pairwise PLt ∧ ps.length = i ∧ ∀ p : Int × Int, p ∈ ps ↔ ∃ k, k < i ∧ told[k]? = some p.1 ∧ p.2 = ((k : Nat) : Int)
theorem Ord.nil (told : List Int) : Ord told 0 [] := ⟨.nil, rfl, fun p => by simp⟩
theorem Ord.ins {told : List Int} {i r : Nat} {ps : List (Int × Int)} {n : Int} (h : Ord told i ps) (hn : told[i]? = some n) (hr : Place ps (n, (i : Int)) r) : Ord told (i + 1) (ps.take r ++ (n, (i : Int)) :: ps.drop r) := by
  obtain ⟨h1, h2, h3⟩ := h
  obtain ⟨r1, r2, r3⟩ := hr
  have hnm : ((n, (i : Int)) : Int × Int) ∉ ps := fun q => by
    obtain ⟨k, hk, _, e⟩ := (h3 _).mp q
    simp only at e
    omega
  refine ⟨?_, ?_, ?_⟩
  · rw [List.pairwise_append]
    refine ⟨h1.sublist (List.take_sublist _ _), ?_, ?_⟩
    · rw [List.pairwise_cons]
      refine ⟨fun q hq => ?_, h1.sublist (List.drop_sublist _ _)⟩
      obtain ⟨j, hj⟩ := List.getElem?_of_mem hq
      rw [List.getElem?_drop] at hj
      have h4 := r3 (r + j) q (by omega) hj
      have h5 : q ≠ (n, (i : Int)) := fun e => hnm (e ▸ List.mem_of_getElem? hj)
      unfold PLt at *
      have h6 : ¬ (q.1 = n ∧ q.2 = (i : Int)) := fun e => h5 (Prod.ext e.1 e.2)
      simp only at h4 ⊢
      omega
    · intro q hq q' hq'
      obtain ⟨j, hj⟩ := List.getElem?_of_mem hq
      have hjr : j < r := by
        have := (List.getElem?_eq_some_iff.mp hj).1
        rw [List.length_take] at this
        omega
      rw [List.getElem?_take_of_lt hjr] at hj
      rcases List.mem_cons.mp hq' with rfl | hq'
      · exact r2 j q hjr hj
      · obtain ⟨j', hj'⟩ := List.getElem?_of_mem hq'
        rw [List.getElem?_drop] at hj'
        rcases pair_le h1 (by omega) hj hj' with e | e
        · subst e
          have a1 := r2 j q hjr hj
          exact absurd a1 (r3 (r + j') q (by omega) hj')
        · exact e
  · rw [List.length_append, List.length_cons, List.length_take, List.length_drop]; omega
  · intro p
    have : p ∈ ps.take r ++ (n, (i : Int)) :: ps.drop r ↔ p = (n, (i : Int)) ∨ p ∈ ps := by
      rw [List.mem_append, List.mem_cons]
      constructor
      · rintro (a | a | a)
        · exact .inr (List.mem_of_mem_take a)
        · exact .inl a
        · exact .inr (List.mem_of_mem_drop a)
      · rintro (a | a)
        · exact .inr (.inl a)
        · rw [← List.take_append_drop r ps, List.mem_append] at a
          rcases a with a | a
          · exact .inl a
          · exact .inr (.inr a)
    rw [this, h3]
    constructor
    · rintro (rfl | ⟨k, hk, e1, e2⟩)
      · exact ⟨i, Nat.lt_succ_self _, hn, rfl⟩
      · exact ⟨k, by omega, e1, e2⟩
    · rintro ⟨k, hk, e1, e2⟩
      rcases Nat.lt_or_ge k i with h | h
      · exact .inr ⟨k, h, e1, e2⟩
      · obtain rfl : k = i := by omega
        rw [hn] at e1
        exact .inl (Prod.ext (Option.some.inj e1).symm e2)
theorem mem_mid {X : Type} {a b r : List X} {q : X} (h : q ∈ a ++ (b ++ r)) : q ∈ b ∨ q ∈ a ++ r := by
  simp only [List.mem_append] at h ⊢
  rcases h with h | h | h <;> simp [h]
theorem perm_in {X : Type} {x a b l : X} {r : List X} : ∀ p ∈ l :: x :: a :: b :: r, p ∈ x :: a :: b :: l :: r := by
  intro p hp
  simp only [List.mem_cons] at hp ⊢
  rcases hp with h | h | h | h | h <;> simp [h]
theorem perm_out {X : Type} {x a b l : X} {c d r : List X} : ∀ p ∈ [a, b] ++ l :: (c ++ ((x :: d) ++ r)), p ∈ l :: x :: a :: b :: (c ++ (d ++ r)) := by
  intro p hp
  simp only [List.mem_cons, List.mem_append, List.not_mem_nil, or_false] at hp ⊢
  rcases hp with (h | h) | h | h | (h | h) | h <;> simp [h]
theorem K_insort3 {w : World} {mean : ExcName → Option Value} {mg mb : Str → Option Value} {dp un : Nat} {fr : Option (List Env)} {gd : Option (List Code)} {s : Shared} {Q E : Value → Shared → Prop} {h₀ : Heap} {L : Addr} {m : Str → Option Value} {tl : List (Addr × Obj)}
   {x l : Addr} {vs : List Value} {ps : List (Int × Int)} {p : Int × Int} {n : Nat} {ta tb : Tok} {a b : Addr × Obj} {rest : List (Addr × Obj)} (F : Fr (ghost h₀) L s.heap m) (N : News (ghost h₀) L s.heap ((x, tupO [.int p.1 ta, .int p.2 tb]) :: a :: b :: (l, W.listOf vs.toArray n) :: rest))
   (hx : x ≠ l) (ha : a.1 ≠ l) (hb : b.1 ≠ l) (hne : ∀ q ∈ rest, q.1 ≠ l) (S : TL h₀ tl) (ht : ∀ p ∈ tl, p ∈ rest) (f30 : Full30 tl) (f37 : Full37 tl) (G : Good w mean mg mb h₀)
   (hdp : dp + 8 < 1000) (hun : un + 8 < cLine) (hlen : ps.length < 100) (hps : PairsN rest vs ps) (hso : ps.Pairwise PLt)
   (ret : ∀ h' tk r, Place ps p r → Fr (ghost h₀) L h' m → News (ghost h₀) L h' ((l, W.listOf (vs.take r ++ .ref x :: vs.drop r).toArray (n + 1)) :: (x, tupO [.int p.1 ta, .int p.2 tb]) :: a :: b :: rest) → Q .none { s with heap := h', toks := tk }) :
   wpAny (model PR w) (At dp un fr gd) (call (.ref 65) [.ref l, .ref x]) Q E s :=
  K_insort F (news_sub N perm_in) (fun q hq => by
    rcases List.mem_cons.mp hq with rfl | hq
    · exact hx
    · rcases List.mem_cons.mp hq with rfl | hq
      · exact ha
      · rcases List.mem_cons.mp hq with rfl | hq
        · exact hb
        · exact hne q hq) S (fun p hp => .tail _ (.tail _ (.tail _ (ht p hp)))) f30 f37 G hdp hun hlen (hps.more fun q hq => .tail _ (.tail _ (.tail _ hq))) (.head _) hso ret
theorem rows_S7_15 : True := by
  k_with "UnrPostW" => (k_here; refine Locked.out ?_)
  k_with "exec For Tuple Call" => (k_here; (rename Fr _ _ _ _ => lF'); (with_unfolding_all refine' For_turns (hE := (by assumption)) lF' ?_; k_whole))
  k_with "exec For Tuple Call cons nil" => (k_here; (rename Fr _ _ _ _ => lF'); (with_unfolding_all refine' For_turns (hE := (by assumption)) lF' ?_; k_whole))
  k_with "call type:enumerate" => (k_here; refine Locked.out ?_)
  k_with "call ref" => (k_here; (with_reducible show wpAny _ _ (call (Value.ref 65) _) _ _ _); refine Locked.out ?_)
  trivial
theorem law_6 {w : World} {mean mg mb} {dp un fr gd} {s : Shared} {g : Heap} {Q : Flow → Shared → Prop} {E : Value → Shared → Prop} {L : Addr} {m : Str → Option Value}
   {fd : FuncData} {body : List Stmt} {oc : Value} {od : Option Addr} {osl : Array (Option Value)} (ho : (hd.heap_39 w.params).lookup 93 = some ⟨oc, od, .func fd, osl⟩) (hbody : fd.body = .stmts body) (G : Good w mean mg mb g)
   (hdp : dp + 60 < 1000) (hun : un + 100 < cLine) {row : List Int} {long prime : Int} {o1 o2 o3 o4 o5 o6 o7 o8 o9 : Obj} {tl ex : List (Addr × Obj)} (S : TL g tl) (I : Imms ex) (F : Fr (ghost g) L s.heap m) (N : News (ghost g) L s.heap ((L + 1 + 1 + 1 + 1 + 1 + 1 + 1 + 1 + 1, o1) :: (L + 1 + 1 + 1 + 1 + 1 + 1 + 1 + 1, o2) :: (L + 1 + 1 + 1 + 1 + 1 + 1 + 1, o3) :: (L + 1 + 1 + 1 + 1 + 1 + 1, o4) :: (L + 1 + 1 + 1 + 1 + 1, o5) :: (L + 1 + 1 + 1 + 1, o6) :: (L + 1 + 1 + 1, o7) :: (L + 1 + 1, o8) :: (L + 1, o9) :: (ex ++ tl)))
   (next : ∀ h' tk O, Fr (ghost g) L h' (fun y => if y = Str.ofString "order" then some (.ref O) else m y) → News (ghost g) L h' ((O, W.listOf ([] : List Value).toArray 0) :: (L + 1 + 1 + 1 + 1 + 1 + 1 + 1 + 1 + 1, o1) :: (L + 1 + 1 + 1 + 1 + 1 + 1 + 1 + 1, o2) :: (L + 1 + 1 + 1 + 1 + 1 + 1 + 1, o3) :: (L + 1 + 1 + 1 + 1 + 1 + 1, o4) :: (L + 1 + 1 + 1 + 1 + 1, o5) :: (L + 1 + 1 + 1 + 1, o6) :: (L + 1 + 1 + 1, o7) :: (L + 1 + 1, o8) :: (L + 1, o9) :: (ex ++ tl)) → (∀ p ∈ (L + 1 + 1 + 1 + 1 + 1 + 1 + 1 + 1 + 1, o1) :: (L + 1 + 1 + 1 + 1 + 1 + 1 + 1 + 1, o2) :: (L + 1 + 1 + 1 + 1 + 1 + 1 + 1, o3) :: (L + 1 + 1 + 1 + 1 + 1 + 1, o4) :: (L + 1 + 1 + 1 + 1 + 1, o5) :: (L + 1 + 1 + 1 + 1, o6) :: (L + 1 + 1 + 1, o7) :: (L + 1 + 1, o8) :: (L + 1, o9) :: (ex ++ tl), p.1 < O) →
     wpAny (model PR w) ((At dp un fr gd).deeper (envOfC fd.qualname fd.scope L 93 fd.code)) (execs (body.drop 7) (envOfC fd.qualname fd.scope L 93 fd.code)) Q E { s with heap := h', toks := tk }) :
   wpAny (model PR w) ((At dp un fr gd).deeper (envOfC fd.qualname fd.scope L 93 fd.code)) (execs (body.drop 6) (envOfC fd.qualname fd.scope L 93 fd.code)) Q E s := by
  have X := G.g.X
  have T0 := G.g.T
  k_dflt (refine' fetch2 (K := hd.heap_39 w.params) (a := 93) ?k1 ?_; (case k1 => k_is))
  intro e93
  have e := fn_inj ho e93
  subst e
  injection hbody with hbody
  subst hbody
  clear ho e93
  simp only [List.drop_succ_cons, List.drop_zero]
  refine exec_one ?_
  (try dsimp only); (try k_fold)
  k_steps
  all_goals try k_data
  (try dsimp only)
  refine Locked.mk ?_
  rename Fr _ _ _ _ => F2
  rename News _ _ _ _ => N2
  rename _ ∧ _ => l1
  exact next _ _ _ F2 N2 (allLt_mem (l := (L + 1 + 1 + 1 + 1 + 1 + 1 + 1 + 1 + 1, o1) :: (L + 1 + 1 + 1 + 1 + 1 + 1 + 1 + 1, o2) :: (L + 1 + 1 + 1 + 1 + 1 + 1 + 1, o3) :: (L + 1 + 1 + 1 + 1 + 1 + 1, o4) :: (L + 1 + 1 + 1 + 1 + 1, o5) :: (L + 1 + 1 + 1 + 1, o6) :: (L + 1 + 1 + 1, o7) :: (L + 1 + 1, o8) :: (L + 1, o9) :: (ex ++ tl)) (by simpa only [AllLt, and_true] using l1))
theorem law_7 {w : World} {mean mg mb} {dp un fr gd} {s : Shared} {g : Heap} {Q : Flow → Shared → Prop} {E : Value → Shared → Prop} {L : Addr} {m : Str → Option Value}
   {fd : FuncData} {body : List Stmt} {oc : Value} {od : Option Addr} {osl : Array (Option Value)} (ho : (hd.heap_39 w.params).lookup 93 = some ⟨oc, od, .func fd, osl⟩) (hbody : fd.body = .stmts body) (G : Good w mean mg mb g)
   (hdp : dp + 60 < 1000) (hun : un + 100 < cLine) {row : List Int} {long prime : Int} {o1 o2 o3 o4 o5 o6 o7 o8 o9 : Obj} {tl ex : List (Addr × Obj)} (S : TL g tl) (I : Imms ex)
   {O : Addr} (F : Fr (ghost g) L s.heap m) (N : News (ghost g) L s.heap ((O, W.listOf ([] : List Value).toArray 0) :: (L + 1 + 1 + 1 + 1 + 1 + 1 + 1 + 1 + 1, o1) :: (L + 1 + 1 + 1 + 1 + 1 + 1 + 1 + 1, o2) :: (L + 1 + 1 + 1 + 1 + 1 + 1 + 1, o3) :: (L + 1 + 1 + 1 + 1 + 1 + 1, o4) :: (L + 1 + 1 + 1 + 1 + 1, o5) :: (L + 1 + 1 + 1 + 1, o6) :: (L + 1 + 1 + 1, o7) :: (L + 1 + 1, o8) :: (L + 1, o9) :: (ex ++ tl))) (hO : ∀ p ∈ (L + 1 + 1 + 1 + 1 + 1 + 1 + 1 + 1 + 1, o1) :: (L + 1 + 1 + 1 + 1 + 1 + 1 + 1 + 1, o2) :: (L + 1 + 1 + 1 + 1 + 1 + 1 + 1, o3) :: (L + 1 + 1 + 1 + 1 + 1 + 1, o4) :: (L + 1 + 1 + 1 + 1 + 1, o5) :: (L + 1 + 1 + 1 + 1, o6) :: (L + 1 + 1 + 1, o7) :: (L + 1 + 1, o8) :: (L + 1, o9) :: (ex ++ tl), p.1 < O) (mO : m (Str.ofString "order") = some (.ref O))
   (hP : Menu prime) (hlong1 : 1 ≤ long) (hlong3 : long ≤ 3) (hrowl : row.length ≤ 14) (hrowr : ∀ x ∈ row, 0 ≤ x ∧ x < 3) {tL tP : Tok} (c8 : o8.data = .cell (some (.int prime tP))) (c9 : o9.data = .cell (some (.int long tL)))
   {T : Addr} {wsT : List Value} {nT : Nat} (mT : (T, W.listOf wsT.toArray nT) ∈ ex) (hT : IntsAre wsT (rolls 3 prime long.toNat row)) (c5 : o5.data = .cell (some (.ref T)))
   (hfull : rolls 3 prime long.toNat row ≠ [] → Full30 tl ∧ Full37 tl) (hE : PassesOwn (model PR w) ((At dp un fr gd).deeper (envOfC fd.qualname fd.scope L 93 fd.code)) (envOfC fd.qualname fd.scope L 93 fd.code) E)
   (next : ∀ h' tk m' vs cnt ps tups, m' (Str.ofString "order") = some (.ref O) → Ord (rolls 3 prime long.toNat row) (rolls 3 prime long.toNat row).length ps → PairsN tups vs ps → Imms tups → Fr (ghost g) L h' m' → News (ghost g) L h' ((O, W.listOf vs.toArray cnt) :: (L + 1 + 1 + 1 + 1 + 1 + 1 + 1 + 1 + 1, o1) :: (L + 1 + 1 + 1 + 1 + 1 + 1 + 1 + 1, o2) :: (L + 1 + 1 + 1 + 1 + 1 + 1 + 1, o3) :: (L + 1 + 1 + 1 + 1 + 1 + 1, o4) :: (L + 1 + 1 + 1 + 1 + 1, o5) :: (L + 1 + 1 + 1 + 1, o6) :: (L + 1 + 1 + 1, o7) :: (L + 1 + 1, o8) :: (L + 1, o9) :: ((tups ++ ex) ++ tl)) →
     wpAny (model PR w) ((At dp un fr gd).deeper (envOfC fd.qualname fd.scope L 93 fd.code)) (execs (body.drop 8) (envOfC fd.qualname fd.scope L 93 fd.code)) Q E { s with heap := h', toks := tk }) :
   wpAny (model PR w) ((At dp un fr gd).deeper (envOfC fd.qualname fd.scope L 93 fd.code)) (execs (body.drop 7) (envOfC fd.qualname fd.scope L 93 fd.code)) Q E s := by
  have X := G.g.X
  have T0 := G.g.T
  k_dflt (refine' fetch2 (K := hd.heap_39 w.params) (a := 93) ?k1 ?_; (case k1 => k_is))
  intro e93
  have e := fn_inj ho e93
  subst e
  injection hbody with hbody
  subst hbody
  clear ho e93
  simp only [List.drop_succ_cons, List.drop_zero]
  refine exec_one ?_
  have N1 := news_add (p := (T, W.listOf wsT.toArray nT)) (by repeat (first | exact List.mem_append_left _ mT | refine List.mem_cons_of_mem _ ?_)) N
  clear N
  (try dsimp only); (try k_fold)
  k_steps
  all_goals try k_data
  refine Locked.mk ?_
  rename Fr _ _ _ _ => F2
  rename News _ _ _ _ => N2
  have hTO : @Ne Nat T O := Nat.ne_of_lt (hO (T, W.listOf wsT.toArray nT) (by repeat (first | exact List.mem_append_left _ mT | refine List.mem_cons_of_mem _ ?_)))
  have hTl := hT.length
  have N3 : News (ghost g) L s.heap ((O, W.listOf ([] : List Value).toArray 0) :: (T, W.listOf wsT.toArray nT) :: (L + 1 + 1 + 1 + 1 + 1 + 1 + 1 + 1 + 1, o1) :: (L + 1 + 1 + 1 + 1 + 1 + 1 + 1 + 1, o2) :: (L + 1 + 1 + 1 + 1 + 1 + 1 + 1, o3) :: (L + 1 + 1 + 1 + 1 + 1 + 1, o4) :: (L + 1 + 1 + 1 + 1 + 1, o5) :: (L + 1 + 1 + 1 + 1, o6) :: (L + 1 + 1 + 1, o7) :: (L + 1 + 1, o8) :: (L + 1, o9) :: ([] ++ (ex ++ tl))) := news_sub N2 (by
    intro p hp
    rcases List.mem_cons.mp hp with rfl | hp
    · exact .tail _ (.head _)
    · rcases List.mem_cons.mp hp with rfl | hp
      · exact .head _
      · exact .tail _ (.tail _ hp))
  k_dflt (refine' ktu_enum (vs := wsT) (l := T) (lo := W.listOf wsT.toArray nT) ?hh ?F ?N ?hm ?hc ?hd ?hx ?rest; (case hh => exact rfl); (case F => exact F2); (case N => exact N3); (case hc => exact rfl); (case hd => exact rfl); (case hx => exact rfl))
  case hm => exact .tail _ (.head _)
  case rest =>
    intro I1 hI1
    have hOI := hI1 _ (.head _)
    k_dflt (refine' items_inv (J := fun i m₁ nw => ∃ vs ps cnt tups, m₁ (Str.ofString "order") = some (.ref O) ∧ Ord (rolls 3 prime long.toNat row) i ps ∧ PairsN tups vs ps ∧ Imms tups ∧ (∀ q ∈ tups, @Ne Nat q.1 O ∧ @Ne Nat q.1 I1 ∧ @Ne Nat q.1 (I1 + 1)) ∧ nw = (O, W.listOf vs.toArray cnt) :: (T, W.listOf wsT.toArray nT) :: (L + 1 + 1 + 1 + 1 + 1 + 1 + 1 + 1 + 1, o1) :: (L + 1 + 1 + 1 + 1 + 1 + 1 + 1 + 1, o2) :: (L + 1 + 1 + 1 + 1 + 1 + 1 + 1, o3) :: (L + 1 + 1 + 1 + 1 + 1 + 1, o4) :: (L + 1 + 1 + 1 + 1 + 1, o5) :: (L + 1 + 1 + 1 + 1, o6) :: (L + 1 + 1 + 1, o7) :: (L + 1 + 1, o8) :: (L + 1, o9) :: (tups ++ (ex ++ tl))) ?j0 ?turn ?done)
    case j0 => exact ⟨[], [], _, [], mO, Ord.nil _, .nil, Imms.nil, (fun _ h => nomatch h), rfl⟩
    case turn =>
      rintro i v m₁ _ T1 t1 h tk oE oL hv ⟨vs, ps, cnt, tups, hm, hOrd, hPs, hIm, hoff, rfl⟩ hTup hE hL F4 N4
      have hil : i < wsT.length := (List.getElem?_eq_some_iff.mp hv).1
      obtain ⟨f30, f37⟩ := hfull (fun q => by rw [q] at hTl; have h0 : wsT.length = 0 := hTl; omega)
      obtain ⟨hnk, hin⟩ := rolls_get (base := 3) (p := prime) (n := long.toNat) (ns := row) (i := i) (by omega)
      obtain ⟨ta, hxa⟩ := hT.get i _ hnk
      have hrng := rolls_range hP.range.1 _ (List.mem_of_getElem? hnk)
      generalize num 3 prime (win long.toNat row i) = nk at *
      have hve := Option.some.inj (hv.symm.trans hxa)
      subst hve
      have F5 : Fr (ghost g) L h _ := fr_know (x := Str.ofString "order") F4 hm
      have N5 : News (ghost g) L h _ := N4
      clear F4 N4 F2 N2
      (try dsimp only); (try k_unmd); (try k_fold)
      k_steps
      all_goals try k_data
      refine Locked.mk ?_
      rename Fr _ _ _ _ => F6
      rename News _ _ _ _ => N6
      rename (@LT.lt Nat _ (I1 + 1) _) ∧ _ => l6
      have hvl := hPs.length
      have hpl := hOrd.2.1
      have hbase : ∀ q ∈ (T, W.listOf wsT.toArray nT) :: (L + 1 + 1 + 1 + 1 + 1 + 1 + 1 + 1 + 1, o1) :: (L + 1 + 1 + 1 + 1 + 1 + 1 + 1 + 1, o2) :: (L + 1 + 1 + 1 + 1 + 1 + 1 + 1, o3) :: (L + 1 + 1 + 1 + 1 + 1 + 1, o4) :: (L + 1 + 1 + 1 + 1 + 1, o5) :: (L + 1 + 1 + 1 + 1, o6) :: (L + 1 + 1 + 1, o7) :: (L + 1 + 1, o8) :: (L + 1, o9) :: (tups ++ (ex ++ tl)), q.1 ≠ O := fun q hq => by
        rcases mem_mid (a := [_, _, _, _, _, _, _, _, _, _]) hq with h | h
        · exact (hoff q h).1
        · rcases List.mem_cons.mp h with rfl | h
          · exact hTO
          · exact Nat.ne_of_lt (hO q h)
      have hbase2 : ∀ q ∈ (T, W.listOf wsT.toArray nT) :: (L + 1 + 1 + 1 + 1 + 1 + 1 + 1 + 1 + 1, o1) :: (L + 1 + 1 + 1 + 1 + 1 + 1 + 1 + 1, o2) :: (L + 1 + 1 + 1 + 1 + 1 + 1 + 1, o3) :: (L + 1 + 1 + 1 + 1 + 1 + 1, o4) :: (L + 1 + 1 + 1 + 1 + 1, o5) :: (L + 1 + 1 + 1 + 1, o6) :: (L + 1 + 1 + 1, o7) :: (L + 1 + 1, o8) :: (L + 1, o9) :: (tups ++ (ex ++ tl)), q.1 ≠ I1 + 1 ∧ q.1 ≠ I1 := fun q hq => by
        rcases mem_mid (a := [_, _, _, _, _, _, _, _, _, _]) hq with h | h
        · exact ⟨(hoff q h).2.2, (hoff q h).2.1⟩
        · have h7 := hI1 q (.tail _ h)
          exact ⟨Nat.ne_of_lt (Nat.lt_succ_of_lt h7), Nat.ne_of_lt h7⟩
      k_dflt (refine' K_insort3 (p := (nk, (i : Int))) (ps := ps) F6 N6 ?hx ?ha ?hb hbase S ?ht f30 f37 G ?hdp ?hun ?hlen ?hps hOrd.1 ?ret)
      case hx => k_ne
      case ha => exact Nat.ne_of_gt (Nat.lt_succ_of_lt hOI)
      case hb => exact Nat.ne_of_gt hOI
      case ht => exact fun p9 h9 => by repeat (first | exact List.mem_append_right _ (List.mem_append_right _ h9) | refine List.mem_cons_of_mem _ ?_)
      case hdp => (try dsimp only [At, Around.deeper]); omega
      case hun => (try dsimp only [At, Around.deeper]); omega
      case hlen => omega
      case hps => exact hPs.more fun q hq => by repeat (first | exact List.mem_append_left _ hq | refine List.mem_cons_of_mem _ ?_)
      case ret =>
        intro h7 tk7 r hr F7 N7
        (try dsimp only); (try k_unmd)
        k_steps
        all_goals try k_data
        refine Locked.mk ?_
        rename Fr _ _ _ _ => F8
        rename News _ _ _ _ => N8
        refine ⟨_, _, _, (O, _) :: (T, W.listOf wsT.toArray nT) :: (L + 1 + 1 + 1 + 1 + 1 + 1 + 1 + 1 + 1, o1) :: (L + 1 + 1 + 1 + 1 + 1 + 1 + 1 + 1, o2) :: (L + 1 + 1 + 1 + 1 + 1 + 1 + 1, o3) :: (L + 1 + 1 + 1 + 1 + 1 + 1, o4) :: (L + 1 + 1 + 1 + 1 + 1, o5) :: (L + 1 + 1 + 1 + 1, o6) :: (L + 1 + 1 + 1, o7) :: (L + 1 + 1, o8) :: (L + 1, o9) :: ((_ :: tups) ++ (ex ++ tl)), rfl, F8, news_sub N8 (perm_out (c := [_, _, _, _, _, _, _, _, _, _])), ?off, ⟨.tail _ (.head _), trivial⟩, _, _, _, _ :: tups, rfl, hOrd.ins hnk hr, PairsN.ins (hPs.more fun q hq => .tail _ hq) (.head _) r, Imms.cons imm_tup hIm, ?hof, rfl⟩
        case off =>
          have hall : ∀ (oo : Obj) (xx : Addr × Obj), xx.1 ≠ I1 + 1 ∧ xx.1 ≠ I1 → ∀ p ∈ (O, oo) :: (T, W.listOf wsT.toArray nT) :: (L + 1 + 1 + 1 + 1 + 1 + 1 + 1 + 1 + 1, o1) :: (L + 1 + 1 + 1 + 1 + 1 + 1 + 1 + 1, o2) :: (L + 1 + 1 + 1 + 1 + 1 + 1 + 1, o3) :: (L + 1 + 1 + 1 + 1 + 1 + 1, o4) :: (L + 1 + 1 + 1 + 1 + 1, o5) :: (L + 1 + 1 + 1 + 1, o6) :: (L + 1 + 1 + 1, o7) :: (L + 1 + 1, o8) :: (L + 1, o9) :: ((xx :: tups) ++ (ex ++ tl)), p.1 ≠ I1 + 1 ∧ p.1 ≠ I1 := fun oo xx hxx p hp => by
            rcases List.mem_cons.mp hp with rfl | hp
            · exact ⟨Nat.ne_of_lt (Nat.lt_succ_of_lt hOI), Nat.ne_of_lt hOI⟩
            · rcases mem_mid (a := [_, _, _, _, _, _, _, _, _, _]) (b := xx :: tups) hp with h | h
              · rcases List.mem_cons.mp h with rfl | h
                · exact hxx
                · exact ⟨(hoff p h).2.2, (hoff p h).2.1⟩
              · have h7 := hI1 p (.tail _ h)
                exact ⟨Nat.ne_of_lt (Nat.lt_succ_of_lt h7), Nat.ne_of_lt h7⟩
          intro p hp q hq
          rcases List.mem_cons.mp hq with rfl | hq
          · exact (hall _ _ ⟨Nat.ne_of_gt l6.1, Nat.ne_of_gt l6.2.1⟩ p hp).1
          · rw [List.mem_singleton.mp hq]; exact (hall _ _ ⟨Nat.ne_of_gt l6.1, Nat.ne_of_gt l6.2.1⟩ p hp).2
        case hof =>
          intro q hq
          rcases List.mem_cons.mp hq with rfl | hq
          · exact ⟨Nat.ne_of_gt l6.2.2.1, Nat.ne_of_gt l6.2.1, Nat.ne_of_gt l6.1⟩
          · exact hoff q hq
    case done =>
      rintro h tk m₁ _ ⟨vs, ps, cnt, tups, hm, hOrd, hPs, hIm, hoff, rfl⟩ F4 N4
      (try dsimp only)
      try (refine Locked.mk ?_)
      rw [hTl] at hOrd
      refine next _ _ _ vs cnt ps tups hm hOrd hPs hIm F4 (news_sub N4 ?_)
      intro p hp
      rcases List.mem_cons.mp hp with rfl | hp
      · exact .head _
      · rw [List.append_assoc] at hp
        exact .tail _ (.tail _ hp)
end
section
section
variable {w : World} {A : Around} {E : Value → Shared → Prop} {s : Shared} {h₀ : Heap} {L : Addr} {m : Str → Option Value} {news : List (Addr × Obj)} {vs : List Value}
theorem zip_snd (vs : List Value) : (vs.toArray.zip vs.toArray).map (·.2) = vs.toArray := by
  apply Array.ext'
  simp only [Array.toList_map, Array.toList_zip]
  exact List.map_snd_zip (Nat.le_refl _)
/-- at most one item: nothing to sort -/
theorem sort_few {a : Addr} {n : Nat} {P : PySem.Fin → Shared → Prop} (F : Fr h₀ L s.heap m) (N : News h₀ L s.heap news) (ho : s.heap.get? a = some (seqObj "list" vs.toArray n)) (haL : a ≠ L) (ha0 : h₀.get? a = none) (hna : ∀ p ∈ news, p.1 ≠ a) (h2 : vs.length < 2)
    (h : ∀ c h', Fr h₀ L h' m → News h₀ L h' ((a, W.listOf vs.toArray c) :: news) → P (.done (.ret .none)) { s with heap := h' }) :
    wpAny (model PR w) A (Builtin.«list.sort» ⟨[.ref a], []⟩) P E s := by
  have hs1 := Heap.SameBut.update s.heap a (Obj.mapSeq fun _ => (#[] : Array Value))
  obtain ⟨e1, ho1⟩ : ∃ e1, (s.heap.update a (Obj.mapSeq fun _ => (#[] : Array Value))).get? a = some (seqObj "list" #[] e1) := ⟨_, get?_update_seq ho fun _ => #[]⟩
  have F1 := ((kas_fr F hs1 haL ha0).push (seqObj "tuple" vs.toArray 0)).push (seqObj "list" #[] 0)
  have N1 : News h₀ L (((s.heap.update a (Obj.mapSeq fun _ => (#[] : Array Value))).push (seqObj "tuple" vs.toArray 0)).push (seqObj "list" #[] 0)) news :=
    (kas_news N hs1 hna).grown fun b x e => Heap.get?_push_of_some _ (Heap.get?_push_of_some _ e)
  have ho2 := Heap.get?_push_of_some (seqObj "list" #[] 0) (Heap.get?_push_of_some (seqObj "tuple" vs.toArray 0) ho1)
  generalize hH : ((s.heap.update a (Obj.mapSeq fun _ => (#[] : Array Value))).push (seqObj "tuple" vs.toArray 0)).push (seqObj "list" #[] 0) = H at F1 N1 ho2
  rw [list_sort_plain]
  refine wpAny_bind (listItems_at ho rfl ?_)
  refine wpAny_bind (listUpdate_at ho rfl ?_ (by rw [List.size_toArray, sizeLine_eq]; omega) (Nat.zero_le _))
  refine wpAny_bind (seqEpoch_at ho1 rfl ?_)
  refine wpAny_bind (wpAny_newTuple ?_ (by show vs.length ≤ _; rw [sizeLine_eq]; omega))
  refine wpAny_bind (wpAny_newList ?_ (Nat.zero_le _))
  refine wpAny_holding ?_
  show wpAny (model PR w) A _ P E { s with heap := ((s.heap.update a (Obj.mapSeq fun _ => (#[] : Array Value))).push (seqObj "tuple" vs.toArray 0)).push (seqObj "list" #[] 0) }
  rw [hH]
  dsimp only
  have hn : vs.toArray.size < 2 := by rw [List.size_toArray]; exact h2
  rw [if_pos hn, if_pos hn]
  refine wpAny_bind (wpAny_pure ?_)
  rw [StateT.run_pure]
  refine wpAny_bind (wpAny_pure ?_)
  dsimp only
  have harr : (arrOf (SortSt.mk' general' (vs.toArray.zip vs.toArray) #[] 7 none)).map (·.2) = vs.toArray := zip_snd vs
  rw [harr]
  refine wpAny_bind (seqEpoch_at ho2 rfl ?_)
  refine wpAny_bind (listUpdate_at ho2 rfl ?_ (Nat.zero_le _) (by rw [List.size_toArray, sizeLine_eq]; omega))
  have hs2 := Heap.SameBut.update H a (Obj.mapSeq fun _ => vs.toArray)
  obtain ⟨c2, hc2⟩ : ∃ c2, (H.update a (Obj.mapSeq fun _ => vs.toArray)).get? a = some (seqObj "list" vs.toArray c2) := ⟨_, get?_update_seq ho2 fun _ => vs.toArray⟩
  simp only [bne_self_eq_false, Bool.false_eq_true, if_false]
  refine wpAny_pure (h c2 _ (kas_fr F1 hs2 haL ha0) fun p hp => ?_)
  rcases List.mem_cons.mp hp with rfl | hp
  · exact ⟨hc2, haL, ha0⟩
  · exact (kas_news N1 hs2 hna) p hp
theorem sorted_few {l : Addr} {Q : Value → Shared → Prop} (F : Fr h₀ L s.heap m) (N : News h₀ L s.heap news) (hl : s.heap.IsList l vs.toArray) (h2 : vs.length < 2)
    (h : ∀ D c h', Fr h₀ L h' m → News h₀ L h' ((D, W.listOf vs.toArray c) :: news) → (∀ q ∈ news, q.1 < D) → Q (.ref D) { s with heap := h' }) :
    wpAny (model PR w) A (call (.builtin "sorted") [.ref l]) Q E s := by
  refine Calls.call_function_entry kind_sorted plain_sorted entry_sorted (args_sorted1 _) ?_
  unfold Builtin.«sorted»
  refine wpAny_bind (m := checkCount "sorted" 1 1 _) (wpAny_pure ?_)
  refine wpAny_bind (collect_list hl ?_ (by rw [sizeLine_eq]; omega))
  refine wpAny_bind (wpAny_newList ?_ (by rw [sizeLine_eq]; omega))
  have hsz : ((s.heap.push (seqObj "list" #[] 0)).update s.heap.objs.size (Obj.mapSeq (· ++ vs.toArray))).objs.size = s.heap.objs.size + 1 := by
    rw [Heap.size_update, size_push']
  have keep : ∀ b o, s.heap.get? b = some o → (((s.heap.push (seqObj "list" #[] 0)).update s.heap.objs.size (Obj.mapSeq (· ++ vs.toArray))).push (seqObj "list" vs.toArray 0)).get? b = some o := fun b o q => by
    have hlt : b < s.heap.objs.size := Heap.lt_size q
    rw [Heap.get?_push_ne _ _ _ (by rw [hsz]; exact Nat.ne_of_lt (Nat.lt_succ_of_lt hlt)), Heap.get?_update_ne _ _ _ _ (Nat.ne_of_lt hlt), Heap.get?_push_ne _ _ _ (Nat.ne_of_lt hlt)]
    exact q
  have hoL : (((s.heap.push (seqObj "list" #[] 0)).update s.heap.objs.size (Obj.mapSeq (· ++ vs.toArray))).push (seqObj "list" vs.toArray 0)).get? (s.heap.objs.size + 1) = some (seqObj "list" vs.toArray 0) := by
    rw [← hsz]; exact Heap.get?_push_size _ rfl
  have hL : L < s.heap.objs.size := F.ns.lt
  show wpAny _ _ _ _ _ { s with heap := ((s.heap.push (seqObj "list" #[] 0)).update s.heap.objs.size (Obj.mapSeq (· ++ vs.toArray))).push (seqObj "list" vs.toArray 0) }
  rw [hsz]
  refine wpAny_bind (wpAny_holding (wpAny_call_entry slot_list_sort ⟨_, hoL, rfl⟩ entry_list_sort ?body (args_list_sort _)))
  case body =>
    exact sort_few (s := { s with heap := ((s.heap.push (seqObj "list" #[] 0)).update s.heap.objs.size (Obj.mapSeq (· ++ vs.toArray))).push (seqObj "list" vs.toArray 0) })
      (F.kept keep) (N.grown keep) hoL (Nat.ne_of_gt (Nat.lt_succ_of_lt hL)) (Heap.get?_none_of_le (Nat.le_trans F.above (Nat.le_succ_of_le (Nat.le_of_lt hL))))
      (fun p hp => Nat.ne_of_lt (Nat.lt_succ_of_lt (Heap.lt_size (N p hp).1))) h2 fun c h' F' N' => ⟨_, rfl, wpAny_pure ⟨_, rfl, h _ c h' F' N' fun q hq => Nat.lt_succ_of_lt (Heap.lt_size (N q hq).1)⟩⟩
/-- a pair that is not ahead of another -/
theorem key_no {x y : Addr} {p q : Int × Int} {C : Bool → Shared → Prop} (hx : IsPair s.heap x p) (hy : IsPair s.heap y q) (hn : ¬ PLt p q) (h : C false s) : wpAny (model PR w) A (keyLt' (tuples' true) (.ref x) (.ref y)) C E s := by
  obtain ⟨ox, ta, tb, n, ex, cx, dx⟩ := hx
  obtain ⟨oy, tc, td, k, ey, cy, dy⟩ := hy
  refine kat_lt ex dx ey dy ?_
  show KatLex PR w A true (decide (2 < 2)) C [(.int p.1 ta, .int q.1 tc), (.int p.2 tb, .int q.2 td)] 0 s
  refine kat_cons (wpAny_eqBool_int ?_)
  by_cases h1 : p.1 = q.1
  · rw [show (p.1 == q.1) = true by simpa using h1]
    refine kat_yes (kat_cons (wpAny_eqBool_int ?_))
    by_cases h2 : p.2 = q.2
    · rw [show (p.2 == q.2) = true by simpa using h2]
      refine kat_yes (kat_nil ?_)
      show C (decide (2 < 2)) s
      rw [show decide (2 < 2) = false from rfl]
      exact h
    · rw [show (p.2 == q.2) = false by simpa using h2]
      refine kat_no (kat_one _ _ (lt_int ?_))
      show C (decide (p.2 < q.2)) s
      rw [decide_eq_false (fun c => hn (.inr ⟨h1, c⟩))]
      exact h
  · rw [show (p.1 == q.1) = false by simpa using h1]
    refine kat_no ?_
    show wpAny (model PR w) A (oneLt' true (.int p.1 ta) (.int q.1 tc)) C _ s
    refine oneLt_int ?_
    rw [decide_eq_false (fun c => hn (.inl c))]
    exact h
theorem asc_wp {n : Nat} {cmp : Nat → Nat → (Bool → Shared → Prop) → Shared → Prop} {G : Nat → Shared → Prop} (hc : ∀ i C, 1 ≤ i → i < n → C false s → cmp i (i - 1) C s) : ∀ f k, 1 ≤ k → k + f = n → G n s → (kas_asc (List.toArray (List.range n)) f k).kasWp cmp G s := by
  intro f
  induction f with
  | zero => intro k h1 h2 h; obtain rfl : k = n := by omega
            exact h
  | succ f ih =>
    intro k h1 h2 h
    have e1 : (List.toArray (List.range n)).getD k 0 = k := by
      have : k < n := by omega
      simp [Array.getD, this]
    have e2 : (List.toArray (List.range n)).getD (k - 1) 0 = k - 1 := by
      have : k - 1 < n := by omega
      simp [Array.getD, this]
    show cmp _ _ _ s
    rw [e1, e2]
    refine hc k _ h1 (by omega) ?_
    simp only [Bool.false_eq_true, if_false]
    exact ih (k + 1) (by omega) (by omega) h
theorem sort_wp {n : Nat} {cmp : Nat → Nat → (Bool → Shared → Prop) → Shared → Prop} {G : Array Nat → Shared → Prop} (hn : 2 ≤ n) (hc : ∀ i C, 1 ≤ i → i < n → C false s → cmp i (i - 1) C s) (h : G (List.toArray (List.range n)) s) : (kas_sort n).kasWp cmp G s := by
  unfold kas_sort kas_count
  rw [KasT.kasWp_bind, KasT.kasWp_bind]
  refine asc_wp hc (n - 1) 1 (Nat.le_refl _) (by omega) ?_
  simp only [beq_self_eq_true, if_true]
  show KasT.kasWp cmp (if n < n then _ else KasT.ret _) G s
  rw [if_neg (Nat.lt_irrefl _)]
  exact h
theorem tups_of {h : Heap} {vs : List Value} {ps : List (Int × Int)} (x : Pairs h vs ps) : ∃ fs, KatTups h vs fs ∧ fs.length = ps.length ∧ ∀ v ∈ fs, ∃ a t, v = .int a t := by
  induction x with
  | nil => exact ⟨[], .nil, rfl, fun _ h => nomatch h⟩
  | cons p y ih =>
    obtain ⟨fs, a, b, c⟩ := ih
    obtain ⟨o, ta, tb, n, e, hc, hd⟩ := p
    refine ⟨_ :: fs, KatTups.cons e hc hd rfl a, by simp [b], fun v hv => ?_⟩
    rcases List.mem_cons.mp hv with rfl | hv
    · exact ⟨_, _, rfl⟩
    · exact c v hv
theorem range_getD (vs : List Value) : ((List.toArray (List.range vs.length)).toList.map fun i => vs.getD i Value.none) = vs := by
  apply List.ext_getElem?
  intro i
  simp only [List.getElem?_map]
  by_cases h : i < vs.length
  · rw [List.getElem?_range h, List.getElem?_eq_getElem h]
    simp [h]
  · rw [List.getElem?_eq_none (by simpa using h), List.getElem?_eq_none (by simpa using h)]; rfl
/-- pairs that stand in order are sorted into the same -/
theorem sorted_asc {l : Addr} {ps : List (Int × Int)} {tups : List (Addr × Obj)} {Q : Value → Shared → Prop} (F : Fr h₀ L s.heap m) (N : News h₀ L s.heap news) (hl : s.heap.IsList l vs.toArray) (hp : PairsN tups vs ps) (ht : ∀ p ∈ tups, p ∈ news) (hso : ps.Pairwise PLt) (h64 : ps.length < 64)
    (h : ∀ D c h', Fr h₀ L h' m → News h₀ L h' ((D, W.listOf vs.toArray c) :: news) → (∀ q ∈ news, q.1 < D) → Q (.ref D) { s with heap := h' }) :
    wpAny (model PR w) A (call (.builtin "sorted") [.ref l]) Q E s := by
  have hvl := hp.length
  by_cases h2 : vs.length < 2
  · exact sorted_few F N hl h2 h
  refine kat_sorted F N hl (by omega) (by omega) fun D e1 h' F' N' hD => ?_
  have hP : Pairs h' vs ps := hp.heap N' fun q hq => .tail _ (ht q hq)
  obtain ⟨fs, t1, t2, t3⟩ := tups_of hP
  refine kat_kind (T := .type "int") t1 (by omega) (fun v hv => ?_) (by rfl) ?_
  · obtain ⟨a, t, rfl⟩ := t3 v hv
    exact .now
  rw [show ((Value.type "int") != Value.type "tuple") = true from rfl]
  refine sort_wp (by omega) (fun i C hi1 hi2 hC => ?_) ?_
  · obtain ⟨a, ha, pa⟩ := hP.get i (ps[i]'(by omega)) (List.getElem?_eq_getElem (by omega))
    obtain ⟨b, hb, pb⟩ := hP.get (i - 1) (ps[i - 1]'(by omega)) (List.getElem?_eq_getElem (by omega))
    show wpAny _ _ (keyLt' _ (vs.getD i Value.none) (vs.getD (i - 1) Value.none)) _ _ _
    rw [List.getD_eq_getElem?_getD, List.getD_eq_getElem?_getD, ha, hb]
    refine key_no pa pb (fun c => ?_) hC
    have := List.pairwise_iff_getElem.mp hso (i - 1) i (by omega) (by omega) (by omega)
    have k := PLt.trans c this
    unfold PLt at k; omega
  · rw [range_getD]
    refine KasFin.intro F' N' (.head fun q hq => Nat.ne_of_lt (hD q hq)) fun h'' c F'' N'' => ?_
    exact h D c h'' F'' N'' hD
end
end
section
/-- a pair as data -/
def pd (p : Int × Int) : PyData := .tuple [.int p.1, .int p.2]
theorem reads_pairs {h : Heap} {vs : List Value} {ps : List (Int × Int)} (x : Pairs h vs ps) : ReadsAll h vs (ps.map pd) [] := by
  induction x with
  | nil => exact .nil
  | cons p _ ih =>
    obtain ⟨o, ta, tb, n, e, c, d⟩ := p
    exact .cons (as := []) (reads_tuple_at e c d (.cons (as := []) (.int _ _) (.cons (as := []) (.int _ _) .nil))) ih
theorem pd_lay : ∀ ps : List (Int × Int), PyData.canLayAll0 (ps.map pd) = true
  | [] => rfl
  | _ :: r => by simp [PyData.canLayAll0, PyData.canLay0, pd_lay r, pd]
theorem pd_depth : ∀ ps : List (Int × Int), PyData.depthAll (ps.map pd) ≤ 2
  | [] => by simp [PyData.depthAll]
  | _ :: r => by
    have := pd_depth r
    simp [PyData.depthAll, PyData.depth, pd]
    omega
theorem pd_shaped (ps : List (Int × Int)) : SeqAt.shaped (.list (ps.map pd)) = true := by
  have := pd_depth ps
  simp [SeqAt.shaped, PyData.canLay0, PyData.depth, pd_lay]
  omega
theorem pd_eqv : ∀ ps : List (Int × Int), PyData.eqvAll (ps.map pd) (ps.map pd) = true
  | [] => by simp [PyData.eqvAll]
  | _ :: r => by simp [PyData.eqvAll, PyData.eqv, pd_eqv r, pd]
/-- two lists of the same pairs -/
theorem ne_pairs {w : World} {A : Around} {s : Shared} {Q E : Value → Shared → Prop} {a b : Addr} {vs : List Value} {ps : List (Int × Int)} (ha : s.heap.IsList a vs.toArray) (hb : s.heap.IsList b vs.toArray) (hp : Pairs s.heap vs ps) (hu : A.units + 64 < cLine) (h : Q (.bool false) s) : wpAny (model PR w) A (compareOp .NotEq (.ref a) (.ref b)) Q E s := by
  obtain ⟨oa, ea, ca, na, da⟩ := ha
  obtain ⟨ob, eb, cb, nb, db⟩ := hb
  refine ne_dataH (reads_list_at ea ca da (by simpa using reads_pairs hp)) (reads_list_at eb cb db (by simpa using reads_pairs hp)) (pd_shaped ps) (pd_shaped ps) hu ?_
  rw [show PyData.eqv (.list (ps.map pd)) (.list (ps.map pd)) = true by simp only [PyData.eqv]; exact pd_eqv ps]
  exact h
theorem rows_S8_16 : True := by
  k_with "call builtin:sorted" => (k_here; (with_reducible show wpAny _ _ (call (Value.builtin _) [Value.ref _]) _ _ _); k_dflt (refine' sorted_asc (by k_asm) (by k_asm) (by exact isList_own (by k_asm) (by k_mem)) (by with_reducible assumption) (by with_reducible assumption) (by with_reducible assumption) (by omega) ?_); intro DZ9 cZ9 hZ9 FZ9 NZ9 l1Z9; (try k_lt l1Z9))
  k_with "compareOp NotEq ref ref" => (k_here; k_dflt (refine' ne_pairs ?npa_ ?npb_ ?npp_ ?npu_ ?_; (case npa_ => exact isList_own (by k_asm) (by k_mem)); (case npb_ => exact isList_own (by k_asm) (by k_mem)); (case npp_ => exact PairsN.heap (by k_asm) (fun q hq => .tail _ ((by with_reducible assumption : ∀ p ∈ _, p ∈ _) q hq)) (by with_reducible assumption)); (case npu_ => ((try dsimp only [At, Around.deeper]); omega)); k_whole))
  trivial
theorem law_8 {w : World} {mean mg mb} {dp un fr gd} {s : Shared} {g : Heap} {Q : Flow → Shared → Prop} {E : Value → Shared → Prop} {L : Addr} {m : Str → Option Value}
   {fd : FuncData} {body : List Stmt} {oc : Value} {od : Option Addr} {osl : Array (Option Value)} (ho : (hd.heap_39 w.params).lookup 93 = some ⟨oc, od, .func fd, osl⟩) (hbody : fd.body = .stmts body) (G : Good w mean mg mb g)
   (hdp : dp + 60 < 1000) (hun : un + 100 < cLine) {row : List Int} {long prime : Int} {o1 o2 o3 o4 o5 o6 o7 o8 o9 : Obj} {tl ex : List (Addr × Obj)} (S : TL g tl) (I : Imms ex)
   {O : Addr} {vs : List Value} {cnt : Nat} {ps : List (Int × Int)} {told : List Int} (F : Fr (ghost g) L s.heap m) (N : News (ghost g) L s.heap ((O, W.listOf vs.toArray cnt) :: (L + 1 + 1 + 1 + 1 + 1 + 1 + 1 + 1 + 1, o1) :: (L + 1 + 1 + 1 + 1 + 1 + 1 + 1 + 1, o2) :: (L + 1 + 1 + 1 + 1 + 1 + 1 + 1, o3) :: (L + 1 + 1 + 1 + 1 + 1 + 1, o4) :: (L + 1 + 1 + 1 + 1 + 1, o5) :: (L + 1 + 1 + 1 + 1, o6) :: (L + 1 + 1 + 1, o7) :: (L + 1 + 1, o8) :: (L + 1, o9) :: (ex ++ tl))) (mO : m (Str.ofString "order") = some (.ref O))
   (hOrd : Ord told told.length ps) (htl : told.length < 50) (hPs : PairsN ex vs ps)
   (next : ∀ h' tk, Fr (ghost g) L h' m → News (ghost g) L h' ((O, W.listOf vs.toArray cnt) :: (L + 1 + 1 + 1 + 1 + 1 + 1 + 1 + 1 + 1, o1) :: (L + 1 + 1 + 1 + 1 + 1 + 1 + 1 + 1, o2) :: (L + 1 + 1 + 1 + 1 + 1 + 1 + 1, o3) :: (L + 1 + 1 + 1 + 1 + 1 + 1, o4) :: (L + 1 + 1 + 1 + 1 + 1, o5) :: (L + 1 + 1 + 1 + 1, o6) :: (L + 1 + 1 + 1, o7) :: (L + 1 + 1, o8) :: (L + 1, o9) :: (ex ++ tl)) →
     wpAny (model PR w) ((At dp un fr gd).deeper (envOfC fd.qualname fd.scope L 93 fd.code)) (execs (body.drop 9) (envOfC fd.qualname fd.scope L 93 fd.code)) Q E { s with heap := h', toks := tk }) :
   wpAny (model PR w) ((At dp un fr gd).deeper (envOfC fd.qualname fd.scope L 93 fd.code)) (execs (body.drop 8) (envOfC fd.qualname fd.scope L 93 fd.code)) Q E s := by
  have X := G.g.X
  have T0 := G.g.T
  k_dflt (refine' fetch2 (K := hd.heap_39 w.params) (a := 93) ?k1 ?_; (case k1 => k_is))
  intro e93
  have e := fn_inj ho e93
  subst e
  injection hbody with hbody
  subst hbody
  clear ho e93
  simp only [List.drop_succ_cons, List.drop_zero]
  refine exec_one ?_
  have hsub : ∀ p ∈ ex, p ∈ (O, W.listOf vs.toArray cnt) :: (L + 1 + 1 + 1 + 1 + 1 + 1 + 1 + 1 + 1, o1) :: (L + 1 + 1 + 1 + 1 + 1 + 1 + 1 + 1, o2) :: (L + 1 + 1 + 1 + 1 + 1 + 1 + 1, o3) :: (L + 1 + 1 + 1 + 1 + 1 + 1, o4) :: (L + 1 + 1 + 1 + 1 + 1, o5) :: (L + 1 + 1 + 1 + 1, o6) :: (L + 1 + 1 + 1, o7) :: (L + 1 + 1, o8) :: (L + 1, o9) :: (ex ++ tl) := fun q hq => (by repeat (first | exact List.mem_append_left _ hq | refine List.mem_cons_of_mem _ ?_))
  have hso := hOrd.1
  have hpl := hOrd.2.1
  have F2 : Fr (ghost g) L s.heap _ := fr_know (x := Str.ofString "order") F mO
  have N2 : News (ghost g) L s.heap _ := N
  clear F N
  (try dsimp only); (try k_unmd); (try k_fold)
  k_steps
  all_goals try k_data
  (try dsimp only)
  refine Locked.mk ?_
  rename Fr _ _ _ _ => F5
  rename News _ _ _ _ => N5
  exact next _ _ (fr_back mO F5) (news_sub N5 (fun p9 h9 => by repeat (first | exact h9 | refine List.mem_cons_of_mem _ ?_)))
end
theorem rows_again_17 : True := by
  k_with "compareOp NotEq ref ref" => (k_here; k_dflt (first | (refine' ne_nils (by k_asm) (by k_mem) (by k_mem) (by ((try dsimp only [At, Around.deeper]); omega)) ?_; k_whole) | (refine' ne_lists (by k_asm) (by k_mem) (by k_mem) (by with_reducible assumption) (by with_reducible assumption) (by ((try dsimp only [At, Around.deeper]); omega)) (by with_reducible assumption) ?_; k_whole)))
  trivial
section
theorem rows_S9_18 : True := by
  k_with "call ref" => (k_here; (with_reducible show wpAny _ _ (call (Value.ref 81) _) _ _ _); refine Locked.out ?_)
  trivial
theorem law_9 {w : World} {mean mg mb} {dp un fr gd} {s : Shared} {g : Heap} {Q : Flow → Shared → Prop} {E : Value → Shared → Prop} {L : Addr} {m : Str → Option Value}
   {fd : FuncData} {body : List Stmt} {oc : Value} {od : Option Addr} {osl : Array (Option Value)} (ho : (hd.heap_39 w.params).lookup 93 = some ⟨oc, od, .func fd, osl⟩) (hbody : fd.body = .stmts body) (G : Good w mean mg mb g)
   (hdp : dp + 60 < 1000) (hun : un + 100 < cLine) {row : List Int} {long prime : Int} {o1 o2 o3 o4 o5 o6 o7 o8 o9 : Obj} {tl ex : List (Addr × Obj)} (S : TL g tl) (I : Imms ex)
   {oO : Obj} {O : Addr} (hOi : Imm oO) (F : Fr (ghost g) L s.heap m) (N : News (ghost g) L s.heap ((O, oO) :: (L + 1 + 1 + 1 + 1 + 1 + 1 + 1 + 1 + 1, o1) :: (L + 1 + 1 + 1 + 1 + 1 + 1 + 1 + 1, o2) :: (L + 1 + 1 + 1 + 1 + 1 + 1 + 1, o3) :: (L + 1 + 1 + 1 + 1 + 1 + 1, o4) :: (L + 1 + 1 + 1 + 1 + 1, o5) :: (L + 1 + 1 + 1 + 1, o6) :: (L + 1 + 1 + 1, o7) :: (L + 1 + 1, o8) :: (L + 1, o9) :: (ex ++ tl)))
   (hP : Menu prime) (hlong1 : 1 ≤ long) (hlong3 : long ≤ 3) (hrowl : row.length ≤ 14) (hrowr : ∀ x ∈ row, 0 ≤ x ∧ x < 3) {tL tP : Tok} (c8 : o8.data = .cell (some (.int prime tP))) (c9 : o9.data = .cell (some (.int long tL)))
   {P : Addr} {wsP : List Value} {nP : Nat} {pc : List Int} (mP : (P, W.listOf wsP.toArray nP) ∈ ex) (hpc : IntsAre wsP pc) (hpcl : pc.length = long.toNat) (hpcr : ∀ x ∈ pc, 0 ≤ x ∧ x < 3) (c6 : o6.data = .cell (some (.ref P)))
   (d1 : ∃ v, o1.data = .cell v) (d2 : ∃ v, o2.data = .cell v) (d3 : ∃ v, o3.data = .cell v) (d4 : ∃ v, o4.data = .cell v) (d5 : ∃ v, o5.data = .cell v) (d7 : ∃ v, o7.data = .cell v)
   (next : ∀ h' tk tm tl', TL g tl' → Full30 tl' → Full37 tl' → Fr (ghost g) L h' (fun y => if y = Str.ofString "mine" then some (.int (num 3 prime pc) tm) else m y) → News (ghost g) L h' ((O, oO) :: (L + 1 + 1 + 1 + 1 + 1 + 1 + 1 + 1 + 1, o1) :: (L + 1 + 1 + 1 + 1 + 1 + 1 + 1 + 1, o2) :: (L + 1 + 1 + 1 + 1 + 1 + 1 + 1, o3) :: (L + 1 + 1 + 1 + 1 + 1 + 1, o4) :: (L + 1 + 1 + 1 + 1 + 1, o5) :: (L + 1 + 1 + 1 + 1, o6) :: (L + 1 + 1 + 1, o7) :: (L + 1 + 1, o8) :: (L + 1, o9) :: (ex ++ tl')) →
     wpAny (model PR w) ((At dp un fr gd).deeper (envOfC fd.qualname fd.scope L 93 fd.code)) (execs (body.drop 10) (envOfC fd.qualname fd.scope L 93 fd.code)) Q E { s with heap := h', toks := tk }) :
   wpAny (model PR w) ((At dp un fr gd).deeper (envOfC fd.qualname fd.scope L 93 fd.code)) (execs (body.drop 9) (envOfC fd.qualname fd.scope L 93 fd.code)) Q E s := by
  have X := G.g.X
  have T0 := G.g.T
  k_dflt (refine' fetch2 (K := hd.heap_39 w.params) (a := 93) ?k1 ?_; (case k1 => k_is))
  intro e93
  have e := fn_inj ho e93
  subst e
  injection hbody with hbody
  subst hbody
  clear ho e93
  simp only [List.drop_succ_cons, List.drop_zero]
  refine exec_one ?_
  have N1 := news_add (p := (P, W.listOf wsP.toArray nP)) (by repeat (first | exact List.mem_append_left _ mP | refine List.mem_cons_of_mem _ ?_)) N
  clear N
  (try dsimp only); (try k_unmd); (try k_fold)
  k_steps
  all_goals try k_data
  refine Locked.mk ?_
  rename Fr _ _ _ _ => F2
  rename News _ _ _ _ => N2
  obtain ⟨v1, d1⟩ := d1
  obtain ⟨v2, d2⟩ := d2
  obtain ⟨v3, d3⟩ := d3
  obtain ⟨v4, d4⟩ := d4
  obtain ⟨v5, d5⟩ := d5
  obtain ⟨v7, d7⟩ := d7
  have hne : pc ≠ [] := fun q => by rw [q] at hpcl; have : (0 : Nat) = long.toNat := hpcl; omega
  k_dflt (refine' L_number F2 N2 S ?C G ?d hP (.inl rfl) ?hl hpc hpcr rfl ?ret)
  case C =>
    exact .cons imm_list.tab (.cons hOi.tab (.cons (ne_tab_cell d1) (.cons (ne_tab_cell d2) (.cons (ne_tab_cell d3) (.cons (ne_tab_cell d4) (.cons (ne_tab_cell d5) (.cons (ne_tab_cell c6) (.cons (ne_tab_cell d7) (.cons (ne_tab_cell c8) (.cons (ne_tab_cell c9) (Cut.skip I)))))))))))
  case d => (try dsimp only [At, Around.deeper]); omega
  case hl => exact .head _
  case ret =>
    intro h' tk' t' tl' S' f30 f37 F3 N3
    simp only [List.cons_append] at N3
    replace f30 := f30 (.inr hne)
    replace f37 := f37 (.inr hne)
    clear S N2
    (try dsimp only); (try k_unmd)
    k_steps
    all_goals try k_data
    (try dsimp only)
    refine Locked.mk ?_
    rename Fr _ _ _ _ => F5
    rename News _ _ _ _ => N5
    exact next _ _ _ _ S' f30 f37 F5 (news_tl N5)
end
theorem rows_again_19 : True := by
  k_with "call ref" => (k_here; (with_reducible show wpAny _ _ (call (Value.ref 81) _) _ _ _); k_dflt (refine' K_number (by k_asm) (by k_asm) (by assumption) (by ktr_rel) (by assumption) (by assumption) (by assumption) (by ktr_room) (by with_reducible assumption) (by with_reducible assumption) (by exact isList_own (by k_asm) (by k_mem)) (by with_reducible assumption) (by with_reducible assumption) (by with_reducible assumption) ?_; k_whole); intro hZ9 tkZ9 tZ9 FZ9 NZ9)
  trivial
theorem rows_PB_20 : True := by
  k_with "call ref" => (k_here; (with_reducible show wpAny _ _ (call (Value.ref 74) _) _ _ _); k_dflt (refine' K_bisect (by k_asm) (by k_asm) (by assumption) (by ktr_rel) (by assumption) (by assumption) (by assumption) (by ktr_room) (by ((try dsimp only [At, Around.deeper]); omega)) (by exact isList_own (by k_asm) (by k_mem)) (by (exact PairsN.heap (by k_asm) (fun q9 h9 => by repeat (first | exact List.mem_append_left _ h9 | refine List.mem_cons_of_mem _ ?_)) (by with_reducible assumption))) (by omega) (by exact pair_news (by k_asm) (by k_mem)) (by with_reducible assumption) (by exact .inl ⟨rfl, rfl⟩) ?_; k_whole); intro hZ9 tkZ9 rZ9 kZ9 tZ9 hkZ9 hrZ9 FZ9 NZ9)
  trivial
section
theorem law_10 {w : World} {mean mg mb} {dp un fr gd} {s : Shared} {g : Heap} {Q : Flow → Shared → Prop} {E : Value → Shared → Prop} {L : Addr} {m : Str → Option Value}
   {fd : FuncData} {body : List Stmt} {oc : Value} {od : Option Addr} {osl : Array (Option Value)} (ho : (hd.heap_39 w.params).lookup 93 = some ⟨oc, od, .func fd, osl⟩) (hbody : fd.body = .stmts body) (G : Good w mean mg mb g)
   (hdp : dp + 60 < 1000) (hun : un + 100 < cLine) {row : List Int} {long prime : Int} {o1 o2 o3 o4 o5 o6 o7 o8 o9 : Obj} {tl ex : List (Addr × Obj)} (S : TL g tl) (I : Imms ex) (F : Fr (ghost g) L s.heap m) (N : News (ghost g) L s.heap ((L + 1 + 1 + 1 + 1 + 1 + 1 + 1 + 1 + 1, o1) :: (L + 1 + 1 + 1 + 1 + 1 + 1 + 1 + 1, o2) :: (L + 1 + 1 + 1 + 1 + 1 + 1 + 1, o3) :: (L + 1 + 1 + 1 + 1 + 1 + 1, o4) :: (L + 1 + 1 + 1 + 1 + 1, o5) :: (L + 1 + 1 + 1 + 1, o6) :: (L + 1 + 1 + 1, o7) :: (L + 1 + 1, o8) :: (L + 1, o9) :: (ex ++ tl)))
   (d1 : ∃ v, o1.data = .cell v) (d2 : ∃ v, o2.data = .cell v) (d3 : ∃ v, o3.data = .cell v) (d4 : ∃ v, o4.data = .cell v) (d5 : ∃ v, o5.data = .cell v) (d6 : ∃ v, o6.data = .cell v) (d7 : ∃ v, o7.data = .cell v) (d8 : ∃ v, o8.data = .cell v) (d9 : ∃ v, o9.data = .cell v) (f30 : Full30 tl) (f37 : Full37 tl) (hP : Menu prime) (hlong1 : 1 ≤ long) (hlong3 : long ≤ 3) (hrowl : row.length ≤ 14) (hrowr : ∀ x ∈ row, 0 ≤ x ∧ x < 3)
   {O : Addr} {vs : List Value} {cnt : Nat} {ps : List (Int × Int)} (mO : (O, W.listOf vs.toArray cnt) ∈ ex) (nO : m (Str.ofString "order") = some (.ref O)) (hOrd : Ord (rolls 3 prime long.toNat row) (rolls 3 prime long.toNat row).length ps) (hPs : PairsN ex vs ps)
   {mn : Int} {tm : Tok} (nM : m (Str.ofString "mine") = some (.int mn tm))
   (next : ∀ h' tk m' FL tF k r o3', Place ps (mn, 0) r → ((r : Nat) : Int) = k → o3'.data = .cell (some (.ref FL)) → Fr (ghost g) L h' m' → m' (Str.ofString "place") = some (.int k tF) → m' (Str.ofString "order") = some (.ref O) → m' (Str.ofString "mine") = some (.int mn tm) → News (ghost g) L h' ((FL, W.listOf ([] : List Value).toArray 0) :: (L + 1 + 1 + 1 + 1 + 1 + 1 + 1 + 1 + 1, o1) :: (L + 1 + 1 + 1 + 1 + 1 + 1 + 1 + 1, o2) :: (L + 1 + 1 + 1 + 1 + 1 + 1 + 1, o3') :: (L + 1 + 1 + 1 + 1 + 1 + 1, o4) :: (L + 1 + 1 + 1 + 1 + 1, o5) :: (L + 1 + 1 + 1 + 1, o6) :: (L + 1 + 1 + 1, o7) :: (L + 1 + 1, o8) :: (L + 1, o9) :: (ex ++ tl)) → (∀ p ∈ (L + 1 + 1 + 1 + 1 + 1 + 1 + 1 + 1 + 1, o1) :: (L + 1 + 1 + 1 + 1 + 1 + 1 + 1 + 1, o2) :: (L + 1 + 1 + 1 + 1 + 1 + 1 + 1, o3') :: (L + 1 + 1 + 1 + 1 + 1 + 1, o4) :: (L + 1 + 1 + 1 + 1 + 1, o5) :: (L + 1 + 1 + 1 + 1, o6) :: (L + 1 + 1 + 1, o7) :: (L + 1 + 1, o8) :: (L + 1, o9) :: (ex ++ tl), p.1 < FL) →
     wpAny (model PR w) ((At dp un fr gd).deeper (envOfC fd.qualname fd.scope L 93 fd.code)) (execs (body.drop 11) (envOfC fd.qualname fd.scope L 93 fd.code)) Q E { s with heap := h', toks := tk }) :
   wpAny (model PR w) ((At dp un fr gd).deeper (envOfC fd.qualname fd.scope L 93 fd.code)) (execs (body.drop 10) (envOfC fd.qualname fd.scope L 93 fd.code)) Q E s := by
  have X := G.g.X
  have T0 := G.g.T
  k_dflt (refine' fetch2 (K := hd.heap_39 w.params) (a := 93) ?k1 ?_; (case k1 => k_is))
  intro e93
  have e := fn_inj ho e93
  subst e
  injection hbody with hbody
  subst hbody
  clear ho e93
  simp only [List.drop_succ_cons, List.drop_zero]
  refine exec_one ?_
  obtain ⟨v1, d1⟩ := d1
  obtain ⟨v2, d2⟩ := d2
  obtain ⟨v3, d3⟩ := d3
  obtain ⟨v4, d4⟩ := d4
  obtain ⟨v5, d5⟩ := d5
  obtain ⟨v6, d6⟩ := d6
  obtain ⟨v7, d7⟩ := d7
  obtain ⟨v8, d8⟩ := d8
  obtain ⟨v9, d9⟩ := d9
  have hso := hOrd.1
  have hpl := hOrd.2.1
  have hrl := rolls_length (base := 3) (p := prime) (n := long.toNat) (ns := row)
  have hO3 : @Ne Nat (L + 1 + 1 + 1 + 1 + 1 + 1 + 1) O := cell_ne N (x := O) (by repeat (first | exact List.mem_append_left _ mO | refine List.mem_cons_of_mem _ ?_)) imm_list (by k_mem) d3
  have htail : ∀ p ∈ ex ++ tl, p.1 ≠ (L + 1 + 1 + 1 + 1 + 1 + 1 + 1) := tail_ne N S I (fun p9 h9 => by repeat (first | exact h9 | refine List.mem_cons_of_mem _ ?_)) (by k_mem) d3
  have N1 := news_add (p := (O, W.listOf vs.toArray cnt)) (by repeat (first | exact List.mem_append_left _ mO | refine List.mem_cons_of_mem _ ?_)) N
  have F1 : Fr (ghost g) L s.heap _ := fr_know (x := Str.ofString "order") (fr_know (x := Str.ofString "mine") F nM) nO
  have N2 : News (ghost g) L s.heap _ := N1
  clear F N N1
  (try dsimp only); (try k_unmd); (try k_fold)
  k_steps
  all_goals try k_data
  (try dsimp only)
  refine Locked.mk ?_
  rename Fr _ _ _ _ => F5
  rename News _ _ _ _ => N5
  rename Place _ _ _ => hr5
  rename ((_ : Nat) : Int) = _ => hk5
  rename _ = Data.cell (some (Value.ref _)) => d5
  rename (@LT.lt Nat _ _ _) ∧ (@LT.lt Nat _ O _) ∧ _ => l5
  refine next _ _ _ _ _ _ _ _ hr5 hk5 d5 F5 rfl rfl rfl (news_sub N5 ?_) (allLt_mem (l := (L + 1 + 1 + 1 + 1 + 1 + 1 + 1 + 1 + 1, o1) :: (L + 1 + 1 + 1 + 1 + 1 + 1 + 1 + 1, o2) :: (L + 1 + 1 + 1 + 1 + 1 + 1 + 1, _) :: (L + 1 + 1 + 1 + 1 + 1 + 1, o4) :: (L + 1 + 1 + 1 + 1 + 1, o5) :: (L + 1 + 1 + 1 + 1, o6) :: (L + 1 + 1 + 1, o7) :: (L + 1 + 1, o8) :: (L + 1, o9) :: (ex ++ tl)) (by simpa only [AllLt, and_true] using l5.2.2))
  intro p hp
  rcases List.mem_cons.mp hp with rfl | hp
  · exact .tail _ (.head _)
  · exact .tail _ (.tail _ (.tail _ (.tail _ hp)))
end
section
theorem PairsN.get {tups : List (Addr × Obj)} {vs : List Value} {ps : List (Int × Int)} (x : PairsN tups vs ps) : ∀ (i : Nat) (p : Int × Int), ps[i]? = some p → ∃ a ta tb, vs[i]? = some (.ref a) ∧ (a, tupO [.int p.1 ta, .int p.2 tb]) ∈ tups := by
  induction x with
  | nil => intro i p e; simp at e
  | cons hm _ ih =>
    intro i p e
    cases i with
    | zero => simp at e; subst e; exact ⟨_, _, _, rfl, hm⟩
    | succ i => simpa using ih i p (by simpa using e)
/-- the places found -/
def Found (ps : List (Int × Int)) (mn : Int) (fs : List Int) : Prop := (∀ k, k ∈ fs ↔ (mn, k) ∈ ps) ∧ fs.Pairwise (· < ·)
def seg (ps : List (Int × Int)) (r j : Nat) : List Int := ((ps.take j).drop r).map (·.2)
theorem mem_seg {ps : List (Int × Int)} {r j : Nat} {q : Int × Int} (h : q ∈ (ps.take j).drop r) : ∃ i, r ≤ i ∧ i < j ∧ ps[i]? = some q := by
  obtain ⟨i, hi⟩ := List.getElem?_of_mem h
  rw [List.getElem?_drop] at hi
  have hj : r + i < j := by
    have := (List.getElem?_eq_some_iff.mp hi).1
    rw [List.length_take] at this; omega
  rw [List.getElem?_take_of_lt hj] at hi
  exact ⟨r + i, by omega, hj, hi⟩
theorem seg_mem {ps : List (Int × Int)} {r j i : Nat} {q : Int × Int} (h1 : r ≤ i) (h2 : i < j) (h : ps[i]? = some q) : q ∈ (ps.take j).drop r := by
  refine List.mem_of_getElem? (i := i - r) ?_
  rw [List.getElem?_drop, show r + (i - r) = i by omega, List.getElem?_take_of_lt h2]
  exact h
theorem seg_next {ps : List (Int × Int)} {r j : Nat} {q : Int × Int} (h1 : r ≤ j) (h : ps[j]? = some q) : seg ps r (j + 1) = seg ps r j ++ [q.2] := by
  unfold seg
  have hl : j < ps.length := (List.getElem?_eq_some_iff.mp h).1
  rw [List.take_add_one, h, List.drop_append_of_le_length (by rw [List.length_take]; omega), List.map_append]
  rfl
theorem found_of {ps : List (Int × Int)} {mn : Int} {r j : Nat} (hso : ps.Pairwise PLt) (hpos : ∀ p ∈ ps, 0 ≤ p.2) (hr : Place ps (mn, 0) r) (hrj : r ≤ j) (hall : ∀ i q, r ≤ i → i < j → ps[i]? = some q → q.1 = mn) (hend : ∀ q, ps[j]? = some q → q.1 ≠ mn) : Found ps mn (seg ps r j) := by
  refine ⟨fun k => ⟨fun h => ?_, fun h => ?_⟩, ?_⟩
  · unfold seg at h
    obtain ⟨q, hq, e⟩ := List.mem_map.mp h
    obtain ⟨i, h1, h2, h3⟩ := mem_seg hq
    have h4 := hall i q h1 h2 h3
    have : q = (mn, k) := Prod.ext h4 e
    exact this ▸ List.mem_of_getElem? h3
  · obtain ⟨i, hi⟩ := List.getElem?_of_mem h
    have hk := hpos _ h
    have h1 : r ≤ i := by
      rcases Nat.lt_or_ge i r with c | c
      · have := hr.2.1 i _ c hi
        unfold PLt at this
        simp only at this hk
        omega
      · exact c
    have h2 : i < j := by
      rcases Nat.lt_or_ge i j with c | c
      · exact c
      · have hil : i < ps.length := (List.getElem?_eq_some_iff.mp hi).1
        have hj := List.getElem?_eq_getElem (l := ps) (i := j) (by omega)
        have e1 := hend _ hj
        have e2 := hr.2.2 j _ hrj hj
        rcases pair_le hso c hj hi with e | e
        · rw [e] at e1; exact absurd rfl e1
        · unfold PLt at e e2
          simp only at e e2
          omega
    unfold seg
    exact List.mem_map.mpr ⟨_, seg_mem h1 h2 hi, rfl⟩
  · unfold seg
    rw [List.pairwise_map]
    refine (hso.sublist ((List.drop_sublist _ _).trans (List.take_sublist _ _))).imp_of_mem fun {a b} ha hb hab => ?_
    obtain ⟨i, h1, h2, h3⟩ := mem_seg ha
    obtain ⟨i', h1', h2', h3'⟩ := mem_seg hb
    have e1 := hall i a h1 h2 h3
    have e2 := hall i' b h1' h2' h3'
    unfold PLt at hab
    omega
theorem law_11 {w : World} {mean mg mb} {dp un fr gd} {s : Shared} {g : Heap} {Q : Flow → Shared → Prop} {E : Value → Shared → Prop} {L : Addr} {m : Str → Option Value}
   {fd : FuncData} {body : List Stmt} {oc : Value} {od : Option Addr} {osl : Array (Option Value)} (ho : (hd.heap_39 w.params).lookup 93 = some ⟨oc, od, .func fd, osl⟩) (hbody : fd.body = .stmts body) (G : Good w mean mg mb g)
   (hdp : dp + 60 < 1000) (hun : un + 100 < cLine) {row : List Int} {long prime : Int} {o1 o2 o3 o4 o5 o6 o7 o8 o9 : Obj} {tl ex : List (Addr × Obj)} (S : TL g tl) (I : Imms ex)
   {FL : Addr} (hFL : ∀ p ∈ (L + 1 + 1 + 1 + 1 + 1 + 1 + 1 + 1 + 1, o1) :: (L + 1 + 1 + 1 + 1 + 1 + 1 + 1 + 1, o2) :: (L + 1 + 1 + 1 + 1 + 1 + 1 + 1, o3) :: (L + 1 + 1 + 1 + 1 + 1 + 1, o4) :: (L + 1 + 1 + 1 + 1 + 1, o5) :: (L + 1 + 1 + 1 + 1, o6) :: (L + 1 + 1 + 1, o7) :: (L + 1 + 1, o8) :: (L + 1, o9) :: (ex ++ tl), p.1 < FL) (F : Fr (ghost g) L s.heap m) (N : News (ghost g) L s.heap ((FL, W.listOf ([] : List Value).toArray 0) :: (L + 1 + 1 + 1 + 1 + 1 + 1 + 1 + 1 + 1, o1) :: (L + 1 + 1 + 1 + 1 + 1 + 1 + 1 + 1, o2) :: (L + 1 + 1 + 1 + 1 + 1 + 1 + 1, o3) :: (L + 1 + 1 + 1 + 1 + 1 + 1, o4) :: (L + 1 + 1 + 1 + 1 + 1, o5) :: (L + 1 + 1 + 1 + 1, o6) :: (L + 1 + 1 + 1, o7) :: (L + 1 + 1, o8) :: (L + 1, o9) :: (ex ++ tl)))
   (f30 : Full30 tl) (f37 : Full37 tl) (hP : Menu prime) (hlong1 : 1 ≤ long) (hlong3 : long ≤ 3) (hrowl : row.length ≤ 14) (hrowr : ∀ x ∈ row, 0 ≤ x ∧ x < 3) (c3 : o3.data = .cell (some (.ref FL)))
   {O : Addr} {vs : List Value} {cnt : Nat} {ps : List (Int × Int)} (mO : (O, W.listOf vs.toArray cnt) ∈ ex) (nO : m (Str.ofString "order") = some (.ref O)) (hOrd : Ord (rolls 3 prime long.toNat row) (rolls 3 prime long.toNat row).length ps) (hPs : PairsN ex vs ps)
   {mn : Int} {tm tF : Tok} {k : Int} {r : Nat} (nM : m (Str.ofString "mine") = some (.int mn tm)) (nP : m (Str.ofString "place") = some (.int k tF)) (hr : Place ps (mn, 0) r) (hk : ((r : Nat) : Int) = k) (hE : PassesOwn (model PR w) ((At dp un fr gd).deeper (envOfC fd.qualname fd.scope L 93 fd.code)) (envOfC fd.qualname fd.scope L 93 fd.code) E)
   (next : ∀ h' tk m' arr cnt fs, Found ps mn fs → IntsAre arr.toList fs → Fr (ghost g) L h' m' → News (ghost g) L h' ((FL, W.listOf arr cnt) :: (L + 1 + 1 + 1 + 1 + 1 + 1 + 1 + 1 + 1, o1) :: (L + 1 + 1 + 1 + 1 + 1 + 1 + 1 + 1, o2) :: (L + 1 + 1 + 1 + 1 + 1 + 1 + 1, o3) :: (L + 1 + 1 + 1 + 1 + 1 + 1, o4) :: (L + 1 + 1 + 1 + 1 + 1, o5) :: (L + 1 + 1 + 1 + 1, o6) :: (L + 1 + 1 + 1, o7) :: (L + 1 + 1, o8) :: (L + 1, o9) :: (ex ++ tl)) →
     wpAny (model PR w) ((At dp un fr gd).deeper (envOfC fd.qualname fd.scope L 93 fd.code)) (execs (body.drop 12) (envOfC fd.qualname fd.scope L 93 fd.code)) Q E { s with heap := h', toks := tk }) :
   wpAny (model PR w) ((At dp un fr gd).deeper (envOfC fd.qualname fd.scope L 93 fd.code)) (execs (body.drop 11) (envOfC fd.qualname fd.scope L 93 fd.code)) Q E s := by
  have X := G.g.X
  have T0 := G.g.T
  k_dflt (refine' fetch2 (K := hd.heap_39 w.params) (a := 93) ?k1 ?_; (case k1 => k_is))
  intro e93
  have e := fn_inj ho e93
  subst e
  injection hbody with hbody
  subst hbody
  clear ho e93
  simp only [List.drop_succ_cons, List.drop_zero]
  refine exec_one ?_
  have hso := hOrd.1
  have hpl := hOrd.2.1
  have hvl := hPs.length
  have hrl := rolls_length (base := 3) (p := prime) (n := long.toNat) (ns := row)
  have hpos : ∀ p ∈ ps, 0 ≤ p.2 := fun p hp => by
    obtain ⟨k, _, _, e⟩ := (hOrd.2.2 p).mp hp
    omega
  have hFL2 : ∀ p ∈ (O, W.listOf vs.toArray cnt) :: (L + 1 + 1 + 1 + 1 + 1 + 1 + 1 + 1 + 1, o1) :: (L + 1 + 1 + 1 + 1 + 1 + 1 + 1 + 1, o2) :: (L + 1 + 1 + 1 + 1 + 1 + 1 + 1, o3) :: (L + 1 + 1 + 1 + 1 + 1 + 1, o4) :: (L + 1 + 1 + 1 + 1 + 1, o5) :: (L + 1 + 1 + 1 + 1, o6) :: (L + 1 + 1 + 1, o7) :: (L + 1 + 1, o8) :: (L + 1, o9) :: (ex ++ tl), p.1 ≠ FL := fun p hp => by
    rcases List.mem_cons.mp hp with rfl | hp
    · exact Nat.ne_of_lt (hFL (O, W.listOf vs.toArray cnt) (by repeat (first | exact List.mem_append_left _ mO | refine List.mem_cons_of_mem _ ?_)))
    · exact Nat.ne_of_lt (hFL p hp)
  have N1 : News (ghost g) L s.heap ((FL, W.listOf ([] : List Value).toArray 0) :: (O, W.listOf vs.toArray cnt) :: (L + 1 + 1 + 1 + 1 + 1 + 1 + 1 + 1 + 1, o1) :: (L + 1 + 1 + 1 + 1 + 1 + 1 + 1 + 1, o2) :: (L + 1 + 1 + 1 + 1 + 1 + 1 + 1, o3) :: (L + 1 + 1 + 1 + 1 + 1 + 1, o4) :: (L + 1 + 1 + 1 + 1 + 1, o5) :: (L + 1 + 1 + 1 + 1, o6) :: (L + 1 + 1 + 1, o7) :: (L + 1 + 1, o8) :: (L + 1, o9) :: (ex ++ tl)) := news_sub (news_add (p := (O, W.listOf vs.toArray cnt)) (by repeat (first | exact List.mem_append_left _ mO | refine List.mem_cons_of_mem _ ?_)) N) (by
    intro p hp
    rcases List.mem_cons.mp hp with rfl | hp
    · exact .tail _ (.head _)
    · rcases List.mem_cons.mp hp with rfl | hp
      · exact .head _
      · exact .tail _ (.tail _ hp))
  clear N
  (try dsimp only); (try k_unmd); (try k_fold)
  k_steps
  all_goals try k_data
  (try dsimp only)
  refine Locked.mk ?_
  k_dflt (refine' While_inv (n₀ := ps.length - r) (fun n m nw => ∃ j arr cntF tj, n = ps.length - j ∧ r ≤ j ∧ j ≤ ps.length ∧ (∀ i q, r ≤ i → i < j → ps[i]? = some q → q.1 = mn) ∧ IntsAre arr.toList (seg ps r j) ∧ m (Str.ofString "place") = some (.int ((j : Nat) : Int) tj) ∧ m (Str.ofString "order") = some (.ref O) ∧ m (Str.ofString "mine") = some (.int mn tm) ∧ nw = (FL, W.listOf arr cntF) :: (O, W.listOf vs.toArray cnt) :: (L + 1 + 1 + 1 + 1 + 1 + 1 + 1 + 1 + 1, o1) :: (L + 1 + 1 + 1 + 1 + 1 + 1 + 1 + 1, o2) :: (L + 1 + 1 + 1 + 1 + 1 + 1 + 1, o3) :: (L + 1 + 1 + 1 + 1 + 1 + 1, o4) :: (L + 1 + 1 + 1 + 1 + 1, o5) :: (L + 1 + 1 + 1 + 1, o6) :: (L + 1 + 1 + 1, o7) :: (L + 1 + 1, o8) :: (L + 1, o9) :: (ex ++ tl)) F N1 ?h0 ?turn ?hE)
  case h0 => exact ⟨r, #[], 0, tF, rfl, Nat.le_refl _, hr.1, (fun i q h1 h2 => absurd h1 (by omega)), (by rw [show seg ps r r = [] by unfold seg; rw [List.drop_of_length_le (by rw [List.length_take]; omega)]; rfl]; exact .nil), (by rw [hk]; exact nP), nO, nM, rfl⟩
  case turn =>
    rintro n m₁ _ h₁ tk₁ F2 N2 ⟨j, arr, cntF, tj, rfl, hrj, hjl, hall, hA, hm1, hm2, hm3, rfl⟩
    have hsz : arr.size ≤ 14 := by
      have := hA.length
      have h2 : (seg ps r j).length ≤ ps.length := by unfold seg; rw [List.length_map, List.length_drop, List.length_take]; omega
      have h3 : arr.toList.length = arr.size := Array.length_toList
      omega
    have hsize : arr.size ≤ sizeLine := Nat.le_trans hsz (by decide)
    have hvl2 : (vs.length : Int) = ps.length := by omega
    have hb1 : (ps.length : Int) < 1000 := by omega
    by_cases hlt : j < ps.length
    · obtain ⟨q, hq⟩ : ∃ q, ps[j]? = some q := ⟨_, List.getElem?_eq_getElem hlt⟩
      obtain ⟨y, ta, tb, hyv, hym⟩ := hPs.get _ _ hq
      obtain ⟨jj, hjj⟩ : ∃ jj : Int, ((j : Nat) : Int) = jj := ⟨_, rfl⟩
      obtain ⟨j1, hj1⟩ : ∃ j1 : Int, jj + 1 = j1 := ⟨_, rfl⟩
      have hyv2 : vs.toArray[jj.toNat]? = some (.ref y) := by rw [show jj.toNat = j by omega]; simpa using hyv
      have hj0 : 0 ≤ jj := by omega
      have hj2 : jj < 2 ^ 63 := by omega
      have hyF : @Ne Nat y FL := Nat.ne_of_lt (hFL (y, tupO [.int q.1 ta, .int q.2 tb]) (by repeat (first | exact List.mem_append_left _ hym | refine List.mem_cons_of_mem _ ?_)))
      rw [hjj] at hm1
      have F3 : Fr (ghost g) L h₁ _ := fr_know (x := Str.ofString "place") (fr_know (x := Str.ofString "order") (fr_know (x := Str.ofString "mine") F2 hm3) hm2) hm1
      have N3 := news_add (p := (y, tupO [.int q.1 ta, .int q.2 tb])) (by repeat (first | exact List.mem_append_left _ hym | refine List.mem_cons_of_mem _ ?_)) N2
      clear F2 N2 F N1
      by_cases hc : q.1 = mn
      · (try k_unmd)
        (try k_fold)
        k_steps
        all_goals try k_data
        rename Fr _ _ _ _ => F9
        rename News _ _ _ _ => N9
        k_dflt (refine' WhileStep.intro (n' := ps.length - (j + 1)) F9 (news_tl N9) ?w1 ?w2)
        case w1 => omega
        case w2 => exact ⟨j + 1, _, _, _, rfl, by omega, by omega, (fun i q' h1 h2 e => by
          rcases Nat.lt_or_ge i j with c | c
          · exact hall i q' h1 c e
          · obtain rfl : i = j := by omega
            rw [hq] at e; rw [← Option.some.inj e]; exact hc), (by rw [seg_next hrj hq]; exact intsAre_push hA), (by rw [show ((j + 1 : Nat) : Int) = j1 by omega]; rfl), rfl, rfl, rfl⟩
        all_goals (exfalso; omega)
      · (try k_unmd)
        (try k_fold)
        k_steps
        all_goals try k_data
        all_goals (try (exfalso; omega))
        (try dsimp only)
        refine Locked.mk ?_
        rename Fr _ _ _ _ => F9
        rename News _ _ _ _ => N9
        exact next _ _ _ arr cntF _ (found_of hso hpos hr hrj hall (fun q' e => by rw [hq] at e; rw [← Option.some.inj e]; exact hc)) hA F9 (news_sub N9 (by
          intro p hp
          rcases List.mem_cons.mp hp with rfl | hp
          · exact .tail _ (.head _)
          · exact .tail _ (.tail _ (.tail _ hp))))
    · have F3 : Fr (ghost g) L h₁ _ := fr_know (x := Str.ofString "place") (fr_know (x := Str.ofString "order") (fr_know (x := Str.ofString "mine") F2 hm3) hm2) hm1
      have N3 : News (ghost g) L h₁ _ := N2
      clear F2 N2 F N1
      (try k_unmd)
      (try k_fold)
      k_steps
      all_goals try k_data
      all_goals (try (exfalso; omega))
      (try dsimp only)
      refine Locked.mk ?_
      rename Fr _ _ _ _ => F9
      rename News _ _ _ _ => N9
      exact next _ _ _ arr cntF _ (found_of hso hpos hr hrj hall (fun q' e => by
        have := (List.getElem?_eq_some_iff.mp e).1
        omega)) hA F9 (news_sub N9 (by
          intro p hp
          rcases List.mem_cons.mp hp with rfl | hp
          · exact .head _
          · exact .tail _ (.tail _ hp)))
  case hE => exact hE
end
section
/-- where the piece stands -/
def hits (row pc : List Int) (n i : Nat) : List Int := ((List.range i).filter fun k => decide (win n row k = pc)).map fun k => ((k : Nat) : Int)
theorem hits_yes {row pc : List Int} {n i : Nat} (h : win n row i = pc) : hits row pc n (i + 1) = hits row pc n i ++ [(i : Int)] := by
  unfold hits
  rw [List.range_succ, List.filter_append, List.map_append]
  simp [h]
theorem hits_no {row pc : List Int} {n i : Nat} (h : win n row i ≠ pc) : hits row pc n (i + 1) = hits row pc n i := by
  unfold hits
  rw [List.range_succ, List.filter_append, List.map_append]
  simp [h]
theorem ints_snoc {vs : List Value} {ns : List Int} {k : Int} {t : Tok} (h : IntsAre vs ns) : IntsAre (vs ++ [.int k t]) (ns ++ [k]) := IntsAre.append h (.cons k t .nil)
theorem law_12 {w : World} {mean mg mb} {dp un fr gd} {s : Shared} {g : Heap} {Q : Flow → Shared → Prop} {E : Value → Shared → Prop} {L : Addr} {m : Str → Option Value}
   {fd : FuncData} {body : List Stmt} {oc : Value} {od : Option Addr} {osl : Array (Option Value)} (ho : (hd.heap_39 w.params).lookup 93 = some ⟨oc, od, .func fd, osl⟩) (hbody : fd.body = .stmts body) (G : Good w mean mg mb g)
   (hdp : dp + 60 < 1000) (hun : un + 100 < cLine) {row : List Int} {long prime : Int} {o1 o2 o3 o4 o5 o6 o7 o8 o9 : Obj} {tl ex : List (Addr × Obj)} (S : TL g tl) (I : Imms ex) (F : Fr (ghost g) L s.heap m) (N : News (ghost g) L s.heap ((L + 1 + 1 + 1 + 1 + 1 + 1 + 1 + 1 + 1, o1) :: (L + 1 + 1 + 1 + 1 + 1 + 1 + 1 + 1, o2) :: (L + 1 + 1 + 1 + 1 + 1 + 1 + 1, o3) :: (L + 1 + 1 + 1 + 1 + 1 + 1, o4) :: (L + 1 + 1 + 1 + 1 + 1, o5) :: (L + 1 + 1 + 1 + 1, o6) :: (L + 1 + 1 + 1, o7) :: (L + 1 + 1, o8) :: (L + 1, o9) :: (ex ++ tl)))
   (d1 : ∃ v, o1.data = .cell v) (d2 : ∃ v, o2.data = .cell v) (d3 : ∃ v, o3.data = .cell v) (d4 : ∃ v, o4.data = .cell v) (d5 : ∃ v, o5.data = .cell v) (d6 : ∃ v, o6.data = .cell v) (d7 : ∃ v, o7.data = .cell v) (d8 : ∃ v, o8.data = .cell v) (d9 : ∃ v, o9.data = .cell v) (hP : Menu prime) (hlong1 : 1 ≤ long) (hlong3 : long ≤ 3) (hrowl : row.length ≤ 14) (hrowr : ∀ x ∈ row, 0 ≤ x ∧ x < 3)
   {P : Addr} {wsP : List Value} {nP : Nat} {pc : List Int} (mP : (P, W.listOf wsP.toArray nP) ∈ ex) (hpc : IntsAre wsP pc) (hpcl : pc.length = long.toNat) (c6 : o6.data = .cell (some (.ref P)))
   {D : Addr} {ys : List Value} {nD : Nat} (mD : (D, W.listOf ys.toArray nD) ∈ ex) (hst : Sts long.toNat row ((row.length : Int) - long + 1 - 0).toNat ys ex) (c4 : o4.data = .cell (some (.ref D)))
   (next : ∀ h' tk m' TH zs cz, m' (Str.ofString "there") = some (.ref TH) → IntsAre zs (hits row pc long.toNat ys.length) → Fr (ghost g) L h' m' → News (ghost g) L h' ((TH, W.listOf zs.toArray cz) :: (L + 1 + 1 + 1 + 1 + 1 + 1 + 1 + 1 + 1, o1) :: (L + 1 + 1 + 1 + 1 + 1 + 1 + 1 + 1, o2) :: (L + 1 + 1 + 1 + 1 + 1 + 1 + 1, o3) :: (L + 1 + 1 + 1 + 1 + 1 + 1, o4) :: (L + 1 + 1 + 1 + 1 + 1, o5) :: (L + 1 + 1 + 1 + 1, o6) :: (L + 1 + 1 + 1, o7) :: (L + 1 + 1, o8) :: (L + 1, o9) :: (ex ++ tl)) →
     wpAny (model PR w) ((At dp un fr gd).deeper (envOfC fd.qualname fd.scope L 93 fd.code)) (execs (body.drop 13) (envOfC fd.qualname fd.scope L 93 fd.code)) Q E { s with heap := h', toks := tk }) :
   wpAny (model PR w) ((At dp un fr gd).deeper (envOfC fd.qualname fd.scope L 93 fd.code)) (execs (body.drop 12) (envOfC fd.qualname fd.scope L 93 fd.code)) Q E s := by
  have X := G.g.X
  have T0 := G.g.T
  k_dflt (refine' fetch2 (K := hd.heap_39 w.params) (a := 93) ?k1 ?_; (case k1 => k_is))
  intro e93
  have e := fn_inj ho e93
  subst e
  injection hbody with hbody
  subst hbody
  clear ho e93
  simp only [List.drop_succ_cons, List.drop_zero]
  refine exec_one ?_
  have N1 := news_add (p := (P, W.listOf wsP.toArray nP)) (by repeat (first | exact List.mem_append_left _ mP | refine List.mem_cons_of_mem _ ?_)) (news_add (p := (D, W.listOf ys.toArray nD)) (by repeat (first | exact List.mem_append_left _ mD | refine List.mem_cons_of_mem _ ?_)) N)
  clear N
  obtain ⟨kT, hkT⟩ : ∃ kT : Int, (ys.length : Int) = kT := ⟨_, rfl⟩
  have hkT2 : kT ≤ 14 ∧ 0 ≤ kT := by
    have := hst.1
    omega
  (try dsimp only); (try k_unmd); (try k_fold)
  k_steps
  all_goals try k_data
  refine Locked.mk ?_
  k_dflt (refine' compT_inv (J := fun i zs nw => IntsAre zs (hits row pc long.toNat i) ∧ nw = (P, W.listOf wsP.toArray nP) :: (D, W.listOf ys.toArray nD) :: (L + 1 + 1 + 1 + 1 + 1 + 1 + 1 + 1 + 1, o1) :: (L + 1 + 1 + 1 + 1 + 1 + 1 + 1 + 1, o2) :: (L + 1 + 1 + 1 + 1 + 1 + 1 + 1, o3) :: (L + 1 + 1 + 1 + 1 + 1 + 1, o4) :: (L + 1 + 1 + 1 + 1 + 1, o5) :: (L + 1 + 1 + 1 + 1, o6) :: (L + 1 + 1 + 1, o7) :: (L + 1 + 1, o8) :: (L + 1, o9) :: (ex ++ tl)) ?j0 ?turn ?fin)
  case j0 => exact ⟨.nil, rfl⟩
  case turn =>
    rintro i v I1 oI C1 oC D1 m₂ zs _ h tk E' hin ⟨t, hv⟩ ⟨hzs, rfl⟩ hC hx F1 N2 off ne
    clear ne
    obtain ⟨k, hk⟩ : ∃ k, (0 : Int) + (i : Int) = k := ⟨_, rfl⟩
    rw [hk] at hv
    subst hv
    have hik : i = k.toNat := by omega
    subst hik
    have hlen := hst.1
    obtain ⟨a, ws, ha, hma, hwa⟩ := hst.2 k.toNat (by omega)
    have hya2 : ys.toArray[k.toNat]? = some (Value.ref a) := by simpa using ha
    have hk0 : 0 ≤ k := by omega
    have hk1 : k < 2 ^ 63 := by omega
    have hkk : ((k.toNat : Nat) : Int) = k := by omega
    have N3 := news_add (p := (a, W.listOf ws.toArray 0)) (by repeat (first | exact List.mem_append_left _ hma | refine List.mem_cons_of_mem _ ?_)) N2
    clear N2
    obtain ⟨r, hr⟩ : ∃ r, decide (win long.toNat row k.toNat = pc) = r := ⟨_, rfl⟩
    k_steps
    all_goals try k_data
    · refine Locked.mk ?_
      rename Fr _ _ _ _ => F2
      rename News _ _ _ _ => N4
      rename r = true => hr2
      have hnext := hits_yes (of_decide_eq_true (hr.trans hr2))
      rw [hkk] at hnext
      exact LCg.CompEnd.intro F2 (news_tl N4) _ (fun p hp => hp) off trivial ⟨by rw [hnext]; exact ints_snoc hzs, rfl⟩
    · refine Locked.mk ?_
      rename Fr _ _ _ _ => F2
      rename News _ _ _ _ => N4
      rename r = false => hr2
      exact LCg.CompEnd.intro F2 (news_tl N4) _ (fun p hp => hp) off trivial ⟨by rw [hits_no (of_decide_eq_false (hr.trans hr2))]; exact hzs, rfl⟩
  case fin =>
    rintro zs _ ⟨hzs, rfl⟩
    first | unfold LCg.FinE | unfold LCg.FinA
    intro D1 h tk F3 N3 off3
    clear off3
    (try dsimp only)
    (try k_unmd)
    (try k_fold)
    k_steps
    all_goals try k_data
    (try dsimp only)
    refine Locked.mk ?_
    rename Fr _ _ _ _ => F5
    rename News _ _ _ _ => N5
    refine next _ _ _ _ zs zs.length rfl (by rw [show ys.length = (kT - 0).toNat by omega]; exact hzs) F5 (news_sub N5 ?_)
    intro p hp
    rcases List.mem_cons.mp hp with rfl | hp
    · exact .head _
    · exact .tail _ (.tail _ (.tail _ hp))
end
section
theorem notin_own {w : World} {A : Around} {s : Shared} {Q E : Value → Shared → Prop} {h₀ : Heap} {L l : Addr} {news : List (Addr × Obj)} {vs : List Value} {n : Nat} {ns : List Int} {k : Int} {t : Tok} (N : News h₀ L s.heap news) (hm : (l, W.listOf vs.toArray n) ∈ news) (hi : IntsAre vs ns) (hk : k ∈ ns) (h : Q (.bool false) s) : wpAny (model PR w) A (compareOp .NotIn (.int k t) (.ref l)) Q E s :=
  notin_list_ints (isList_own N hm) hi (by
    have : ns.any (· == k) = true := by simpa using hk
    rw [this]; exact h)
theorem rows_S13_21 : True := by
  k_with "compareOp NotIn int ref" => (k_here; k_dflt (refine' notin_own (by k_asm) (by k_mem) (by with_reducible assumption) (by with_reducible assumption) ?_; k_whole))
  k_with "CompSrcT" => (k_here; k_dflt (refine LCt.CompSrcT.ledger (by rfl) (by k_asm) (by k_asm) (by k_mem) (by with_reducible assumption) ?_; intro gZ9; refine Locked.out ?_))
  trivial
theorem law_13 {w : World} {mean mg mb} {dp un fr gd} {s : Shared} {g : Heap} {Q : Flow → Shared → Prop} {E : Value → Shared → Prop} {L : Addr} {m : Str → Option Value}
   {fd : FuncData} {body : List Stmt} {oc : Value} {od : Option Addr} {osl : Array (Option Value)} (ho : (hd.heap_39 w.params).lookup 93 = some ⟨oc, od, .func fd, osl⟩) (hbody : fd.body = .stmts body) (G : Good w mean mg mb g)
   (hdp : dp + 60 < 1000) (hun : un + 100 < cLine) {row : List Int} {long prime : Int} {o1 o2 o3 o4 o5 o6 o7 o8 o9 : Obj} {tl ex : List (Addr × Obj)} (S : TL g tl) (I : Imms ex) (F : Fr (ghost g) L s.heap m) (N : News (ghost g) L s.heap ((L + 1 + 1 + 1 + 1 + 1 + 1 + 1 + 1 + 1, o1) :: (L + 1 + 1 + 1 + 1 + 1 + 1 + 1 + 1, o2) :: (L + 1 + 1 + 1 + 1 + 1 + 1 + 1, o3) :: (L + 1 + 1 + 1 + 1 + 1 + 1, o4) :: (L + 1 + 1 + 1 + 1 + 1, o5) :: (L + 1 + 1 + 1 + 1, o6) :: (L + 1 + 1 + 1, o7) :: (L + 1 + 1, o8) :: (L + 1, o9) :: (ex ++ tl)))
   (hP : Menu prime) (hlong1 : 1 ≤ long) (hlong3 : long ≤ 3) (hrowl : row.length ≤ 14) (hrowr : ∀ x ∈ row, 0 ≤ x ∧ x < 3) {tL tP : Tok} (c8 : o8.data = .cell (some (.int prime tP))) (c9 : o9.data = .cell (some (.int long tL)))
   {FL TH : Addr} {wsF wsH : List Value} {nF nH : Nat} {fs th : List Int} (mF : (FL, W.listOf wsF.toArray nF) ∈ ex) (hF : IntsAre wsF fs) (c3 : o3.data = .cell (some (.ref FL))) (mH : (TH, W.listOf wsH.toArray nH) ∈ ex) (hH : IntsAre wsH th) (tH : m (Str.ofString "there") = some (.ref TH)) (hin : ∀ k ∈ th, k ∈ fs) (heq : prime > 3 ^ long.toNat → fs = th) (hthl : th.length < 100)
   (next : ∀ h' tk, Fr (ghost g) L h' m → News (ghost g) L h' ((L + 1 + 1 + 1 + 1 + 1 + 1 + 1 + 1 + 1, o1) :: (L + 1 + 1 + 1 + 1 + 1 + 1 + 1 + 1, o2) :: (L + 1 + 1 + 1 + 1 + 1 + 1 + 1, o3) :: (L + 1 + 1 + 1 + 1 + 1 + 1, o4) :: (L + 1 + 1 + 1 + 1 + 1, o5) :: (L + 1 + 1 + 1 + 1, o6) :: (L + 1 + 1 + 1, o7) :: (L + 1 + 1, o8) :: (L + 1, o9) :: (ex ++ tl)) →
     wpAny (model PR w) ((At dp un fr gd).deeper (envOfC fd.qualname fd.scope L 93 fd.code)) (execs (body.drop 14) (envOfC fd.qualname fd.scope L 93 fd.code)) Q E { s with heap := h', toks := tk }) :
   wpAny (model PR w) ((At dp un fr gd).deeper (envOfC fd.qualname fd.scope L 93 fd.code)) (execs (body.drop 13) (envOfC fd.qualname fd.scope L 93 fd.code)) Q E s := by
  have X := G.g.X
  have T0 := G.g.T
  k_dflt (refine' fetch2 (K := hd.heap_39 w.params) (a := 93) ?k1 ?_; (case k1 => k_is))
  intro e93
  have e := fn_inj ho e93
  subst e
  injection hbody with hbody
  subst hbody
  clear ho e93
  simp only [List.drop_succ_cons, List.drop_zero]
  refine exec_one ?_
  have hsz : wsH.toArray.size ≤ sizeLine := by
    have := hH.length
    have h2 : wsH.toArray.size = wsH.length := List.size_toArray
    exact Nat.le_trans (by omega : wsH.toArray.size ≤ 100) (by decide)
  have N1 := news_add (p := (FL, W.listOf wsF.toArray nF)) (by repeat (first | exact List.mem_append_left _ mF | refine List.mem_cons_of_mem _ ?_)) (news_add (p := (TH, W.listOf wsH.toArray nH)) (by repeat (first | exact List.mem_append_left _ mH | refine List.mem_cons_of_mem _ ?_)) N)
  have F1 : Fr (ghost g) L s.heap _ := fr_know (x := Str.ofString "there") F tH
  have N2 : News (ghost g) L s.heap _ := N1
  clear F N N1
  (try dsimp only); (try k_unmd); (try k_fold)
  k_steps
  all_goals try k_data
  refine Locked.mk ?_
  k_dflt (refine' compT_inv (J := fun i zs nw => zs = [] ∧ nw = (FL, W.listOf wsF.toArray nF) :: (TH, W.listOf wsH.toArray nH) :: (L + 1 + 1 + 1 + 1 + 1 + 1 + 1 + 1 + 1, o1) :: (L + 1 + 1 + 1 + 1 + 1 + 1 + 1 + 1, o2) :: (L + 1 + 1 + 1 + 1 + 1 + 1 + 1, o3) :: (L + 1 + 1 + 1 + 1 + 1 + 1, o4) :: (L + 1 + 1 + 1 + 1 + 1, o5) :: (L + 1 + 1 + 1 + 1, o6) :: (L + 1 + 1 + 1, o7) :: (L + 1 + 1, o8) :: (L + 1, o9) :: (ex ++ tl)) ?j0 ?turn ?fin)
  case j0 => exact ⟨rfl, rfl⟩
  case turn =>
    rintro i v I1 oI C1 oC D1 m₂ zs _ h tk E' hin1 hv ⟨rfl, rfl⟩ hC hx F2 N2 off ne
    clear ne
    have hi1 : i < th.length := by
      have := hH.length
      have h2 : wsH.toArray.size = wsH.length := List.size_toArray
      omega
    obtain ⟨ta, hxa⟩ := hH.get i (th[i]'hi1) (List.getElem?_eq_getElem hi1)
    have hve : v = .int (th[i]'hi1) ta := by
      have h3 : wsH[i]? = some v := by simpa using hv
      exact Option.some.inj (h3.symm.trans hxa)
    have hkin := hin _ (List.getElem_mem hi1)
    generalize th[i]'hi1 = k at *
    subst hve
    k_steps
    all_goals try k_data
    refine Locked.mk ?_
    rename Fr _ _ _ _ => F5
    rename News _ _ _ _ => N5
    exact LCg.CompEnd.intro F5 N5 _ (fun p hp => hp) off (.inr ⟨_, .tail _ (.head _), rfl, _, rfl⟩) ⟨rfl, rfl⟩
  case fin =>
    rintro zs _ ⟨rfl, rfl⟩
    unfold LCg.FinE
    intro D1 h tk F3 N3 off3
    clear off3
    (try dsimp only)
    (try k_unmd)
    (try k_fold)
    obtain ⟨p3, hp3⟩ : ∃ p3 : Int, 3 ^ long.toNat = p3 := ⟨_, rfl⟩
    rw [hp3] at heq
    by_cases hgt : prime > p3
    · have hr : decide (fs = th) = true := by simpa using heq hgt
      k_steps
      all_goals try k_data
      all_goals try (k_unmd; k_steps)
      all_goals (try (exfalso; omega))
      (try dsimp only)
      refine Locked.mk ?_
      rename Fr _ _ _ _ => F5
      rename News _ _ _ _ => N5
      exact next _ _ (fr_back tH F5) (news_sub N5 (fun p9 h9 => by repeat (first | exact h9 | refine List.mem_cons_of_mem _ ?_)))
    · k_steps
      all_goals try k_data
      all_goals try (k_unmd; k_steps)
      all_goals (try (exfalso; omega))
      (try dsimp only)
      refine Locked.mk ?_
      rename Fr _ _ _ _ => F5
      rename News _ _ _ _ => N5
      exact next _ _ (fr_back tH F5) (news_sub N5 (fun p9 h9 => by repeat (first | exact h9 | refine List.mem_cons_of_mem _ ?_)))
end
theorem rows_again_22 : True := by
  k_with "CompSrcT" => (k_here; k_dflt (refine LCt.CompSrcT.range (by rfl) (by k_asm) (by k_asm) (by assumption) (by exact small_one (by omega) (by omega) (by omega) (by omega)) (by exact rangeSize_nat _ _) (by rw [PySem.sizeLine_eq]; omega) ?_; intro gZ9; refine Locked.out ?_))
  trivial
theorem rows_PD_23 : True := by
  k_with "call ref" => (k_here; (with_reducible show wpAny _ _ (call (Value.ref 88) _) _ _ _); k_dflt (refine' K_rolled (by k_asm) (by k_asm) (by assumption) (by ktr_rel) (by assumption) (by assumption) (by assumption) (by ktr_room) (by with_reducible assumption) (by with_reducible assumption) (by omega) (by omega) (by exact isList_own (by k_asm) (by k_mem)) (by with_reducible assumption) (by with_reducible assumption) (by omega) (by with_reducible assumption) ?_; k_whole); intro pZ9 hZ9 tkZ9 arrZ9 cntZ9 hAZ9 FZ9 NZ9 l1Z9; (try simp only [AllNe] at l1Z9); (try (obtain ⟨_, _, _, _, _, _, _, _, _, _, _⟩ := l1Z9)))
  trivial
section
theorem news_skip {g h : Heap} {L : Addr} {a b : Addr × Obj} {r : List (Addr × Obj)} (N : News g L h (a :: b :: r)) : News g L h (a :: r) := fun p hp => N p (by
  rcases List.mem_cons.mp hp with rfl | hp
  · exact .head _
  · exact .tail _ (.tail _ hp))
theorem law_14 {w : World} {mean mg mb} {dp un fr gd} {s : Shared} {g : Heap} {Q : Flow → Shared → Prop} {E : Value → Shared → Prop} {L : Addr} {m : Str → Option Value}
   {fd : FuncData} {body : List Stmt} {oc : Value} {od : Option Addr} {osl : Array (Option Value)} (ho : (hd.heap_39 w.params).lookup 93 = some ⟨oc, od, .func fd, osl⟩) (hbody : fd.body = .stmts body) (G : Good w mean mg mb g)
   (hdp : dp + 60 < 1000) (hun : un + 100 < cLine) {row : List Int} {long prime : Int} {o1 o2 o3 o4 o5 o6 o7 o8 o9 : Obj} {tl ex : List (Addr × Obj)} (S : TL g tl) (I : Imms ex) (F : Fr (ghost g) L s.heap m) (N : News (ghost g) L s.heap ((L + 1 + 1 + 1 + 1 + 1 + 1 + 1 + 1 + 1, o1) :: (L + 1 + 1 + 1 + 1 + 1 + 1 + 1 + 1, o2) :: (L + 1 + 1 + 1 + 1 + 1 + 1 + 1, o3) :: (L + 1 + 1 + 1 + 1 + 1 + 1, o4) :: (L + 1 + 1 + 1 + 1 + 1, o5) :: (L + 1 + 1 + 1 + 1, o6) :: (L + 1 + 1 + 1, o7) :: (L + 1 + 1, o8) :: (L + 1, o9) :: (ex ++ tl)))
   (f30 : Full30 tl) (f37 : Full37 tl) (hP : Menu prime) (hlong1 : 1 ≤ long) (hlong3 : long ≤ 3) (hrowl : row.length ≤ 14) (hrowr : ∀ x ∈ row, 0 ≤ x ∧ x < 3) {tL : Tok} (c9 : o9.data = .cell (some (.int long tL))) (d2 : ∃ v, o2.data = .cell v)
   {R : Addr} {wsR : List Value} {nR : Nat} (mR : (R, W.listOf wsR.toArray nR) ∈ ex) (hrow : IntsAre wsR row) (c7 : o7.data = .cell (some (.ref R)))
   (next : ∀ h' tk FO arr cnt o2', IntsAre arr.toList (rolls 4 997 long.toNat row) → o2'.data = .cell (some (.ref FO)) → Fr (ghost g) L h' m → News (ghost g) L h' ((FO, W.listOf arr cnt) :: (L + 1 + 1 + 1 + 1 + 1 + 1 + 1 + 1 + 1, o1) :: (L + 1 + 1 + 1 + 1 + 1 + 1 + 1 + 1, o2') :: (L + 1 + 1 + 1 + 1 + 1 + 1 + 1, o3) :: (L + 1 + 1 + 1 + 1 + 1 + 1, o4) :: (L + 1 + 1 + 1 + 1 + 1, o5) :: (L + 1 + 1 + 1 + 1, o6) :: (L + 1 + 1 + 1, o7) :: (L + 1 + 1, o8) :: (L + 1, o9) :: (ex ++ tl)) →
     wpAny (model PR w) ((At dp un fr gd).deeper (envOfC fd.qualname fd.scope L 93 fd.code)) (execs (body.drop 15) (envOfC fd.qualname fd.scope L 93 fd.code)) Q E { s with heap := h', toks := tk }) :
   wpAny (model PR w) ((At dp un fr gd).deeper (envOfC fd.qualname fd.scope L 93 fd.code)) (execs (body.drop 14) (envOfC fd.qualname fd.scope L 93 fd.code)) Q E s := by
  have X := G.g.X
  have T0 := G.g.T
  k_dflt (refine' fetch2 (K := hd.heap_39 w.params) (a := 93) ?k1 ?_; (case k1 => k_is))
  intro e93
  have e := fn_inj ho e93
  subst e
  injection hbody with hbody
  subst hbody
  clear ho e93
  simp only [List.drop_succ_cons, List.drop_zero]
  refine exec_one ?_
  obtain ⟨v2, d2⟩ := d2
  have hR2 : @Ne Nat (L + 1 + 1 + 1 + 1 + 1 + 1 + 1 + 1) R := cell_ne N (x := R) (by repeat (first | exact List.mem_append_left _ mR | refine List.mem_cons_of_mem _ ?_)) imm_list (by k_mem) d2
  have htail : ∀ p ∈ ex ++ tl, p.1 ≠ (L + 1 + 1 + 1 + 1 + 1 + 1 + 1 + 1) := tail_ne N S I (fun p9 h9 => by repeat (first | exact h9 | refine List.mem_cons_of_mem _ ?_)) (by k_mem) d2
  have N1 := news_add (p := (R, W.listOf wsR.toArray nR)) (by repeat (first | exact List.mem_append_left _ mR | refine List.mem_cons_of_mem _ ?_)) N
  have hb4 : Base 4 := .inr rfl
  have hp9 : Menu 997 := by simp [Menu]
  obtain ⟨rs, hrs⟩ : ∃ rs, rolls 4 997 long.toNat row = rs := ⟨_, rfl⟩
  rw [hrs] at next
  clear N
  (try dsimp only); (try k_unmd); (try k_fold)
  k_steps
  all_goals try k_data
  (try dsimp only)
  refine Locked.mk ?_
  rename Fr _ _ _ _ => F5
  rename News _ _ _ _ => N5
  rename IntsAre _ rs => hA5
  rename _ = Data.cell (some (Value.ref _)) => d5
  exact next _ _ _ _ _ _ hA5 d5 F5 (news_skip N5)
end
theorem rows_PE_24 : True := by
  k_with "subscriptTail Subscript Slice ref ref" => (k_here; (with_reducible show wpAny _ _ (subscriptTail _ (PySem.Expr.Slice none none (some (PySem.Expr.UnaryOp _ _ _)) _) (Value.ref _) (Value.ref _)) _ _ _); k_dflt (refine' krv_ints (by k_asm) (by k_asm) (by exact isList_own (by k_asm) (by k_mem)) (by exact IsPart.int _ _) (by with_reducible assumption) ?_ (by with_unfolding_all rfl) (by kmk_pure) (by with_reducible assumption)); intro DZ9 wsZ9 hZ9 FZ9 NZ9 l1Z9 hIZ9 hLZ9; (try k_lt l1Z9))
  k_with "subscriptTail Name Slice ref ref" => (k_here; (with_reducible show wpAny _ _ (subscriptTail _ (PySem.Expr.Slice none none (some (PySem.Expr.UnaryOp _ _ _)) _) (Value.ref _) (Value.ref _)) _ _ _); k_dflt (refine' krv_ints (by k_asm) (by k_asm) (by exact isList_own (by k_asm) (by k_mem)) (by exact IsPart.int _ _) (by with_reducible assumption) ?_ (by with_unfolding_all rfl) (by kmk_pure) (by with_reducible assumption)); intro DZ9 wsZ9 hZ9 FZ9 NZ9 l1Z9 hIZ9 hLZ9; (try k_lt l1Z9))
  trivial
section
theorem int_one {k : Int} : IntMulOk 1 k := IntMulOk.of_left (by decide)
theorem K_digits {w : World} {mean : ExcName → Option Value} {mg mb : Str → Option Value} {dp un : Nat} {fr : Option (List Env)} {gd : Option (List Code)} {s : Shared} {Q E : Value → Shared → Prop} {h₀ : Heap} {L : Addr} {m : Str → Option Value} {news tl : List (Addr × Obj)} {l : Addr} {vs : List Value} {wd : List Int} {k : Int} {tn : Tok} (F : Fr (ghost h₀) L s.heap m) (N : News (ghost h₀) L s.heap news) (S : TL h₀ tl) (ht : ∀ p ∈ tl, p ∈ news) (f30 : Full30 tl) (f37 : Full37 tl) (G : Good w mean mg mb h₀)
   (hdp : dp + 8 < 1000) (hl : s.heap.IsList l vs.toArray) (hi : IntsAre vs wd.reverse) (hw1 : 1 ≤ wd.length) (hw3 : wd.length ≤ 3) (hwr : ∀ x ∈ wd, 0 ≤ x ∧ x < 3) (hk : val 4 wd = k)
   (ret : ∀ h' tk t, Fr (ghost h₀) L h' m → News (ghost h₀) L h' news → Q (.int k t) { s with heap := h', toks := tk }) :
   wpAny (model PR w) (At dp un fr gd) (call (.ref 42) [.ref l, .int 2 tn]) Q E s := by
  have G1 := (TL.good G F (TL.sub N ht) S).2
  have done : ∀ h' tk t, Ext s.heap h' → Good w mean mg mb h' → Hit h' 37 47 4 q37 → Q (.int k t) { s with heap := h', toks := tk } := fun h' tk t X9 _ _ => by
    obtain ⟨_, F', N'⟩ := TL.same F N S ht f30 f37 X9
    exact ret h' tk t F' N'
  match wd, hi, hw1, hw3, hwr, hk with
  | [a], hi, _, _, hwr, hk =>
    cases hi with
    | cons _ t0 r =>
      cases r
      have e : k = a := by rw [← hk]; simp [val]
      rw [e] at done
      exact digits2int_one G1 hdp (by decide) (by decide) hl done
  | [a, b], hi, _, _, hwr, hk =>
    have ha := hwr a (.head _)
    have hb := hwr b (.tail _ (.head _))
    cases hi with
    | cons _ t0 r =>
      cases r with
      | cons _ t1 r =>
        cases r
        exact digits2int_two (v := a * 4) (k := k) rfl (by rw [← hk]; simp [val]) ha.1 (by omega) int_one G1 hdp (by decide) (by decide) hl done
  | [a, b, c], hi, _, _, hwr, hk =>
    have ha := hwr a (.head _)
    have hb := hwr b (.tail _ (.head _))
    cases hi with
    | cons _ t0 r =>
      cases r with
      | cons _ t1 r =>
        cases r with
        | cons _ t2 r =>
          cases r
          exact digits2int_three (v2 := a * 4) (k1 := a * 4 + b) (v := (a * 4 + b) * 4) (k := k) rfl rfl rfl (by rw [← hk]; simp [val]) ha.1 (by omega) (by omega) (by omega) int_one G1 hdp (by decide) (by decide) hl done
theorem rows_S15_25 : True := by
  k_with "call ref" => (k_here; (with_reducible show wpAny _ _ (call (Value.ref 42) _) _ _ _); k_dflt (refine' K_digits (by k_asm) (by k_asm) (by assumption) (by ktr_rel) (by assumption) (by assumption) (by assumption) (by ktr_room) (by exact isList_own (by k_asm) (by k_mem)) (by with_reducible assumption) (by omega) (by omega) (by with_reducible assumption) (by with_reducible assumption) ?_; k_whole); intro hZ9 tkZ9 tZ9 FZ9 NZ9)
  trivial
theorem law_15 {w : World} {mean mg mb} {dp un fr gd} {s : Shared} {g : Heap} {Q : Flow → Shared → Prop} {E : Value → Shared → Prop} {L : Addr} {m : Str → Option Value}
   {fd : FuncData} {body : List Stmt} {oc : Value} {od : Option Addr} {osl : Array (Option Value)} (ho : (hd.heap_39 w.params).lookup 93 = some ⟨oc, od, .func fd, osl⟩) (hbody : fd.body = .stmts body) (G : Good w mean mg mb g)
   (hdp : dp + 60 < 1000) (hun : un + 100 < cLine) {row : List Int} {long prime : Int} {o1 o2 o3 o4 o5 o6 o7 o8 o9 : Obj} {tl ex : List (Addr × Obj)} (S : TL g tl) (I : Imms ex) (F : Fr (ghost g) L s.heap m) (N : News (ghost g) L s.heap ((L + 1 + 1 + 1 + 1 + 1 + 1 + 1 + 1 + 1, o1) :: (L + 1 + 1 + 1 + 1 + 1 + 1 + 1 + 1, o2) :: (L + 1 + 1 + 1 + 1 + 1 + 1 + 1, o3) :: (L + 1 + 1 + 1 + 1 + 1 + 1, o4) :: (L + 1 + 1 + 1 + 1 + 1, o5) :: (L + 1 + 1 + 1 + 1, o6) :: (L + 1 + 1 + 1, o7) :: (L + 1 + 1, o8) :: (L + 1, o9) :: (ex ++ tl)))
   (f30 : Full30 tl) (f37 : Full37 tl) (hP : Menu prime) (hlong1 : 1 ≤ long) (hlong3 : long ≤ 3) (hrowl : row.length ≤ 14) (hrowr : ∀ x ∈ row, 0 ≤ x ∧ x < 3)
   {FO : Addr} {wsO : List Value} {nO : Nat} (mF : (FO, W.listOf wsO.toArray nO) ∈ ex) (hF : IntsAre wsO (rolls 4 997 long.toNat row)) (c2 : o2.data = .cell (some (.ref FO)))
   {D : Addr} {ys : List Value} {nD : Nat} (mD : (D, W.listOf ys.toArray nD) ∈ ex) (hst : Sts long.toNat row ((row.length : Int) - long + 1 - 0).toNat ys ex) (c4 : o4.data = .cell (some (.ref D)))
   (next : ∀ h' tk, Fr (ghost g) L h' m → News (ghost g) L h' ((L + 1 + 1 + 1 + 1 + 1 + 1 + 1 + 1 + 1, o1) :: (L + 1 + 1 + 1 + 1 + 1 + 1 + 1 + 1, o2) :: (L + 1 + 1 + 1 + 1 + 1 + 1 + 1, o3) :: (L + 1 + 1 + 1 + 1 + 1 + 1, o4) :: (L + 1 + 1 + 1 + 1 + 1, o5) :: (L + 1 + 1 + 1 + 1, o6) :: (L + 1 + 1 + 1, o7) :: (L + 1 + 1, o8) :: (L + 1, o9) :: (ex ++ tl)) →
     wpAny (model PR w) ((At dp un fr gd).deeper (envOfC fd.qualname fd.scope L 93 fd.code)) (execs (body.drop 16) (envOfC fd.qualname fd.scope L 93 fd.code)) Q E { s with heap := h', toks := tk }) :
   wpAny (model PR w) ((At dp un fr gd).deeper (envOfC fd.qualname fd.scope L 93 fd.code)) (execs (body.drop 15) (envOfC fd.qualname fd.scope L 93 fd.code)) Q E s := by
  have X := G.g.X
  have T0 := G.g.T
  k_dflt (refine' fetch2 (K := hd.heap_39 w.params) (a := 93) ?k1 ?_; (case k1 => k_is))
  intro e93
  have e := fn_inj ho e93
  subst e
  injection hbody with hbody
  subst hbody
  clear ho e93
  simp only [List.drop_succ_cons, List.drop_zero]
  refine exec_one ?_
  have N1 := news_add (p := (FO, W.listOf wsO.toArray nO)) (by repeat (first | exact List.mem_append_left _ mF | refine List.mem_cons_of_mem _ ?_)) (news_add (p := (D, W.listOf ys.toArray nD)) (by repeat (first | exact List.mem_append_left _ mD | refine List.mem_cons_of_mem _ ?_)) N)
  clear N
  obtain ⟨kT, hkT⟩ : ∃ kT : Int, (wsO.length : Int) = kT := ⟨_, rfl⟩
  have hlF := hF.length
  have hrl := rolls_length (base := 4) (p := 997) (n := long.toNat) (ns := row)
  have hkT2 : kT ≤ 14 ∧ 0 ≤ kT := by omega
  (try dsimp only); (try k_unmd); (try k_fold)
  k_steps
  all_goals try k_data
  refine Locked.mk ?_
  k_dflt (refine' compT_inv (J := fun i zs nw => zs = [] ∧ nw = (FO, W.listOf wsO.toArray nO) :: (D, W.listOf ys.toArray nD) :: (L + 1 + 1 + 1 + 1 + 1 + 1 + 1 + 1 + 1, o1) :: (L + 1 + 1 + 1 + 1 + 1 + 1 + 1 + 1, o2) :: (L + 1 + 1 + 1 + 1 + 1 + 1 + 1, o3) :: (L + 1 + 1 + 1 + 1 + 1 + 1, o4) :: (L + 1 + 1 + 1 + 1 + 1, o5) :: (L + 1 + 1 + 1 + 1, o6) :: (L + 1 + 1 + 1, o7) :: (L + 1 + 1, o8) :: (L + 1, o9) :: (ex ++ tl)) ?j0 ?turn ?fin)
  case j0 => exact ⟨rfl, rfl⟩
  case turn =>
    rintro i v I1 oI C1 oC D1 m₂ zs _ h tk E' hin ⟨t, hv⟩ ⟨rfl, rfl⟩ hC hx F1 N2 off ne
    clear ne
    obtain ⟨k, hk⟩ : ∃ k, (0 : Int) + (i : Int) = k := ⟨_, rfl⟩
    rw [hk] at hv
    subst hv
    have hik : i = k.toNat := by omega
    subst hik
    obtain ⟨hnk, hin2⟩ := rolls_get (base := 4) (p := 997) (n := long.toNat) (ns := row) (i := k.toNat) (by omega)
    obtain ⟨ta, hxa⟩ := hF.get _ _ hnk
    obtain ⟨a, ws, ha, hma, hwa⟩ := hst.2 k.toNat (by omega)
    have hwl := win_length hin2
    have hxa2 : wsO.toArray[k.toNat]? = some (Value.int (num 4 997 (win long.toNat row k.toNat)) ta) := by simpa using hxa
    have hya2 : ys.toArray[k.toNat]? = some (Value.ref a) := by simpa using ha
    have hwr : ∀ x ∈ win long.toNat row k.toNat, 0 ≤ x ∧ x < 3 := fun x hx => hrowr x (List.mem_of_mem_drop (List.mem_of_mem_take hx))
    have hk0 : 0 ≤ k := by omega
    have hk1 : k < 2 ^ 63 := by omega
    have hwsl := hwa.length
    have hsz : ws.toArray.size ≤ sizeLine := by
      have h2 : ws.toArray.size = ws.length := List.size_toArray
      exact Nat.le_trans (by omega : ws.toArray.size ≤ 100) (by decide)
    have hnv := num_val 4 997 (win long.toNat row k.toNat)
    have hw1 : 1 ≤ (win long.toNat row k.toNat).length := by omega
    have hw3 : (win long.toNat row k.toNat).length ≤ 3 := by omega
    have N3 := news_add (p := (a, W.listOf ws.toArray 0)) (by repeat (first | exact List.mem_append_left _ hma | refine List.mem_cons_of_mem _ ?_)) N2
    clear N2
    generalize hval : val 4 (win long.toNat row k.toNat) = vw at *
    generalize num 4 997 (win long.toNat row k.toNat) = nk at *
    have hmod : vw.fmod 997 = nk := by rw [fm (by decide)]; exact hnv.symm
    clear hnv hxa ha
    k_steps
    all_goals try k_data
    all_goals first | (exfalso; omega) | skip
    refine Locked.mk ?_
    rename Fr _ _ _ _ => F5
    rename News _ _ _ _ => N5
    exact LCg.CompEnd.intro F5 (news_tl (news_tl N5)) _ (fun p hp => hp) off trivial ⟨rfl, rfl⟩
  case fin =>
    rintro zs _ ⟨rfl, rfl⟩
    unfold LCg.FinE
    intro D1 h tk F3 N3 off3
    clear off3
    (try dsimp only)
    (try k_unmd)
    (try k_fold)
    k_steps
    all_goals try k_data
    all_goals try (k_unmd; k_steps)
    (try dsimp only)
    refine Locked.mk ?_
    rename Fr _ _ _ _ => F5
    rename News _ _ _ _ => N5
    exact next _ _ F5 (news_sub N5 (fun p9 h9 => by repeat (first | exact h9 | refine List.mem_cons_of_mem _ ?_)))
end
section
/-- the numbers of the beginnings -/
def begs (p : Int) (row : List Int) (i : Nat) : List Int := (List.range i).map fun k => num 3 p (row.take k)
theorem law_16 {w : World} {mean mg mb} {dp un fr gd} {s : Shared} {g : Heap} {Q : Flow → Shared → Prop} {E : Value → Shared → Prop} {L : Addr} {m : Str → Option Value}
   {fd : FuncData} {body : List Stmt} {oc : Value} {od : Option Addr} {osl : Array (Option Value)} (ho : (hd.heap_39 w.params).lookup 93 = some ⟨oc, od, .func fd, osl⟩) (hbody : fd.body = .stmts body) (G : Good w mean mg mb g)
   (hdp : dp + 60 < 1000) (hun : un + 100 < cLine) {row : List Int} {long prime : Int} {o1 o2 o3 o4 o5 o6 o7 o8 o9 : Obj} {tl ex : List (Addr × Obj)} (S : TL g tl) (I : Imms ex) (F : Fr (ghost g) L s.heap m) (N : News (ghost g) L s.heap ((L + 1 + 1 + 1 + 1 + 1 + 1 + 1 + 1 + 1, o1) :: (L + 1 + 1 + 1 + 1 + 1 + 1 + 1 + 1, o2) :: (L + 1 + 1 + 1 + 1 + 1 + 1 + 1, o3) :: (L + 1 + 1 + 1 + 1 + 1 + 1, o4) :: (L + 1 + 1 + 1 + 1 + 1, o5) :: (L + 1 + 1 + 1 + 1, o6) :: (L + 1 + 1 + 1, o7) :: (L + 1 + 1, o8) :: (L + 1, o9) :: (ex ++ tl)))
   (f30 : Full30 tl) (f37 : Full37 tl) (hP : Menu prime) (hlong1 : 1 ≤ long) (hlong3 : long ≤ 3) (hrowl : row.length ≤ 14) (hrowr : ∀ x ∈ row, 0 ≤ x ∧ x < 3) {tP : Tok} (c8 : o8.data = .cell (some (.int prime tP))) (d1 : ∃ v, o1.data = .cell v)
   {R : Addr} {wsR : List Value} {nR : Nat} (mR : (R, W.listOf wsR.toArray nR) ∈ ex) (hrow : IntsAre wsR row) (c7 : o7.data = .cell (some (.ref R)))
   (next : ∀ h' tk B zs o1', IntsAre zs (begs prime row (row.length + 1)) → o1'.data = .cell (some (.ref B)) → Fr (ghost g) L h' m → News (ghost g) L h' ((B, W.listOf zs.toArray zs.length) :: (L + 1 + 1 + 1 + 1 + 1 + 1 + 1 + 1 + 1, o1') :: (L + 1 + 1 + 1 + 1 + 1 + 1 + 1 + 1, o2) :: (L + 1 + 1 + 1 + 1 + 1 + 1 + 1, o3) :: (L + 1 + 1 + 1 + 1 + 1 + 1, o4) :: (L + 1 + 1 + 1 + 1 + 1, o5) :: (L + 1 + 1 + 1 + 1, o6) :: (L + 1 + 1 + 1, o7) :: (L + 1 + 1, o8) :: (L + 1, o9) :: (ex ++ tl)) →
     wpAny (model PR w) ((At dp un fr gd).deeper (envOfC fd.qualname fd.scope L 93 fd.code)) (execs (body.drop 17) (envOfC fd.qualname fd.scope L 93 fd.code)) Q E { s with heap := h', toks := tk }) :
   wpAny (model PR w) ((At dp un fr gd).deeper (envOfC fd.qualname fd.scope L 93 fd.code)) (execs (body.drop 16) (envOfC fd.qualname fd.scope L 93 fd.code)) Q E s := by
  have X := G.g.X
  have T0 := G.g.T
  k_dflt (refine' fetch2 (K := hd.heap_39 w.params) (a := 93) ?k1 ?_; (case k1 => k_is))
  intro e93
  have e := fn_inj ho e93
  subst e
  injection hbody with hbody
  subst hbody
  clear ho e93
  simp only [List.drop_succ_cons, List.drop_zero]
  refine exec_one ?_
  obtain ⟨v1, d1⟩ := d1
  have hR1 : @Ne Nat (L + 1 + 1 + 1 + 1 + 1 + 1 + 1 + 1 + 1) R := cell_ne N (x := R) (by repeat (first | exact List.mem_append_left _ mR | refine List.mem_cons_of_mem _ ?_)) imm_list (by k_mem) d1
  have htail : ∀ p ∈ ex ++ tl, p.1 ≠ (L + 1 + 1 + 1 + 1 + 1 + 1 + 1 + 1 + 1) := tail_ne N S I (fun p9 h9 => by repeat (first | exact h9 | refine List.mem_cons_of_mem _ ?_)) (by k_mem) d1
  have N1 := news_add (p := (R, W.listOf wsR.toArray nR)) (by repeat (first | exact List.mem_append_left _ mR | refine List.mem_cons_of_mem _ ?_)) N
  clear N
  obtain ⟨kR, hkR⟩ : ∃ kR : Int, (wsR.length : Int) = kR := ⟨_, rfl⟩
  have hlR := hrow.length
  have hkR2 : kR ≤ 14 ∧ 0 ≤ kR := by omega
  obtain ⟨kS, hkS⟩ : ∃ kS : Int, kR + 1 = kS := ⟨_, rfl⟩
  (try dsimp only); (try k_unmd); (try k_fold)
  k_steps
  all_goals try k_data
  refine Locked.mk ?_
  k_dflt (refine' comp_inv (J := fun i zs nw => IntsAre zs (begs prime row i) ∧ nw = (R, W.listOf wsR.toArray nR) :: (L + 1 + 1 + 1 + 1 + 1 + 1 + 1 + 1 + 1, o1) :: (L + 1 + 1 + 1 + 1 + 1 + 1 + 1 + 1, o2) :: (L + 1 + 1 + 1 + 1 + 1 + 1 + 1, o3) :: (L + 1 + 1 + 1 + 1 + 1 + 1, o4) :: (L + 1 + 1 + 1 + 1 + 1, o5) :: (L + 1 + 1 + 1 + 1, o6) :: (L + 1 + 1 + 1, o7) :: (L + 1 + 1, o8) :: (L + 1, o9) :: (ex ++ tl)) ?j0 ?turn ?fin)
  case j0 => exact ⟨.nil, rfl⟩
  case turn =>
    rintro i v I1 oI C1 oC D1 m₂ zs _ h tk E' hin ⟨t, hv⟩ ⟨hzs, rfl⟩ hC hx F1 N2 off ne
    clear ne
    obtain ⟨k, hk⟩ : ∃ k, (0 : Int) + (i : Int) = k := ⟨_, rfl⟩
    rw [hk] at hv
    subst hv
    have hik : i = k.toNat := by omega
    subst hik
    have hk0 : 0 ≤ k := by omega
    have hk1 : k < 2 ^ 63 := by omega
    have hk2 : k ≤ row.length := by omega
    have hwr : ∀ x ∈ List.take k.toNat row, 0 ≤ x ∧ x < 3 := fun x hx => hrowr x (List.mem_of_mem_take hx)
    have hb3 : Base 3 := .inl rfl
    have hnext : begs prime row (k.toNat + 1) = begs prime row k.toNat ++ [num 3 prime (List.take k.toNat row)] := by
      unfold begs; rw [List.range_succ, List.map_append]; rfl
    obtain ⟨nk, hnk⟩ : ∃ nk, num 3 prime (List.take k.toNat row) = nk := ⟨_, rfl⟩
    rw [hnk] at hnext
    k_steps
    all_goals try k_data
    refine Locked.mk ?_
    rename Fr _ _ _ _ => F5
    rename News _ _ _ _ => N5
    exact LCg.CompEnd.intro F5 (news_tl N5) _ (fun p hp => hp) off trivial ⟨by rw [hnext]; exact ints_snoc hzs, rfl⟩
  case fin =>
    rintro zs _ ⟨hzs, rfl⟩
    unfold LCg.FinE
    intro D1 h tk F3 N3 off3
    simp only [LCg.Off1] at off3
    obtain ⟨e1, e2, e3, e4, e5, e6, e7, e8, e9, e10, _⟩ := off3
    (try dsimp only)
    (try k_unmd)
    (try k_fold)
    k_steps
    all_goals try k_data
    (try dsimp only)
    refine Locked.mk ?_
    rename Fr _ _ _ _ => F5
    rename News _ _ _ _ => N5
    rename _ = Data.cell (some (Value.ref D1)) => d5
    rw [show (kS - 0).toNat = row.length + 1 by omega] at hzs
    exact next _ _ _ _ _ hzs d5 F5 (news_skip N5)
end
section
theorem begs_law {p : Int} {row : List Int} {n k : Nat} (h : k + n ≤ row.length) : (num 3 p (row.take (k + n)) - num 3 p (row.take k) * 3 ^ n - num 3 p (win n row k)) % p = 0 := by
  have e1 : row.take (k + n) = row.take k ++ win n row k := by
    unfold win; exact List.take_add
  have e2 : (win n row k).length = n := win_length h
  rw [num_val, num_val, num_val, e1, val_append, e2]
  generalize val 3 (row.take k) = a
  generalize val 3 (win n row k) = b
  generalize (3 : Int) ^ n = q
  rw [Int.emod_def (a * q + b) p, Int.emod_def a p, Int.emod_def b p]
  generalize (a * q + b) / p = x
  generalize a / p = y
  generalize b / p = z
  have e3 : a * q + b - p * x - (a - p * y) * q - (b - p * z) = p * (y * q - x + z) := by
    rw [Int.sub_mul, Int.mul_add, Int.mul_sub, Int.mul_assoc]; omega
  rw [e3]
  exact Int.mul_emod_right p _
theorem begs_get {p : Int} {row : List Int} {i j : Nat} (h : j < i) : (begs p row i)[j]? = some (num 3 p (row.take j)) := by
  unfold begs
  rw [List.getElem?_map, List.getElem?_range h]; rfl
theorem law_17 {w : World} {mean mg mb} {dp un fr gd} {s : Shared} {g : Heap} {Q : Flow → Shared → Prop} {E : Value → Shared → Prop} {L : Addr} {m : Str → Option Value}
   {fd : FuncData} {body : List Stmt} {oc : Value} {od : Option Addr} {osl : Array (Option Value)} (ho : (hd.heap_39 w.params).lookup 93 = some ⟨oc, od, .func fd, osl⟩) (hbody : fd.body = .stmts body) (G : Good w mean mg mb g)
   (hdp : dp + 60 < 1000) (hun : un + 100 < cLine) {row : List Int} {long prime : Int} {o1 o2 o3 o4 o5 o6 o7 o8 o9 : Obj} {tl ex : List (Addr × Obj)} (S : TL g tl) (I : Imms ex) (F : Fr (ghost g) L s.heap m) (N : News (ghost g) L s.heap ((L + 1 + 1 + 1 + 1 + 1 + 1 + 1 + 1 + 1, o1) :: (L + 1 + 1 + 1 + 1 + 1 + 1 + 1 + 1, o2) :: (L + 1 + 1 + 1 + 1 + 1 + 1 + 1, o3) :: (L + 1 + 1 + 1 + 1 + 1 + 1, o4) :: (L + 1 + 1 + 1 + 1 + 1, o5) :: (L + 1 + 1 + 1 + 1, o6) :: (L + 1 + 1 + 1, o7) :: (L + 1 + 1, o8) :: (L + 1, o9) :: (ex ++ tl)))
   (f30 : Full30 tl) (f37 : Full37 tl) (hP : Menu prime) (hlong1 : 1 ≤ long) (hlong3 : long ≤ 3) (hrowl : row.length ≤ 14) (hrowr : ∀ x ∈ row, 0 ≤ x ∧ x < 3) {tL tP : Tok} (c8 : o8.data = .cell (some (.int prime tP))) (c9 : o9.data = .cell (some (.int long tL)))
   {B : Addr} {wsB : List Value} {nB : Nat} (mB : (B, W.listOf wsB.toArray nB) ∈ ex) (hB : IntsAre wsB (begs prime row (row.length + 1))) (c1 : o1.data = .cell (some (.ref B)))
   {T : Addr} {wsT : List Value} {nT : Nat} (mT : (T, W.listOf wsT.toArray nT) ∈ ex) (hT : IntsAre wsT (rolls 3 prime long.toNat row)) (c5 : o5.data = .cell (some (.ref T)))
   (next : ∀ h' tk, Fr (ghost g) L h' m → News (ghost g) L h' ((L + 1 + 1 + 1 + 1 + 1 + 1 + 1 + 1 + 1, o1) :: (L + 1 + 1 + 1 + 1 + 1 + 1 + 1 + 1, o2) :: (L + 1 + 1 + 1 + 1 + 1 + 1 + 1, o3) :: (L + 1 + 1 + 1 + 1 + 1 + 1, o4) :: (L + 1 + 1 + 1 + 1 + 1, o5) :: (L + 1 + 1 + 1 + 1, o6) :: (L + 1 + 1 + 1, o7) :: (L + 1 + 1, o8) :: (L + 1, o9) :: (ex ++ tl)) →
     wpAny (model PR w) ((At dp un fr gd).deeper (envOfC fd.qualname fd.scope L 93 fd.code)) (execs (body.drop 18) (envOfC fd.qualname fd.scope L 93 fd.code)) Q E { s with heap := h', toks := tk }) :
   wpAny (model PR w) ((At dp un fr gd).deeper (envOfC fd.qualname fd.scope L 93 fd.code)) (execs (body.drop 17) (envOfC fd.qualname fd.scope L 93 fd.code)) Q E s := by
  have X := G.g.X
  have T0 := G.g.T
  k_dflt (refine' fetch2 (K := hd.heap_39 w.params) (a := 93) ?k1 ?_; (case k1 => k_is))
  intro e93
  have e := fn_inj ho e93
  subst e
  injection hbody with hbody
  subst hbody
  clear ho e93
  simp only [List.drop_succ_cons, List.drop_zero]
  refine exec_one ?_
  have N1 := news_add (p := (T, W.listOf wsT.toArray nT)) (by repeat (first | exact List.mem_append_left _ mT | refine List.mem_cons_of_mem _ ?_)) (news_add (p := (B, W.listOf wsB.toArray nB)) (by repeat (first | exact List.mem_append_left _ mB | refine List.mem_cons_of_mem _ ?_)) N)
  clear N
  obtain ⟨kT, hkT⟩ : ∃ kT : Int, (wsT.length : Int) = kT := ⟨_, rfl⟩
  have hlT := hT.length
  have hrl := rolls_length (base := 3) (p := prime) (n := long.toNat) (ns := row)
  have hkT2 : kT ≤ 14 ∧ 0 ≤ kT := by omega
  have hp0 := hP.range
  obtain ⟨p3, hp3⟩ : ∃ p3 : Int, 3 ^ long.toNat = p3 := ⟨_, rfl⟩
  (try dsimp only); (try k_unmd); (try k_fold)
  k_steps
  all_goals try k_data
  refine Locked.mk ?_
  k_dflt (refine' compT_inv (J := fun i zs nw => zs = [] ∧ nw = (T, W.listOf wsT.toArray nT) :: (B, W.listOf wsB.toArray nB) :: (L + 1 + 1 + 1 + 1 + 1 + 1 + 1 + 1 + 1, o1) :: (L + 1 + 1 + 1 + 1 + 1 + 1 + 1 + 1, o2) :: (L + 1 + 1 + 1 + 1 + 1 + 1 + 1, o3) :: (L + 1 + 1 + 1 + 1 + 1 + 1, o4) :: (L + 1 + 1 + 1 + 1 + 1, o5) :: (L + 1 + 1 + 1 + 1, o6) :: (L + 1 + 1 + 1, o7) :: (L + 1 + 1, o8) :: (L + 1, o9) :: (ex ++ tl)) ?j0 ?turn ?fin)
  case j0 => exact ⟨rfl, rfl⟩
  case turn =>
    rintro i v I1 oI C1 oC D1 m₂ zs _ h tk E' hin ⟨t, hv⟩ ⟨rfl, rfl⟩ hC hx F1 N2 off ne
    clear ne
    obtain ⟨k, hk⟩ : ∃ k, (0 : Int) + (i : Int) = k := ⟨_, rfl⟩
    rw [hk] at hv
    subst hv
    have hik : i = k.toNat := by omega
    subst hik
    obtain ⟨hnk, hin2⟩ := rolls_get (base := 3) (p := prime) (n := long.toNat) (ns := row) (i := k.toNat) (by omega)
    obtain ⟨ta, hxa⟩ := hT.get _ _ hnk
    obtain ⟨tb, hxb⟩ := hB.get _ _ (begs_get (p := prime) (row := row) (i := row.length + 1) (j := k.toNat) (by omega))
    obtain ⟨tc, hxc⟩ := hB.get _ _ (begs_get (p := prime) (row := row) (i := row.length + 1) (j := k.toNat + long.toNat) (by omega))
    obtain ⟨kl, hkl⟩ : ∃ kl : Int, k + long = kl := ⟨_, rfl⟩
    have hlaw := begs_law (p := prime) hin2
    rw [hp3] at hlaw
    have hb0 := num_range (base := 3) hp0.1 (row.take k.toNat)
    have hxa2 : wsT.toArray[k.toNat]? = some (Value.int (num 3 prime (win long.toNat row k.toNat)) ta) := by simpa using hxa
    have hxb2 : wsB.toArray[k.toNat]? = some (Value.int (num 3 prime (row.take k.toNat)) tb) := by simpa using hxb
    have hxc2 : wsB.toArray[kl.toNat]? = some (Value.int (num 3 prime (row.take (k.toNat + long.toNat))) tc) := by rw [show kl.toNat = k.toNat + long.toNat by omega]; simpa using hxc
    have hk0 : 0 ≤ k := by omega
    have hk1 : k < 2 ^ 63 := by omega
    have hkl0 : 0 ≤ kl := by omega
    have hkl1 : kl < 2 ^ 63 := by omega
    clear hxa hxb hxc hnk
    generalize num 3 prime (win long.toNat row k.toNat) = nk at *
    generalize num 3 prime (row.take k.toNat) = b0 at *
    generalize num 3 prime (row.take (k.toNat + long.toNat)) = b1 at *
    obtain ⟨z1, hz1⟩ : ∃ z1, b0 * p3 = z1 := ⟨_, rfl⟩
    obtain ⟨z2, hz2⟩ : ∃ z2, b1 - z1 = z2 := ⟨_, rfl⟩
    obtain ⟨z3, hz3⟩ : ∃ z3, z2 - nk = z3 := ⟨_, rfl⟩
    obtain ⟨z4, hz4⟩ : ∃ z4, z3.fmod prime = z4 := ⟨_, rfl⟩
    have hz40 : z4 = 0 := by rw [← hz4, fm (by omega), ← hz3, ← hz2, ← hz1]; exact hlaw
    have hmul : IntMulOk b0 p3 := mul_ok (by omega)
    clear hlaw
    k_steps
    all_goals try k_data
    all_goals first | (exfalso; omega) | skip
    refine Locked.mk ?_
    rename Fr _ _ _ _ => F5
    rename News _ _ _ _ => N5
    exact LCg.CompEnd.intro F5 N5 _ (fun p hp => hp) off trivial ⟨rfl, rfl⟩
  case fin =>
    rintro zs _ ⟨rfl, rfl⟩
    unfold LCg.FinE
    intro D1 h tk F3 N3 off3
    clear off3
    (try dsimp only)
    (try k_unmd)
    (try k_fold)
    k_steps
    all_goals try k_data
    all_goals try (k_unmd; k_steps)
    (try dsimp only)
    refine Locked.mk ?_
    rename Fr _ _ _ _ => F5
    rename News _ _ _ _ => N5
    exact next _ _ F5 (news_sub N5 (fun p9 h9 => by repeat (first | exact h9 | refine List.mem_cons_of_mem _ ?_)))
end
section
theorem law_18 {w : World} {mean mg mb} {dp un fr gd} {s : Shared} {g : Heap} {Q : Flow → Shared → Prop} {E : Value → Shared → Prop} {L : Addr} {m : Str → Option Value}
   {fd : FuncData} {body : List Stmt} {oc : Value} {od : Option Addr} {osl : Array (Option Value)} (ho : (hd.heap_39 w.params).lookup 93 = some ⟨oc, od, .func fd, osl⟩) (hbody : fd.body = .stmts body) (G : Good w mean mg mb g)
   (hdp : dp + 60 < 1000) (hun : un + 100 < cLine) {row : List Int} {long prime : Int} {o1 o2 o3 o4 o5 o6 o7 o8 o9 : Obj} {tl ex : List (Addr × Obj)} (S : TL g tl) (I : Imms ex) (F : Fr (ghost g) L s.heap m) (N : News (ghost g) L s.heap ((L + 1 + 1 + 1 + 1 + 1 + 1 + 1 + 1 + 1, o1) :: (L + 1 + 1 + 1 + 1 + 1 + 1 + 1 + 1, o2) :: (L + 1 + 1 + 1 + 1 + 1 + 1 + 1, o3) :: (L + 1 + 1 + 1 + 1 + 1 + 1, o4) :: (L + 1 + 1 + 1 + 1 + 1, o5) :: (L + 1 + 1 + 1 + 1, o6) :: (L + 1 + 1 + 1, o7) :: (L + 1 + 1, o8) :: (L + 1, o9) :: (ex ++ tl)))
   (f30 : Full30 tl) (f37 : Full37 tl) (hP : Menu prime) (hlong1 : 1 ≤ long) (hlong3 : long ≤ 3) (hrowl : row.length ≤ 14) (hrowr : ∀ x ∈ row, 0 ≤ x ∧ x < 3) {tL tP : Tok} (c8 : o8.data = .cell (some (.int prime tP))) (c9 : o9.data = .cell (some (.int long tL)))
   {R : Addr} {wsR : List Value} {nR : Nat} (mR : (R, W.listOf wsR.toArray nR) ∈ ex) (hrow : IntsAre wsR row) (c7 : o7.data = .cell (some (.ref R)))
   (next : ∀ h' tk BK arr cnt, IntsAre arr.toList (rolls 3 prime long.toNat row.reverse) → Fr (ghost g) L h' (fun y => if y = Str.ofString "back" then some (.ref BK) else m y) → News (ghost g) L h' ((BK, W.listOf arr cnt) :: (L + 1 + 1 + 1 + 1 + 1 + 1 + 1 + 1 + 1, o1) :: (L + 1 + 1 + 1 + 1 + 1 + 1 + 1 + 1, o2) :: (L + 1 + 1 + 1 + 1 + 1 + 1 + 1, o3) :: (L + 1 + 1 + 1 + 1 + 1 + 1, o4) :: (L + 1 + 1 + 1 + 1 + 1, o5) :: (L + 1 + 1 + 1 + 1, o6) :: (L + 1 + 1 + 1, o7) :: (L + 1 + 1, o8) :: (L + 1, o9) :: (ex ++ tl)) →
     wpAny (model PR w) ((At dp un fr gd).deeper (envOfC fd.qualname fd.scope L 93 fd.code)) (execs (body.drop 19) (envOfC fd.qualname fd.scope L 93 fd.code)) Q E { s with heap := h', toks := tk }) :
   wpAny (model PR w) ((At dp un fr gd).deeper (envOfC fd.qualname fd.scope L 93 fd.code)) (execs (body.drop 18) (envOfC fd.qualname fd.scope L 93 fd.code)) Q E s := by
  have X := G.g.X
  have T0 := G.g.T
  k_dflt (refine' fetch2 (K := hd.heap_39 w.params) (a := 93) ?k1 ?_; (case k1 => k_is))
  intro e93
  have e := fn_inj ho e93
  subst e
  injection hbody with hbody
  subst hbody
  clear ho e93
  simp only [List.drop_succ_cons, List.drop_zero]
  refine exec_one ?_
  have N1 := news_add (p := (R, W.listOf wsR.toArray nR)) (by repeat (first | exact List.mem_append_left _ mR | refine List.mem_cons_of_mem _ ?_)) N
  clear N
  have hlR := hrow.length
  have hsz : wsR.toArray.size ≤ sizeLine := by
    have h2 : wsR.toArray.size = wsR.length := List.size_toArray
    exact Nat.le_trans (by omega : wsR.toArray.size ≤ 100) (by decide)
  have hrr : ∀ x ∈ row.reverse, 0 ≤ x ∧ x < 3 := fun x hx => hrowr x (List.mem_reverse.mp hx)
  have hrl : row.reverse.length < 100 := by rw [List.length_reverse]; omega
  have hb3 : Base 3 := .inl rfl
  obtain ⟨rs, hrs⟩ : ∃ rs, rolls 3 prime long.toNat row.reverse = rs := ⟨_, rfl⟩
  rw [hrs] at next
  (try dsimp only); (try k_unmd); (try k_fold)
  k_steps
  all_goals try k_data
  (try dsimp only)
  refine Locked.mk ?_
  rename Fr _ _ _ _ => F5
  rename News _ _ _ _ => N5
  rename IntsAre _ rs => hA5
  exact next _ _ _ _ _ hA5 F5 (news_skip (news_skip N5))
/-- the stretches' numbers, turned about, from behind -/
def revs (p : Int) (row : List Int) (n len i : Nat) : List Int := (List.range i).map fun k => num 3 p (win n row (len - 1 - k)).reverse
theorem win_rev {row : List Int} {n k : Nat} (h : k + n ≤ row.length) : win n row.reverse k = (win n row (row.length - n - k)).reverse := by
  unfold win
  rw [List.drop_reverse, List.take_reverse, List.length_take, List.drop_take]
  congr 2
  · omega
  · congr 1; omega
theorem rolls_rev {p : Int} {row : List Int} {n : Nat} (hn : 1 ≤ n) : rolls 3 p n row.reverse = revs p row n (rolls 3 p n row).length (rolls 3 p n row).length := by
  unfold rolls revs
  rw [List.length_reverse]
  split
  · rfl
  · rename_i h
    rw [List.length_map, List.length_range]
    refine List.map_congr_left fun k hk => ?_
    have hk := List.mem_range.mp hk
    rw [win_rev (by omega)]
    congr 3
section
variable {w : World} {A : Around} {h₀ : Heap} {L : Addr} {m : Str → Option Value} {env : Env} {elt : PySem.Expr} {x : Str} {scope : Scope} {cl : List (Str × Addr)} {s : Shared} {S : List (Addr × Obj) → Prop} {P : Nat → Value → Prop} {Fin : List Value → List (Addr × Obj) → Prop} {news : List (Addr × Obj)}
/-- a comprehension whose turns leave the ledger as it is -/
theorem comp_fix {n : Nat} (J : Nat → List Value → Prop) (h0 : J 0 [])
    (turn : ∀ i v I oI C oC D m₂ ys h tk (E' : Value → Shared → Prop), i < n → P i v → J i ys → LCg.NsObj oC m₂ → m₂ x = some v → Fr h₀ L h m → News h₀ L h ((I, oI) :: (C, oC) :: (D, LCg.lst ys) :: news) → LCg.Off3 I C D news → ((@Ne Nat I C) ∧ (@Ne Nat I D) ∧ (@Ne Nat C D)) →
      wpAny (model PR w) A (eval elt (compEnvC scope cl C env)) (LCg.CompEnd h₀ L m { s with heap := h, toks := tk } I oI C oC D (LCg.lst ys) S (fun y news' => J (i + 1) (ys ++ [y]) ∧ news' = news)) E' { s with heap := h, toks := tk })
    (fin : ∀ ys, J n ys → Fin ys news) : LCg.CompRest PR w A h₀ L m env elt x scope cl s S P Fin n 0 [] news :=
  comp_inv (J := fun i ys nw => J i ys ∧ nw = news) ⟨h0, rfl⟩ (fun i v I oI C oC D m₂ ys news₁ h tk E' hi hv hJ hC hx F N off ne => by
    obtain ⟨hJ, rfl⟩ := hJ
    exact turn i v I oI C oC D m₂ ys h tk E' hi hv hJ hC hx F N off ne) fun ys nw hJ => by
    obtain ⟨hJ, rfl⟩ := hJ
    exact fin ys hJ
end
theorem arr_rev (vs : List Value) : vs.toArray.toList.reverse = vs.reverse := rfl
theorem rows_S18_26 : True := by
  k_with "subscriptTail Name Slice ref ref" => (k_here; (with_reducible show wpAny _ _ (subscriptTail _ (PySem.Expr.Slice none none (some (PySem.Expr.UnaryOp _ _ _)) _) (Value.ref _) (Value.ref _)) _ _ _); k_dflt (first | (refine' krv_ints (by k_asm) (by k_asm) (by exact isList_own (by k_asm) (by k_mem)) (by exact IsPart.int _ _) (by with_reducible assumption) ?_ (by with_unfolding_all rfl) (by kmk_pure) (by with_reducible assumption); intro DZ9 wsZ9 hZ9 FZ9 NZ9 l1Z9 hIZ9 hLZ9) | (refine' krv_lit (by k_asm) (by k_asm) (by exact isList_own (by k_asm) (by k_mem)) (by exact IsPart.int _ _) (by exact arr_rev _) ?_ (by with_unfolding_all rfl) (by kmk_pure) (by with_reducible assumption); intro DZ9 hZ9 FZ9 NZ9 l1Z9)); (try k_lt l1Z9))
  k_with "CompSrc" => (k_here; k_dflt (refine LCg.CompSrc.ledger (by rfl) (by k_asm) (by k_asm) (by k_mem) (by with_reducible assumption) ?_; intro gZ9; refine Locked.out ?_))
  k_with "eval ListComp" => (k_here; k_dflt (refine LCg.ListComp_U (F₀ := by k_asm) (by with_unfolding_all rfl) (by decide) (by rfl) (by decide) (by rfl) ?_))
  trivial
theorem law_19 {w : World} {mean mg mb} {dp un fr gd} {s : Shared} {g : Heap} {Q : Flow → Shared → Prop} {E : Value → Shared → Prop} {L : Addr} {m : Str → Option Value}
   {fd : FuncData} {body : List Stmt} {oc : Value} {od : Option Addr} {osl : Array (Option Value)} (ho : (hd.heap_39 w.params).lookup 93 = some ⟨oc, od, .func fd, osl⟩) (hbody : fd.body = .stmts body) (G : Good w mean mg mb g)
   (hdp : dp + 60 < 1000) (hun : un + 100 < cLine) {row : List Int} {long prime : Int} {o1 o2 o3 o4 o5 o6 o7 o8 o9 : Obj} {tl ex : List (Addr × Obj)} (S : TL g tl) (I : Imms ex) (F : Fr (ghost g) L s.heap m) (N : News (ghost g) L s.heap ((L + 1 + 1 + 1 + 1 + 1 + 1 + 1 + 1 + 1, o1) :: (L + 1 + 1 + 1 + 1 + 1 + 1 + 1 + 1, o2) :: (L + 1 + 1 + 1 + 1 + 1 + 1 + 1, o3) :: (L + 1 + 1 + 1 + 1 + 1 + 1, o4) :: (L + 1 + 1 + 1 + 1 + 1, o5) :: (L + 1 + 1 + 1 + 1, o6) :: (L + 1 + 1 + 1, o7) :: (L + 1 + 1, o8) :: (L + 1, o9) :: (ex ++ tl)))
   (f30 : Full30 tl) (f37 : Full37 tl) (hP : Menu prime) (hlong1 : 1 ≤ long) (hlong3 : long ≤ 3) (hrowl : row.length ≤ 14) (hrowr : ∀ x ∈ row, 0 ≤ x ∧ x < 3) {tP : Tok} (c8 : o8.data = .cell (some (.int prime tP)))
   {BK : Addr} {wsK : List Value} {nK : Nat} (mK : (BK, W.listOf wsK.toArray nK) ∈ ex) (hK : IntsAre wsK (rolls 3 prime long.toNat row.reverse)) (nBk : m (Str.ofString "back") = some (.ref BK))
   {D : Addr} {ys : List Value} {nD : Nat} (mD : (D, W.listOf ys.toArray nD) ∈ ex) (hst : Sts long.toNat row ((row.length : Int) - long + 1 - 0).toNat ys ex) (c4 : o4.data = .cell (some (.ref D)))
   (next : ∀ h' tk, Fr (ghost g) L h' m → News (ghost g) L h' ((L + 1 + 1 + 1 + 1 + 1 + 1 + 1 + 1 + 1, o1) :: (L + 1 + 1 + 1 + 1 + 1 + 1 + 1 + 1, o2) :: (L + 1 + 1 + 1 + 1 + 1 + 1 + 1, o3) :: (L + 1 + 1 + 1 + 1 + 1 + 1, o4) :: (L + 1 + 1 + 1 + 1 + 1, o5) :: (L + 1 + 1 + 1 + 1, o6) :: (L + 1 + 1 + 1, o7) :: (L + 1 + 1, o8) :: (L + 1, o9) :: (ex ++ tl)) → Q (.ret (.bool true)) { s with heap := h', toks := tk }) :
   wpAny (model PR w) ((At dp un fr gd).deeper (envOfC fd.qualname fd.scope L 93 fd.code)) (execs (body.drop 19) (envOfC fd.qualname fd.scope L 93 fd.code)) Q E s := by
  have X := G.g.X
  have T0 := G.g.T
  k_dflt (refine' fetch2 (K := hd.heap_39 w.params) (a := 93) ?k1 ?_; (case k1 => k_is))
  intro e93
  have e := fn_inj ho e93
  subst e
  injection hbody with hbody
  subst hbody
  clear ho e93
  simp only [List.drop_succ_cons, List.drop_zero]
  have N1 := news_add (p := (BK, W.listOf wsK.toArray nK)) (by repeat (first | exact List.mem_append_left _ mK | refine List.mem_cons_of_mem _ ?_)) (news_add (p := (D, W.listOf ys.toArray nD)) (by repeat (first | exact List.mem_append_left _ mD | refine List.mem_cons_of_mem _ ?_)) N)
  have F1 : Fr (ghost g) L s.heap _ := fr_know (x := Str.ofString "back") F nBk
  have N2 : News (ghost g) L s.heap _ := N1
  clear F N N1
  have hlen := hst.1
  have hrl := rolls_length (base := 3) (p := prime) (n := long.toNat) (ns := row)
  have hyl : ys.length = (rolls 3 prime long.toNat row).length := by omega
  have hsz : ys.toArray.size ≤ sizeLine := by
    have h2 : ys.toArray.size = ys.length := List.size_toArray
    exact Nat.le_trans (by omega : ys.toArray.size ≤ 100) (by decide)
  have hsz2 : ys.reverse.toArray.size ≤ sizeLine := by
    have h2 : ys.reverse.toArray.size = ys.length := by rw [List.size_toArray, List.length_reverse]
    exact Nat.le_trans (by omega : ys.reverse.toArray.size ≤ 100) (by decide)
  have hr : decide (rolls 3 prime long.toNat row.reverse = revs prime row long.toNat ys.length ys.length) = true := by rw [decide_eq_true_eq, hyl]; exact rolls_rev (by omega)
  (try dsimp only); (try k_unmd); (try k_fold)
  k_steps
  all_goals try k_data
  refine Locked.mk ?_
  k_dflt (refine' comp_fix (J := fun i zs => IntsAre zs (revs prime row long.toNat ys.length i)) ?j0 ?turn ?fin)
  case j0 => exact .nil
  case turn =>
    rintro i v I1 oI C1 oC D1 m₂ zs h tk E' hin hv hzs hC hx F3 N3 off ne
    clear ne
    have hil : i < ys.length := by
      have h2 : ys.reverse.toArray.size = ys.length := by rw [List.size_toArray, List.length_reverse]
      omega
    obtain ⟨a, ws, ha, hma, hwa⟩ := hst.2 (ys.length - 1 - i) (by omega)
    have hve : v = .ref a := by
      have h3 : ys.reverse[i]? = some v := by simpa using hv
      rw [List.getElem?_reverse hil, ha] at h3
      exact (Option.some.inj h3).symm
    subst hve
    have hwsl := hwa.length
    have hwl : (win long.toNat row (ys.length - 1 - i)).length = long.toNat := win_length (by omega)
    have hsz3 : ws.toArray.size ≤ sizeLine := by
      have h2 : ws.toArray.size = ws.length := List.size_toArray
      exact Nat.le_trans (by omega : ws.toArray.size ≤ 100) (by decide)
    have hwr : ∀ x ∈ (win long.toNat row (ys.length - 1 - i)).reverse, 0 ≤ x ∧ x < 3 := fun x hx => hrowr x (List.mem_of_mem_drop (List.mem_of_mem_take (List.mem_reverse.mp hx)))
    have hb3 : Base 3 := .inl rfl
    have hnext : revs prime row long.toNat ys.length (i + 1) = revs prime row long.toNat ys.length i ++ [num 3 prime (win long.toNat row (ys.length - 1 - i)).reverse] := by
      unfold revs; rw [List.range_succ, List.map_append]; rfl
    obtain ⟨nk, hnk⟩ : ∃ nk, num 3 prime (win long.toNat row (ys.length - 1 - i)).reverse = nk := ⟨_, rfl⟩
    rw [hnk] at hnext
    have N5 := news_add (p := (a, W.listOf ws.toArray 0)) (by repeat (first | exact List.mem_append_left _ hma | refine List.mem_cons_of_mem _ ?_)) N3
    clear N3 hv ha
    k_steps
    all_goals try k_data
    refine Locked.mk ?_
    rename Fr _ _ _ _ => F7
    rename News _ _ _ _ => N7
    exact LCg.CompEnd.intro F7 (news_tl (news_tl N7)) _ (fun p hp => hp) off (.inr ⟨_, .head _, rfl, _, rfl⟩) ⟨by rw [hnext]; exact ints_snoc hzs, rfl⟩
  case fin =>
    rintro zs hzs
    rw [show ys.reverse.toArray.size = ys.length by rw [List.size_toArray, List.length_reverse]] at hzs
    unfold LCg.FinE
    intro D1 h tk F3 N3 off3
    clear off3
    (try dsimp only)
    (try k_unmd)
    (try k_fold)
    k_steps
    all_goals try k_data
    all_goals try (k_unmd; k_steps)
    exact next _ _ (fr_back nBk F3) (news_sub N3 (fun p9 h9 => by repeat (first | exact h9 | refine List.mem_cons_of_mem _ ?_)))
end
section
/-- digits below three -/
def Digs (w : List Int) : Prop := ∀ x ∈ w, 0 ≤ x ∧ x < 3
theorem val_range : ∀ {w : List Int}, Digs w → 0 ≤ val 3 w ∧ val 3 w < 3 ^ w.length
  | [], _ => by simp [val]
  | x :: r, h => by
    have h1 := h x (.head _)
    have h2 := val_range (w := r) (fun y hy => h y (.tail _ hy))
    have h3 : (0 : Int) < 3 ^ r.length := Int.pow_pos (by decide)
    rw [val_cons, List.length_cons, Int.pow_succ]
    have : x = 0 ∨ x = 1 ∨ x = 2 := by omega
    rcases this with rfl | rfl | rfl <;> omega
theorem val_inj : ∀ {v w : List Int}, Digs v → Digs w → v.length = w.length → val 3 v = val 3 w → v = w
  | [], [], _, _, _, _ => rfl
  | [], _ :: _, _, _, h, _ => by simp at h
  | _ :: _, [], _, _, h, _ => by simp at h
  | x :: v, y :: w, hv, hw, hl, he => by
    have hl' : v.length = w.length := by simpa using hl
    have hv' : Digs v := fun z hz => hv z (.tail _ hz)
    have hw' : Digs w := fun z hz => hw z (.tail _ hz)
    have a1 := val_range hv'
    have a2 := val_range hw'
    have hx := hv x (.head _)
    have hy := hw y (.head _)
    rw [val_cons, val_cons, hl'] at he
    rw [hl'] at a1
    have h3 : (0 : Int) < 3 ^ w.length := Int.pow_pos (by decide)
    have hx2 : x = 0 ∨ x = 1 ∨ x = 2 := by omega
    have hy2 : y = 0 ∨ y = 1 ∨ y = 2 := by omega
    have hxy : x = y := by
      rcases hx2 with rfl | rfl | rfl <;> rcases hy2 with rfl | rfl | rfl <;> first | rfl | (exfalso; omega)
    subst hxy
    have he' : val 3 v = val 3 w := by omega
    rw [val_inj hv' hw' hl' he']
theorem sorted_ext : ∀ {a b : List Int}, a.Pairwise (· < ·) → b.Pairwise (· < ·) → (∀ k, k ∈ a ↔ k ∈ b) → a = b
  | [], [], _, _, _ => rfl
  | [], y :: b, _, _, h => by simpa using (h y).mpr (.head _)
  | x :: a, [], _, _, h => by simpa using (h x).mp (.head _)
  | x :: a, y :: b, ha, hb, h => by
    rw [List.pairwise_cons] at ha hb
    have hxy : x = y := by
      rcases List.mem_cons.mp ((h x).mp (.head _)) with e | e
      · exact e
      · rcases List.mem_cons.mp ((h y).mpr (.head _)) with e' | e'
        · exact e'.symm
        · have := hb.1 x e
          have := ha.1 y e'
          omega
    subst hxy
    rw [sorted_ext ha.2 hb.2 fun k => ⟨fun hk => ?_, fun hk => ?_⟩]
    · rcases List.mem_cons.mp ((h k).mp (.tail _ hk)) with e | e
      · have := ha.1 k hk; omega
      · exact e
    · rcases List.mem_cons.mp ((h k).mpr (.tail _ hk)) with e | e
      · have := hb.1 k hk; omega
      · exact e
theorem hits_mem {row pc : List Int} {n m : Nat} {k : Int} : k ∈ hits row pc n m ↔ ∃ i : Nat, i < m ∧ win n row i = pc ∧ (i : Int) = k := by
  unfold hits
  simp only [List.mem_map, List.mem_filter, List.mem_range, decide_eq_true_eq]
  constructor
  · rintro ⟨i, ⟨h1, h2⟩, h3⟩; exact ⟨i, h1, h2, h3⟩
  · rintro ⟨i, h1, h2, h3⟩; exact ⟨i, ⟨h1, h2⟩, h3⟩
theorem hits_sorted {row pc : List Int} {n m : Nat} : (hits row pc n m).Pairwise (· < ·) := by
  unfold hits
  rw [List.pairwise_map]
  refine (List.Pairwise.filter _ List.pairwise_lt_range).imp fun h => by omega
theorem hits_length {row pc : List Int} {n m : Nat} : (hits row pc n m).length ≤ m := by
  unfold hits
  rw [List.length_map]
  exact Nat.le_trans (List.length_filter_le _ _) (by rw [List.length_range]; exact Nat.le_refl _)
/-- the piece stands only where its number stands -/
theorem there_in {row pc : List Int} {p : Int} {n : Nat} {ps : List (Int × Int)} {fs : List Int} (ho : Ord (rolls 3 p n row) (rolls 3 p n row).length ps) (hf : Found ps (num 3 p pc) fs) : ∀ k ∈ hits row pc n (rolls 3 p n row).length, k ∈ fs := fun k hk => by
  obtain ⟨i, h1, h2, rfl⟩ := hits_mem.mp hk
  rw [hf.1, ho.2.2]
  refine ⟨i, h1, ?_, rfl⟩
  rw [(rolls_get h1).1, h2]
theorem there_eq {row pc : List Int} {p : Int} {n : Nat} {ps : List (Int × Int)} {fs : List Int} (hrow : Digs row) (hpc : Digs pc) (hpl : pc.length = n) (ho : Ord (rolls 3 p n row) (rolls 3 p n row).length ps) (hf : Found ps (num 3 p pc) fs) (hp : p > 3 ^ n) : fs = hits row pc n (rolls 3 p n row).length := by
  refine sorted_ext hf.2 hits_sorted fun k => ⟨fun hk => ?_, there_in ho hf k⟩
  rw [hf.1, ho.2.2] at hk
  obtain ⟨i, h1, h2, h3⟩ := hk
  obtain ⟨h4, h5⟩ := rolls_get h1
  refine hits_mem.mpr ⟨i, h1, ?_, h3.symm⟩
  rw [h4] at h2
  have h6 : num 3 p (win n row i) = num 3 p pc := Option.some.inj h2
  have hwd : Digs (win n row i) := fun x hx => hrow x (List.mem_of_mem_drop (List.mem_of_mem_take hx))
  have hwl := win_length h5
  have a1 := val_range hwd
  have a2 := val_range hpc
  rw [hwl] at a1
  rw [hpl] at a2
  rw [num_val, num_val, Int.emod_eq_of_lt a1.1 (by omega), Int.emod_eq_of_lt a2.1 (by omega)] at h6
  exact val_inj hwd hpc (by omega) h6
end
end
theorem rows_none : True := by
  k_with_none
  trivial
theorem rows_L_27 : True := by
  k_with "binaryOp FloorDiv int int" => (k_here; (refine' floordiv_to (by with_reducible assumption) (by omega) (by omega) ?_; k_whole))
  trivial
theorem rows_L_28 : True := by
  k_with "binaryOp Mod int int" => (k_here; (refine' mod_to (by with_reducible assumption) (by omega) ?_; k_whole))
  trivial
theorem rows_L_29 : True := by
  k_with "binaryOp Add int int" => (k_here; (refine' add_to (by with_reducible assumption) ?_; k_whole))
  trivial
theorem rows_L_30 : True := by
  k_with "binaryOp Sub int int" => (k_here; (refine' sub_to (by with_reducible assumption) ?_; k_whole))
  trivial
theorem rows_L_31 : True := by
  k_with "binaryOp Mult int int" => (k_here; (refine' mul_to (by with_reducible assumption) (by with_reducible assumption) ?_; k_whole))
  trivial
theorem rows_L_32 : True := by
  k_with "binaryOp RShift int int" => (k_here; (refine' rshift_to (by with_reducible assumption) (by omega) ?_; k_whole))
  trivial
theorem rows_L_33 : True := by
  k_with "binaryOp LShift int int" => (k_here; (refine' lshift_to (by with_reducible assumption) (by omega) (by omega) (by omega) ?_; k_whole))
  trivial
theorem rows_L_34 : True := by
  k_with "binaryOp Pow int int" => (k_here; (refine' pow_to (by with_reducible assumption) (by omega) (by omega) (by (first | with_reducible assumption | decide | omega)) ?_; k_whole))
  trivial
theorem rows_L_35 : True := by
  k_with "binaryOp BitXor int int" => (k_here; (refine' xor_to (by with_reducible assumption) ?_; k_whole))
  trivial
theorem rows_L_36 : True := by
  k_with "unaryOp Invert int" => (k_here; (refine' invert_to (by with_reducible assumption) ?_; k_whole))
  trivial
theorem rows_L_37 : True := by
  k_with "binaryOp Mult ref int" => (k_here; (first | ((with_reducible show wpAny _ _ (binaryOp _ (Value.ref _) (Value.int 0 _)) _ _ _); refine' mul0_list (by k_asm) (by k_asm) (by k_mem) ?_; k_whole) | ((with_reducible show wpAny _ _ (binaryOp _ (Value.ref _) (Value.int 1 _)) _ _ _); refine' mul1_list (by k_asm) (by k_asm) (by k_mem) ?_; k_whole) | ((with_reducible show wpAny _ _ (binaryOp _ (Value.ref _) (Value.int 2 _)) _ _ _); refine' mul2_list (by k_asm) (by k_asm) (by k_mem) ?_; k_whole)); intro DZ9 hZ9 FZ9 NZ9 l1Z9; (try k_lt l1Z9))
  trivial
theorem rows_L_38 : True := by
  k_with "call ref" => (k_here; kn_here; k_dflt (refine wpAny_call ?_; (refine' enterN (by k_asm) (by k_asm) (by k_asm) (by k_mem) (by (first | exact CodeT.get (by k_asm) (by k_asm) (by assumption) (fun p9 h9 => by repeat (first | exact h9 | refine List.mem_cons_of_mem _ ?_)) | exact codeRec_news (by k_asm) (by k_mem) (by assumption) (by assumption) | exact Heap.CodeRec.keeps (by assumption) (Fr.keep (by k_asm)))) (by k_room) (by exact BindsTo.of_eq rfl) (by exact locs rfl) ?_ (by exact rfl) (by exact rfl) (by exact rfl) (by decide); k_whole; intro gZ9 LZ9 hZ9 GZ9 FGZ9 FZ9 NZ9 l1Z9; (have X' := Gnd.X GZ9); (have T' := Gnd.T GZ9); (try k_lt l1Z9); (try (have hl9 := isList_up FGZ9 (by assumption))); (try (have xR' := codeRec_up FGZ9 (by assumption))); (try (have xT' := CodeT.up FGZ9 (by assumption))); (try dsimp only); (try k_fold))))
  trivial
theorem rows_L_39 : True := by
  k_with "subscriptTail" => (k_here; (with_reducible show wpAny _ _ (subscriptTail _ _ (Value.ref _) (Value.int _ _)) _ _ _); (with_unfolding_all refine' item_at (by k_asm) (by with_reducible assumption) (by decide) (by decide) (by rfl) ?_ (by with_unfolding_all rfl); k_whole))
  trivial
theorem rows_L_40 : True := by
  k_with "subscriptTail Name Name ref int" => (k_here; (with_reducible show wpAny _ _ (subscriptTail _ _ (Value.ref _) (Value.int _ _)) _ _ _); (with_unfolding_all refine' item_at (by k_asm) (by with_reducible assumption) (by decide) (by decide) (by rfl) ?_ (by with_unfolding_all rfl); k_whole))
  trivial
theorem rows_L_41 : True := by
  k_with "call builtin:len" => (k_here; (with_reducible show wpAny _ _ (call (Value.builtin "len") [Value.ref _]) _ _ _); (refine' len_at (by k_asm) (by with_reducible assumption) (by with_reducible assumption) (by (first | decide | omega)) ?_; k_whole))
  trivial
theorem rows_L_42 : True := by
  k_with "call builtin:int.bit_length" => (k_here; (refine' bits_to (by with_reducible assumption) ?_; k_whole))
  trivial
theorem rows_L_43 : True := by
  k_with "call ref" => (k_here; (with_reducible show wpAny _ _ (call (Value.ref 21) _) _ _ _); k_dflt (refine' L_div2n1n (by k_asm) (by k_asm) (by assumption) (by ktr_rel) (by assumption) (by ktr_room) (by omega) (by omega) (by with_reducible assumption) (by with_reducible assumption) (by with_reducible assumption) ?_; k_whole); intro pZ9 hZ9 tkZ9 tqZ9 trZ9 tlZ9 SZ9 f30Z9 f37Z9 FZ9 NZ9 l1Z9; (try (replace f30Z9 := f30Z9 (by assumption))); (try (replace f37Z9 := f37Z9 (by assumption))); (try simp only [List.cons_append, List.nil_append] at NZ9); (try k_lt l1Z9))
  trivial
theorem rows_L_44 : True := by
  k_with "call ref" => (k_here; (with_reducible show wpAny _ _ (call (Value.ref 35) _) _ _ _); k_dflt (first | (refine' L_int2digits_zero (by k_asm) (by k_asm) (by assumption) (by ktr_rel) (by assumption) (by ktr_room) (by omega) (by omega) (by with_reducible assumption) ?_; k_whole; intro pZ9 hZ9 tkZ9 tlZ9 SZ9 f30Z9 f37Z9 FZ9 NZ9 l1Z9; (try (replace f37Z9 := f37Z9 (by assumption)))) | (refine' L_int2digits_one (by k_asm) (by k_asm) (by assumption) (by ktr_rel) (by assumption) (by ktr_room) (by omega) (by omega) (by omega) (by with_reducible assumption) ?_; k_whole; intro pZ9 hZ9 tkZ9 tqZ9 tlZ9 SZ9 f30Z9 f37Z9 FZ9 NZ9 l1Z9; (try (replace f37Z9 := f37Z9 (by assumption)))) | (refine' L_int2digits_two (by k_asm) (by k_asm) (by assumption) (by ktr_rel) (by assumption) (by ktr_room) (by omega) (by omega) (by omega) (by omega) (by with_reducible assumption) (by with_reducible assumption) (by with_reducible assumption) (by with_reducible assumption) (by omega) (by omega) (by with_reducible assumption) ?_; k_whole; intro pZ9 hZ9 tkZ9 tqZ9 trZ9 tlZ9 SZ9 f30Z9 f37Z9 FZ9 NZ9 l1Z9; (try (replace f37Z9 := f37Z9 (by assumption))))); (try simp only [List.cons_append, List.nil_append] at NZ9); (try k_lt l1Z9))
  trivial
theorem rows_L_45 : True := by
  k_with "call ref" => (k_here; (with_reducible show wpAny _ _ (call (Value.ref 42) _) _ _ _); k_dflt (first | (refine' L_digits2int_zero (by k_asm) (by k_asm) (by assumption) (by ktr_rel) (by assumption) (by ktr_room) (by omega) (by omega) (by k_mem) ?_; k_whole) | (refine' L_digits2int_one (by k_asm) (by k_asm) (by assumption) (by ktr_rel) (by assumption) (by ktr_room) (by omega) (by omega) (by k_mem) ?_; k_whole) | (refine' L_digits2int_two (by k_asm) (by k_asm) (by assumption) (by ktr_rel) (by assumption) (by ktr_room) (by omega) (by omega) (by k_mem) (by with_reducible assumption) (by with_reducible assumption) (by omega) (by omega) (by with_reducible assumption) ?_; k_whole)); intro hZ9 tkZ9 tZ9 tlZ9 SZ9 f30Z9 f37Z9 FZ9 NZ9; (try (replace f30Z9 := f30Z9 (by assumption))); (try simp only [List.cons_append, List.nil_append] at NZ9))
  trivial
theorem rows_L_46 : True := by
  k_with "call ref" => (k_here; (with_reducible show wpAny _ _ (call (Value.ref 56) _) _ _ _); k_dflt (refine' L_int_divmod (by k_asm) (by k_asm) (by assumption) (by ktr_rel) (by assumption) (by ktr_room) (by with_reducible assumption) (by with_reducible assumption) (by with_reducible assumption) (by with_reducible assumption) ?_; k_whole); intro pZ9 hZ9 tkZ9 tqZ9 trZ9 tlZ9 SZ9 f30Z9 f37Z9 FZ9 NZ9 l1Z9; (try simp only [List.cons_append, List.nil_append] at NZ9); (try simp only [AllNe] at l1Z9))
  trivial
theorem rows_L_47 : True := by
  k_with "call ref" => (k_here; (with_reducible show wpAny _ _ (call (Value.ref 81) _) _ _ _); k_dflt (first | (refine' L_number (by k_asm) (by k_asm) (by assumption) (by ktr_rel) (by assumption) (by ktr_room) (by with_reducible assumption) (by with_reducible assumption) (by k_mem) (by with_reducible assumption) (by with_reducible assumption) (by with_reducible assumption) ?_; k_whole) | (refine' L_number_g (by k_asm) (by k_asm) (by assumption) (by ktr_rel) (by assumption) (by ktr_room) (by with_reducible assumption) (by with_reducible assumption) (by with_reducible assumption) (by with_reducible assumption) (by with_reducible assumption) (by with_reducible assumption) ?_; k_whole)); intro hZ9 tkZ9 tZ9 tlZ9 SZ9 f30Z9 f37Z9 FZ9 NZ9; (try simp only [List.cons_append, List.nil_append] at NZ9))
  trivial
theorem rows_L_48 : True := by
  k_with "pyIter ref" => (k_here; (with_reducible show wpAny _ _ (pyIter (Value.ref _)) (fun it s₂ => LoopAtV _ _ _ _ _ _ _ _ _ it s₂) _ _); refine Locked.out ?_)
  trivial
theorem rows_L_49 : True := by
  k_with "call type:range" => (k_here; (rename Fr _ _ _ _ => F'); (rename News _ _ _ _ => N'); first | (with_unfolding_all refine range1_rows F' N' ?_; intro _ _ _ _ _ _ _ _ _) | (with_unfolding_all refine range2_rows F' N' ?_; intro _ _ _ _ _ _ _ _ _))
  trivial
theorem rows_L_50 : True := by
  k_with "subscriptTail Name UnaryOp ref int" => (k_here; (with_reducible show wpAny _ _ (subscriptTail _ _ (Value.ref _) (Value.int _ _)) _ _ _); k_dflt (first | (refine' item_at (by k_asm) (by with_reducible assumption) (by (first | decide | omega)) (by (first | decide | omega)) (by with_reducible assumption) ?_ (by with_unfolding_all rfl); k_whole) | (refine' item_last (by k_asm) (by k_mem) (by with_reducible assumption) ?_ (by with_unfolding_all rfl); k_whole) | (refine' item_own (by k_asm) (by k_mem) (by (first | decide | omega)) (by (first | decide | omega)) (by with_reducible assumption) ?_ (by with_unfolding_all rfl); k_whole)))
  trivial
theorem rows_L_51 : True := by
  k_with "subscriptTail Name BinOp ref int" => (k_here; (with_reducible show wpAny _ _ (subscriptTail _ _ (Value.ref _) (Value.int _ _)) _ _ _); k_dflt (first | (refine' item_at (by k_asm) (by with_reducible assumption) (by (first | decide | omega)) (by (first | decide | omega)) (by with_reducible assumption) ?_ (by with_unfolding_all rfl); k_whole) | (refine' item_last (by k_asm) (by k_mem) (by with_reducible assumption) ?_ (by with_unfolding_all rfl); k_whole) | (refine' item_own (by k_asm) (by k_mem) (by (first | decide | omega)) (by (first | decide | omega)) (by with_reducible assumption) ?_ (by with_unfolding_all rfl); k_whole)))
  trivial
theorem rows_L_52 : True := by
  k_with "subscriptTail Name Name ref int" => (k_here; (with_reducible show wpAny _ _ (subscriptTail _ _ (Value.ref _) (Value.int _ _)) _ _ _); k_dflt (first | (refine' item_at (by k_asm) (by with_reducible assumption) (by (first | decide | omega)) (by (first | decide | omega)) (by with_reducible assumption) ?_ (by with_unfolding_all rfl); k_whole) | (refine' item_last (by k_asm) (by k_mem) (by with_reducible assumption) ?_ (by with_unfolding_all rfl); k_whole) | (refine' item_own (by k_asm) (by k_mem) (by (first | decide | omega)) (by (first | decide | omega)) (by with_reducible assumption) ?_ (by with_unfolding_all rfl); k_whole)))
  trivial
theorem rows_L_53 : True := by
  k_with "call ref" => (k_here; (with_reducible show wpAny _ _ (call (Value.ref 74) _) _ _ _); k_dflt (refine' L_bisect (by k_asm) (by k_asm) (by assumption) (by ktr_rel) (by assumption) (by ktr_room) (by ((try dsimp only [At, Around.deeper]); omega)) (by assumption) (by exact isList_own (by k_asm) (by k_mem)) (by (first | assumption | exact Pairs.up (Fr.keep (by k_asm)) (by assumption))) (by (first | assumption | exact IsPair.up (Fr.keep (by k_asm)) (by assumption))) (by assumption) (by (first | exact .inr rfl | exact .inl ⟨rfl, rfl⟩)) ?_; k_whole); intro hZ9 tkZ9 rZ9 kZ9 tZ9 tlZ9 hkZ9 hrZ9 SZ9 f30Z9 f37Z9 FZ9 NZ9; have hb' := hrZ9.1; (try simp only [List.cons_append, List.nil_append] at NZ9))
  trivial
theorem rows_L_54 : True := by
  k_with "call builtin:list.insert" => (k_here; (with_reducible show wpAny _ _ (call (Value.builtin _) [Value.ref _, Value.int _ _, _]) _ _ _); k_dflt (refine' kl_insert (by k_asm) (by k_asm) (by exact fits_idx (by omega) (by omega)) rfl (by k_upd) (by assumption) ?_; k_whole); intro hZ9 FZ9 NZ9)
  trivial
theorem rows_L_55 : True := by
  k_with "subscriptTail Name Slice ref ref" => (k_here; (with_reducible show wpAny _ _ (subscriptTail _ (PySem.Expr.Slice none none (some (PySem.Expr.Constant _ _ _)) _) (Value.ref _) (Value.ref _)) _ _ _); k_dflt (refine' evens_ints (by k_asm) (by k_asm) (by kmk_list) (by exact IsPart.int _ _) (by l_ints) ?_ (by with_unfolding_all rfl) (by kmk_pure) (by kmk_size)); intro DZ9 wsZ9 hZ9 FZ9 NZ9 l1Z9 hIZ9; (try k_lt l1Z9); (try k_sweep))
  trivial
theorem rows_L_56 : True := by
  k_with "subscriptTail" => (k_here; (with_reducible show wpAny _ _ (subscriptTail _ _ (Value.ref _) (Value.int _ _)) _ _ _); k_dflt (refine' pick_four (by k_asm) (by k_mem) (by with_reducible assumption) (by with_reducible assumption) ?_ (by with_unfolding_all rfl); k_whole); intro tZ9)
  trivial
theorem rows_L_57 : True := by
  k_with "binaryOp Add ref ref" => (k_here; (with_reducible show wpAny _ _ (binaryOp _ (Value.ref _) (Value.ref _)) _ _ _); k_dflt (refine' kmk_add_ints (ns := evens _) (by k_asm) (by k_asm) (by kmk_list) (by kmk_list) (by with_reducible assumption) (by exact .cons _ _ (.cons _ _ (.cons _ _ .nil))) ?_ (by (exact evens_fit (by first | omega | (simp only [List.length_map, List.length_take]; omega))))); intro DZ9 wsZ9 hZ9 FZ9 NZ9 l1Z9 hIZ9; (try k_lt l1Z9); (try k_sweep))
  trivial
theorem rows_L_58 : True := by
  k_with "last subscriptTail" => (k_here; (with_reducible show wpAny _ _ (subscriptTail _ (PySem.Expr.Slice none (some _) none _) (Value.ref _) (Value.ref _)) _ _ _); k_dflt (refine' kmk_slice_ints (by k_asm) (by k_asm) (by kmk_list) (by kmk_part) (by kmk_part) (by with_reducible assumption) (by exact kmk_upto (by with_reducible assumption) (by omega)) (by exact rfl) ?_ (by with_unfolding_all rfl) (by kmk_pure) (by (exact piece_fit (by with_reducible assumption) (by first | omega | (simp only [List.length_map, List.length_take]; omega))))); intro DZ9 wsZ9 hZ9 FZ9 NZ9 l1Z9 hIZ9 hCZ9 hLZ9; (try k_lt l1Z9); (try k_sweep))
  trivial
section
theorem perm_into {X : Type} {x : X} {c ex tl : List X} : ∀ p ∈ c ++ ((x :: ex) ++ tl), p ∈ x :: (c ++ (ex ++ tl)) := by
  intro p hp
  simp only [List.mem_cons, List.mem_append] at hp ⊢
  rcases hp with h | (h | h) | h <;> simp [h]
theorem news_nine {g h : Heap} {L : Addr} {x c1 c2 c3 c4 c5 c6 c7 c8 c9 : Addr × Obj} {ex tl : List (Addr × Obj)} (N : News g L h (x :: c1 :: c2 :: c3 :: c4 :: c5 :: c6 :: c7 :: c8 :: c9 :: (ex ++ tl))) : News g L h (c1 :: c2 :: c3 :: c4 :: c5 :: c6 :: c7 :: c8 :: c9 :: ((x :: ex) ++ tl)) :=
  news_sub (news' := [c1, c2, c3, c4, c5, c6, c7, c8, c9] ++ ((x :: ex) ++ tl)) N (perm_into (c := [c1, c2, c3, c4, c5, c6, c7, c8, c9]))
/-- law behind its first five statements -/
theorem law_tail {w : World} {mean mg mb} {dp un fr gd} {s : Shared} {g : Heap} {Q : Flow → Shared → Prop} {E : Value → Shared → Prop} {L : Addr} {m : Str → Option Value}
   {fd : FuncData} {body : List Stmt} {oc : Value} {od : Option Addr} {osl : Array (Option Value)} (ho : (hd.heap_39 w.params).lookup 93 = some ⟨oc, od, .func fd, osl⟩) (hbody : fd.body = .stmts body) (G : Good w mean mg mb g)
   (hdp : dp + 60 < 1000) (hun : un + 100 < cLine) {row : List Int} {long prime : Int} {o1 o2 o3 o4 o5 o6 o7 o8 o9 : Obj} {tl ex : List (Addr × Obj)} (S : TL g tl) (I : Imms ex) (F : Fr (ghost g) L s.heap m) (N : News (ghost g) L s.heap ((L + 1 + 1 + 1 + 1 + 1 + 1 + 1 + 1 + 1, o1) :: (L + 1 + 1 + 1 + 1 + 1 + 1 + 1 + 1, o2) :: (L + 1 + 1 + 1 + 1 + 1 + 1 + 1, o3) :: (L + 1 + 1 + 1 + 1 + 1 + 1, o4) :: (L + 1 + 1 + 1 + 1 + 1, o5) :: (L + 1 + 1 + 1 + 1, o6) :: (L + 1 + 1 + 1, o7) :: (L + 1 + 1, o8) :: (L + 1, o9) :: (ex ++ tl)))
   (hP : Menu prime) (hlong1 : 1 ≤ long) (hlong3 : long ≤ 3) (hrowl : row.length ≤ 14) (hrowr : ∀ x ∈ row, 0 ≤ x ∧ x < 3) {tL tP : Tok} (c8 : o8.data = .cell (some (.int prime tP))) (c9 : o9.data = .cell (some (.int long tL)))
   {T : Addr} {wsT : List Value} {nT : Nat} (mT : (T, W.listOf wsT.toArray nT) ∈ ex) (hT : IntsAre wsT (rolls 3 prime long.toNat row)) (c5 : o5.data = .cell (some (.ref T)))
   {D : Addr} {ys : List Value} {nD : Nat} (mD : (D, W.listOf ys.toArray nD) ∈ ex) (hst : Sts long.toNat row ((row.length : Int) - long + 1 - 0).toNat ys ex) (c4 : o4.data = .cell (some (.ref D)))
   {R : Addr} {wsR : List Value} {nR : Nat} (mR : (R, W.listOf wsR.toArray nR) ∈ ex) (hrow : IntsAre wsR row) (c7 : o7.data = .cell (some (.ref R)))
   {P : Addr} {wsP : List Value} {nP : Nat} {pc : List Int} (mP : (P, W.listOf wsP.toArray nP) ∈ ex) (hpc : IntsAre wsP pc) (hpcl : pc.length = long.toNat) (hpcr : ∀ x ∈ pc, 0 ≤ x ∧ x < 3) (c6 : o6.data = .cell (some (.ref P)))
   (c1 : o1.data = .cell none) (c2 : o2.data = .cell none) (c3 : o3.data = .cell none)
   (hfull : rolls 3 prime long.toNat row ≠ [] → Full30 tl ∧ Full37 tl) (hE : PassesOwn (model PR w) ((At dp un fr gd).deeper (envOfC fd.qualname fd.scope L 93 fd.code)) (envOfC fd.qualname fd.scope L 93 fd.code) E)
   (fin : ∀ h' tk m' tl' news', TL g tl' → Fr (ghost g) L h' m' → News (ghost g) L h' news' → (∀ p ∈ tl', p ∈ news') → Q (.ret (.bool true)) { s with heap := h', toks := tk }) :
   wpAny (model PR w) ((At dp un fr gd).deeper (envOfC fd.qualname fd.scope L 93 fd.code)) (execs (body.drop 5) (envOfC fd.qualname fd.scope L 93 fd.code)) Q E s := by
  have hrl := rolls_length (base := 3) (p := prime) (n := long.toNat) (ns := row)
  refine law_5 (row := row) (long := long) (prime := prime) ho hbody G hdp hun S I F N hP hlong1 hlong3 hrowl hrowr c8 c9 mT hT c5 mD hst c4 hfull fun h5 tk5 F5 N5 => ?_
  refine law_6 (row := row) (long := long) (prime := prime) (s := { s with heap := h5, toks := tk5 }) ho hbody G hdp hun S I F5 N5 fun h6 tk6 O F6 N6 hO => ?_
  refine law_7 (row := row) (long := long) (prime := prime) (s := { s with heap := h6, toks := tk6 }) ho hbody G hdp hun S I F6 N6 hO rfl hP hlong1 hlong3 hrowl hrowr c8 c9 mT hT c5 hfull hE fun h7 tk7 m7 vs cnt ps tups mO7 hOrd hPs hIm F7 N7 => ?_
  have I1 : Imms (tups ++ ex) := hIm.app I
  have u1 : ∀ p ∈ ex, p ∈ tups ++ ex := fun p hp => List.mem_append_right _ hp
  have hPs1 : PairsN (tups ++ ex) vs ps := hPs.more fun p hp => List.mem_append_left _ hp
  refine law_8 (row := row) (long := long) (prime := prime) (s := { s with heap := h7, toks := tk7 }) (ex := tups ++ ex) ho hbody G hdp hun S I1 F7 N7 mO7 hOrd (by omega) hPs1 fun h8 tk8 F8 N8 => ?_
  refine law_9 (row := row) (long := long) (prime := prime) (s := { s with heap := h8, toks := tk8 }) (ex := tups ++ ex) ho hbody G hdp hun S I1 imm_list F8 N8 hP hlong1 hlong3 hrowl hrowr c8 c9 (u1 _ mP) hpc hpcl hpcr c6 ⟨_, c1⟩ ⟨_, c2⟩ ⟨_, c3⟩ ⟨_, c4⟩ ⟨_, c5⟩ ⟨_, c7⟩ fun h9 tk9 tm tl9 S9 f30 f37 F9 N9 => ?_
  have N9' := news_nine N9
  have I2 : Imms ((O, W.listOf vs.toArray cnt) :: (tups ++ ex)) := Imms.cons imm_list I1
  have u2 : ∀ p ∈ ex, p ∈ (O, W.listOf vs.toArray cnt) :: (tups ++ ex) := fun p hp => .tail _ (u1 p hp)
  have hPs2 : PairsN ((O, W.listOf vs.toArray cnt) :: (tups ++ ex)) vs ps := hPs1.more fun p hp => .tail _ hp
  generalize hex2 : (O, W.listOf vs.toArray cnt) :: (tups ++ ex) = ex2 at *
  have mO2 : (O, W.listOf vs.toArray cnt) ∈ ex2 := by rw [← hex2]; exact .head _
  refine law_10 (row := row) (long := long) (prime := prime) (s := { s with heap := h9, toks := tk9 }) (ex := ex2) ho hbody G hdp hun S9 I2 F9 N9' ⟨_, c1⟩ ⟨_, c2⟩ ⟨_, c3⟩ ⟨_, c4⟩ ⟨_, c5⟩ ⟨_, c6⟩ ⟨_, c7⟩ ⟨_, c8⟩ ⟨_, c9⟩ f30 f37 hP hlong1 hlong3 hrowl hrowr mO2 (by exact mO7) hOrd hPs2 (mn := num 3 prime pc) (tm := tm) rfl fun h10 tk10 m10 FL tF k r o3' hr hk c3' F10 q1 q2 q3 N10 hFL => ?_
  refine law_11 (row := row) (long := long) (prime := prime) (s := { s with heap := h10, toks := tk10 }) (ex := ex2) ho hbody G hdp hun S9 I2 hFL F10 N10 f30 f37 hP hlong1 hlong3 hrowl hrowr c3' mO2 q2 hOrd hPs2 q3 q1 hr hk hE fun h11 tk11 m11 arrF cntF fs hFound hAF F11 N11 => ?_
  have N11' := news_nine N11
  have I3 : Imms ((FL, W.listOf arrF cntF) :: ex2) := Imms.cons imm_list I2
  refine law_12 (row := row) (long := long) (prime := prime) (s := { s with heap := h11, toks := tk11 }) (ex := (FL, W.listOf arrF cntF) :: ex2) ho hbody G hdp hun S9 I3 F11 N11' ⟨_, c1⟩ ⟨_, c2⟩ ⟨_, c3'⟩ ⟨_, c4⟩ ⟨_, c5⟩ ⟨_, c6⟩ ⟨_, c7⟩ ⟨_, c8⟩ ⟨_, c9⟩ hP hlong1 hlong3 hrowl hrowr (.tail _ (u2 _ mP)) hpc hpcl c6 (.tail _ (u2 _ mD)) (hst.more fun p hp => .tail _ (u2 p hp)) c4 fun h12 tk12 m12 TH zs cz q4 hzs F12 N12 => ?_
  have N12' := news_nine N12
  have I4 : Imms ((TH, W.listOf zs.toArray cz) :: (FL, W.listOf arrF cntF) :: ex2) := Imms.cons imm_list I3
  have u4 : ∀ p ∈ ex, p ∈ (TH, W.listOf zs.toArray cz) :: (FL, W.listOf arrF cntF) :: ex2 := fun p hp => .tail _ (.tail _ (u2 p hp))
  have hyl : ys.length = (rolls 3 prime long.toNat row).length := by have := hst.1; omega
  rw [hyl] at hzs
  have hhl := hits_length (row := row) (pc := pc) (n := long.toNat) (m := (rolls 3 prime long.toNat row).length)
  refine law_13 (row := row) (long := long) (prime := prime) (s := { s with heap := h12, toks := tk12 }) (ex := (TH, W.listOf zs.toArray cz) :: (FL, W.listOf arrF cntF) :: ex2) (wsF := arrF.toList) ho hbody G hdp hun S9 I4 F12 N12' hP hlong1 hlong3 hrowl hrowr c8 c9 (.tail _ (.head _)) hAF c3' (.head _) hzs q4 (there_in hOrd hFound) (there_eq hrowr hpcr hpcl hOrd hFound) (by omega) fun h13 tk13 F13 N13 => ?_
  generalize hex4 : (TH, W.listOf zs.toArray cz) :: (FL, W.listOf arrF cntF) :: ex2 = ex4 at *
  refine law_14 (row := row) (long := long) (prime := prime) (s := { s with heap := h13, toks := tk13 }) (ex := ex4) ho hbody G hdp hun S9 I4 F13 N13 f30 f37 hP hlong1 hlong3 hrowl hrowr c9 ⟨_, c2⟩ (u4 _ mR) hrow c7 fun h14 tk14 FO arrO cntO o2' hAO c2' F14 N14 => ?_
  have N14' := news_nine N14
  have I5 : Imms ((FO, W.listOf arrO cntO) :: ex4) := Imms.cons imm_list I4
  have u5 : ∀ p ∈ ex, p ∈ (FO, W.listOf arrO cntO) :: ex4 := fun p hp => .tail _ (u4 p hp)
  have mO5 : (FO, W.listOf arrO.toList.toArray cntO) ∈ (FO, W.listOf arrO cntO) :: ex4 := .head _
  generalize hex5 : (FO, W.listOf arrO cntO) :: ex4 = ex5 at *
  refine law_15 (row := row) (long := long) (prime := prime) (s := { s with heap := h14, toks := tk14 }) (ex := ex5) ho hbody G hdp hun S9 I5 F14 N14' f30 f37 hP hlong1 hlong3 hrowl hrowr mO5 hAO c2' (u5 _ mD) (hst.more u5) c4 fun h15 tk15 F15 N15 => ?_
  refine law_16 (row := row) (long := long) (prime := prime) (s := { s with heap := h15, toks := tk15 }) (ex := ex5) ho hbody G hdp hun S9 I5 F15 N15 f30 f37 hP hlong1 hlong3 hrowl hrowr c8 ⟨_, c1⟩ (u5 _ mR) hrow c7 fun h16 tk16 B zsB o1' hzB c1' F16 N16 => ?_
  have N16' := news_nine N16
  have I6 : Imms ((B, W.listOf zsB.toArray zsB.length) :: ex5) := Imms.cons imm_list I5
  have u6 : ∀ p ∈ ex, p ∈ (B, W.listOf zsB.toArray zsB.length) :: ex5 := fun p hp => .tail _ (u5 p hp)
  have mB6 : (B, W.listOf zsB.toArray zsB.length) ∈ (B, W.listOf zsB.toArray zsB.length) :: ex5 := .head _
  generalize hex6 : (B, W.listOf zsB.toArray zsB.length) :: ex5 = ex6 at *
  refine law_17 (row := row) (long := long) (prime := prime) (s := { s with heap := h16, toks := tk16 }) (ex := ex6) ho hbody G hdp hun S9 I6 F16 N16' f30 f37 hP hlong1 hlong3 hrowl hrowr c8 c9 mB6 hzB c1' (u6 _ mT) hT c5 fun h17 tk17 F17 N17 => ?_
  refine law_18 (row := row) (long := long) (prime := prime) (s := { s with heap := h17, toks := tk17 }) (ex := ex6) ho hbody G hdp hun S9 I6 F17 N17 f30 f37 hP hlong1 hlong3 hrowl hrowr c8 c9 (u6 _ mR) hrow c7 fun h18 tk18 BK arrK cntK hAK F18 N18 => ?_
  have N18' := news_nine N18
  have I7 : Imms ((BK, W.listOf arrK cntK) :: ex6) := Imms.cons imm_list I6
  refine law_19 (row := row) (long := long) (prime := prime) (s := { s with heap := h18, toks := tk18 }) (ex := (BK, W.listOf arrK cntK) :: ex6) (wsK := arrK.toList) ho hbody G hdp hun S9 I7 F18 N18' f30 f37 hP hlong1 hlong3 hrowl hrowr c8 (.head _) hAK rfl (.tail _ (u6 _ mD)) (hst.more fun p hp => .tail _ (u6 p hp)) c4 fun h19 tk19 F19 N19 => ?_
  exact fin h19 tk19 _ tl9 _ S9 F19 N19 fun p hp => by repeat (first | exact List.mem_append_right _ hp | refine List.mem_cons_of_mem _ ?_)
end
section
theorem law_sub {g h : Heap} {L P R : Addr} {o1 : Obj} {ys : List Value} {a1 a2 a3 a5 a6 a7 : Addr × Obj} {rest : List (Addr × Obj)} (N : News g L h ((P, o1) :: a1 :: a2 :: a3 :: (R, LCg.lst ys) :: a5 :: a6 :: a7 :: rest)) : News g L h ((P, o1) :: (R, W.listOf ys.toArray ys.length) :: rest) := fun p hp => N p (by
  rcases List.mem_cons.mp hp with rfl | hp
  · exact .head _
  · rcases List.mem_cons.mp hp with rfl | hp
    · exact .tail _ (.tail _ (.tail _ (.tail _ (.head _))))
    · exact .tail _ (.tail _ (.tail _ (.tail _ (.tail _ (.tail _ (.tail _ (.tail _ hp))))))))
theorem fn_stretches {w : World} {A : Around} {s : Shared} {Q : Flow → Shared → Prop} {E : Value → Shared → Prop} {ss ss' : List Stmt} {env env' : Env} {A' : Around} (h : wpAny (model PR w) A' (execs ss' env') Q E s) (hA : A = A') (hs : ss = ss') (he : env = env') : wpAny (model PR w) A (execs ss env) Q E s := by subst hA hs he; exact h
theorem execs_four {A : Around} {env : Env} {w : World} {s : Shared} {E : Value → Shared → Prop} {a b c d : Stmt} {rest : List Stmt} {Q : Flow → Shared → Prop}
    (h : wpAny (model PR w) A (exec a env) (fun f s1 => match f with | .next => wpAny (model PR w) A (exec b env) (fun f s2 => match f with | .next => wpAny (model PR w) A (exec c env) (fun f s3 => match f with | .next => wpAny (model PR w) A (exec d env) (fun f s4 => match f with | .next => Locked (wpAny (model PR w) A (execs rest env) Q E s4) | f => Q f s4) E s3 | f => Q f s3) E s2 | f => Q f s2) E s1 | f => Q f s1) E s) : wpAny (model PR w) A (execs (a :: b :: c :: d :: rest) env) Q E s := by
  refine wpAny_execs_cons (wpAny_mono h (fun f s1 h1 => ?_) fun _ _ e => e)
  cases f <;> try exact h1
  refine wpAny_execs_cons (wpAny_mono h1 (fun f s2 h2 => ?_) fun _ _ e => e)
  cases f <;> try exact h2
  refine wpAny_execs_cons (wpAny_mono h2 (fun f s3 h3 => ?_) fun _ _ e => e)
  cases f <;> try exact h3
  exact wpAny_execs_cons h3
theorem start_perm {X : Type} {a b c d : X} {e t s : List X} : ∀ p ∈ e ++ ((a :: b :: c :: d :: s) ++ t), p ∈ a :: b :: c :: d :: (e ++ (t ++ s)) := by
  intro p hp
  simp only [List.mem_cons, List.mem_append] at hp ⊢
  rcases hp with h | (h | h | h | h | h) | h <;> simp [h]
theorem news_start {g h : Heap} {L : Addr} {a b c d c1 c2 c3 c4 c5 c6 c7 c8 c9 : Addr × Obj} {sts tl : List (Addr × Obj)} (N : News g L h (a :: b :: c :: d :: c1 :: c2 :: c3 :: c4 :: c5 :: c6 :: c7 :: c8 :: c9 :: (tl ++ sts))) : News g L h (c1 :: c2 :: c3 :: c4 :: c5 :: c6 :: c7 :: c8 :: c9 :: ((a :: b :: c :: d :: sts) ++ tl)) :=
  news_sub (news' := [c1, c2, c3, c4, c5, c6, c7, c8, c9] ++ ((a :: b :: c :: d :: sts) ++ tl)) N (start_perm (e := [c1, c2, c3, c4, c5, c6, c7, c8, c9]))
theorem law_ok {w : World} {mean mg mb} {dp un fr gd} {s : Shared} {R0 : Result → Shared → Prop} {l : Addr} {vs : List Value} {ns : List Int} (G : Good w mean mg mb s.heap)
   (hdp : dp + 70 < 1000) (hun : un + 120 < cLine) (hl : s.heap.IsList l vs.toArray) (hi : IntsAre vs ns) (hlen : ns.length ≤ 63)
   (ret : ∀ h' tk, Ext s.heap h' → Good w mean mg mb h' → R0 (.ok (.ret (.bool true))) { s with heap := h', toks := tk }) :
   codeAny (model PR w) (At dp un fr gd) (.call (.ref 93) ⟨[.ref l], []⟩) R0 s := by
  have X := G.g.X
  have T := G.g.T
  obtain ⟨m3, hm3⟩ : ∃ m3, ns.sum.fmod 3 = m3 := ⟨_, rfl⟩
  obtain ⟨long, hlong⟩ : ∃ long, 1 + m3 = long := ⟨_, rfl⟩
  obtain ⟨d3, hd3⟩ : ∃ d3, ns.sum.fdiv 3 = d3 := ⟨_, rfl⟩
  obtain ⟨j4, hj4⟩ : ∃ j4, d3.fmod 4 = j4 := ⟨_, rfl⟩
  obtain ⟨prime, hprime⟩ : ∃ prime : Int, [11, 13, 101, 997].getD j4.toNat 0 = prime := ⟨_, rfl⟩
  have hj4b : 0 ≤ j4 ∧ j4 < 4 := by rw [fm (by decide)] at hj4; omega
  have hlongb : 1 ≤ long ∧ long ≤ 3 := by rw [fm (by decide)] at hm3; omega
  have hlong1 := hlongb.1
  have hlong3 := hlongb.2
  have hP : Menu prime := by
    subst hprime
    have : j4.toNat = 0 ∨ j4.toNat = 1 ∨ j4.toNat = 2 ∨ j4.toNat = 3 := by omega
    rcases this with e | e | e | e <;> rw [e] <;> simp [Menu]
  have hlg : (ghost s.heap).IsList l vs.toArray := G.isList hl
  k_dflt (refine' enterC (binds := [(Str.ofString "script", .ref l)]) ?k1 ?k8 ?k6 ?k7 ?k9 ?kB ?kD ?_ ?c2 ?c3 ?c4; (case k1 => assumption); (case k6 => k_is); (case k7 => k_is); (case k8 => k_room); (case k9 => exact BindsTo.of_eq rfl); (case kB => exact rfl); (case kD => decide +kernel); (case c2 => exact rfl); (case c3 => exact rfl); (case c4 => exact rfl))
  k_whole
  intro L h₁ tk cells ps30 ps37 eL hL S F N Y
  obtain ⟨o1, o2, o3, o4, o5, o6, o7, o8, o9, hcells, d1, d2, d3, d4, d5, d6, d7, d8, d9⟩ := kc_nine Y
  subst hcells
  clear Y
  have S0 : TL s.heap (tls ps30 ps37 []) := ⟨_, _, _, rfl, S⟩
  clear S
  generalize tls ps30 ps37 [] = tl0 at N S0
  (try simp only [List.cons_append, List.nil_append] at N)
  (try dsimp only); (try k_fold)
  refine execs_four ?_
  k_steps
  all_goals try k_data
  rename Fr _ _ _ _ => F1
  rename News _ _ _ _ => N1
  rename IntsAre _ (List.take _ (_ ++ _)) => hpiece
  rename IntsAre _ (List.map _ _) => hrow
  have N2 := law_sub N1
  clear N1
  have hrowr : ∀ x ∈ List.map (fun k' => k'.fmod 3) (List.take 14 ns), 0 ≤ x ∧ x < 3 := fun x hx => by
    obtain ⟨y, _, rfl⟩ := List.mem_map.mp hx
    rw [fm (by decide)]
    omega
  have hrowl : (List.map (fun k' => k'.fmod 3) (List.take 14 ns)).length ≤ 14 := by rw [List.length_map, List.length_take]; exact Nat.min_le_left _ _
  generalize hrowe : List.map (fun k' : Int => k'.fmod 3) (List.take 14 ns) = row at *
  generalize hpce : List.take long.toNat (evens row ++ [0, 1, 2]) = piece at *
  obtain ⟨told, htold⟩ : ∃ told, rolls 3 prime long.toNat row = told := ⟨_, rfl⟩
  k_dflt (refine' L_rolled F1 N2 S0 ?Cz G ?dz hP (.inl rfl) hlong1 hlong3 ?lz hrow hrowr ?nz htold ?_)
  case Cz => ktr_rel
  case dz => ktr_room
  case lz => k_mem
  case nz => omega
  intro D1 h1 tk1 arr1 cnt1 tl1 hA1 S1 f30 f37 F2 N3 l1
  simp only [List.cons_append, List.nil_append] at N3
  simp only [AllNe] at l1
  obtain ⟨t1, t2, t3, t4, t5, t6, t7, t8, t9, t10, t11, _⟩ := l1
  have hP5 : @Ne Nat (L + 1 + 1 + 1 + 1 + 1) _ := cell_ne N3 (.tail _ (.head _)) imm_list (by k_mem) d5
  have hR5 : @Ne Nat (L + 1 + 1 + 1 + 1 + 1) _ := cell_ne N3 (.tail _ (.tail _ (.head _))) imm_list (by k_mem) d5
  clear N2 F1 S0
  k_steps
  all_goals try k_data
  refine Locked.mk ?_
  rename Fr _ _ _ _ => F5
  rename News _ _ _ _ => N5
  rename _ = Data.cell (some (Value.ref D1)) => dT
  k_dflt (refine' fn_stretches (law_stretches (T := D1) ?hoz ?hbz G S1 F5 N5 ?hTz ?hPz ?c1z ?c2z ?c3z ?c4z dT ?c6z ?c7z ?c8z ?c9z hrow hlong1 hlong3 hrowl ?nextz) ?hAz ?hsz ?hez)
  case hoz => k_is
  case hbz => exact rfl
  case hTz => exact imm_list
  case hPz => exact imm_list
  case c1z => exact d1
  case c2z => exact d2
  case c3z => exact d3
  case c4z => exact d4
  case c6z => k_asm
  case c7z => k_asm
  case c8z => k_asm
  case c9z => k_asm
  case hAz => exact rfl
  case hsz => exact rfl
  case hez => exact rfl
  case nextz =>
    intro D ys sts h' tk o4' hst c4' off4 F6 N6
    have hpcl : piece.length = long.toNat := by
      rw [← hpce, List.length_take, List.length_append]
      simp only [List.length_cons, List.length_nil]
      omega
    have hpcr : ∀ x ∈ piece, 0 ≤ x ∧ x < 3 := fun x hx => by
      rw [← hpce] at hx
      rcases List.mem_append.mp (List.mem_of_mem_take hx) with h | h
      · exact hrowr x (evens_mem h)
      · simp only [List.mem_cons, List.not_mem_nil, or_false] at h
        omega
    have N7 := news_start N6
    have hI : Imms sts := hst.imms
    have hst2 := hst.sts
    rw [← htold] at hA1 f30 f37
    k_dflt (refine' fn_stretches (law_tail (dp := dp) (un := un) (fr := fr) (gd := gd) ?ho2 ?hb2 G ?hd2 ?hu2 S1 ?I2 F6 N7 hP hlong1 hlong3 hrowl hrowr ?c82 ?c92 ?mT2 ?hT2 ?c52 ?mD2 ?hst2 c4' ?mR2 hrow ?c72 ?mP2 hpiece hpcl hpcr ?c62 ?c12 ?c22 ?c32 ?hf2 ?hE2 ?fin2) ?hA2 ?hs2 ?he2)
    case ho2 => k_is
    case hb2 => exact rfl
    case hd2 => (try dsimp only [At, Around.deeper]); omega
    case hu2 => (try dsimp only [At, Around.deeper]); omega
    case I2 => exact Imms.cons imm_lst (Imms.cons imm_list (Imms.cons imm_list (Imms.cons imm_list hI)))
    case c82 => k_asm
    case c92 => k_asm
    case mT2 => exact .tail _ (.head _)
    case hT2 => exact hA1
    case c52 => exact dT
    case mD2 => exact .head _
    case hst2 => exact hst2.more fun p hp => .tail _ (.tail _ (.tail _ (.tail _ hp)))
    case mR2 => exact .tail _ (.tail _ (.tail _ (.head _)))
    case c72 => k_asm
    case mP2 => exact .tail _ (.tail _ (.head _))
    case c62 => k_asm
    case c12 => exact d1
    case c22 => exact d2
    case c32 => exact d3
    case hf2 => exact fun h => ⟨f30 (.inr h), f37 (.inr h)⟩
    case hE2 => passes_own
    case fin2 =>
      intro h9 tk9 m9 tl9 news9 S9 F9 N9 ht9
      obtain ⟨X9, G9⟩ := TL.good (own := []) G F9 (fun p hp => N9 p (ht9 p hp)) S9
      exact ret _ _ X9 G9
    case hA2 => exact rfl
    case hs2 => exact rfl
    case he2 => exact rfl
end
section
theorem law_end {w : World} {mean mg mb} {s₁ : Shared} {cw : ClaimW} {cl : Str → Option Addr} {mn : ExcName → Option Value} {args : List WData} {h' : Heap} {tk : Nat} (X9 : Ext s₁.heap h') (G9 : Good w mean mg mb h') (hg : s₁.gens = #[]) (hr : ∀ a x, cw.raises a x = false) (hp : cw.post args (.bool true) args = true) :
    GoodW cw cl mn args { s₁ with heap := ghostOf s₁.heap [(34, 30), (41, 37)] } (.ok (.ret (.bool true))) { s₁ with heap := h', toks := tk } ∧ GrownAll [(34, 30), (41, 37)] h' := by
  refine ⟨⟨.inl ⟨.bool true, .bool true, [], rfl, fun _ => hr _ _, .bool true, hp, fun _ => ⟨.nil, fun a h => nomatch h⟩⟩, fun b o e => X9.ghost b o e, rfl, hg⟩, ?_, ?_, trivial⟩
  · rcases G9.t30 with e | ⟨a, e, _⟩ <;> exact ⟨_, e⟩
  · rcases G9.t37 with e | ⟨a, e, _⟩ <;> exact ⟨_, e⟩
end
end Mine
theorem PySem.Challenge.cw_hq0002_01_holds : PySem.Challenge.rw_hq0002_01.Holds := by
  refine Mine.hd ?_
  k_fill
  intro w s₀ s₁ mg mb G Y fa o pm cd doc dV kV ho hd hcd hD hmg hg args vals as hpre hlay hrd hwl hlo
  have KX := km_in_of Y
  km_tabs Y
  refine Ground.open G ?_
  intro T B D TE TW
  have hmg2 := hmg
  km_lay T hmg ho hd cd
  have hfa : fa = 93 := by
    have e1 := mg_of (n := Str.ofString "law") (v := .ref 93) KX (Top.g T) (by kernel_rfl)
    have e2 := hmg2.symm.trans e1
    cases e2
    rfl
  subst hfa
  clear hmg hmg2
  wrow_args hpre hlay hrd hwl hlo
  refine enter_call ?_
  have hTT := T
  rename Heap.IsList _ _ _ => hL
  rename IntsAre _ _ => hI
  rename ¬ ((63 : Nat) : Int) < _ => h63
  have GG : Mine.Good w (ExcName.means s₀.heap) mg mb s₁.heap := ⟨⟨ghost_K hT9 KX (by kernel_rfl), ghost_top hT9 T, (ghost_code hT9).1, (ghost_code hT9).2.1⟩, .inl (hT8 30 (by simp)), .inl (hT8 37 (by simp))⟩
  kn_posts
  refine Mine.law_ok (dp := 1 + claimMargin) (un := 4) (fr := some []) (gd := some []) GG (by decide) (by decide) hL hI (by omega) fun h' tk X9 G9 => ?_
  refine Mine.law_end X9 G9 hg (fun _ _ => rfl) ?_
  first | with_unfolding_all rfl | decide | kernel_rfl | wrow_close | simp
