import PyProof.Rows.All
import Wide.All
import OpenK.AllK
import Wide.FinOn
import PySem.Challenge.RW_wv0009_01
open PySem PySem.Calls PySem.W PyProof.Rows
set_option Elab.async false
set_option maxRecDepth 100000
set_option compiler.extract_closed false
set_option linter.unusedVariables false
set_option linter.unusedSimpArgs false
namespace Mine
-- part F0

section

/-- no exception -/
abbrev No : Value → Shared → Prop := fun _ _ => False

/-- the heap h' holds all that h held -/
def Ex (h h' : Heap) : Prop := ∀ b o, h.get? b = some o → h'.get? b = some o
theorem Ex.rfl {h : Heap} : Ex h h := fun _ _ e => e
theorem Ex.trans {h h' h'' : Heap} (x : Ex h h') (y : Ex h' h'') : Ex h h'' := fun b o e => y b o (x b o e)
theorem Ex.push {h h' : Heap} (x : Ex h h') (o : Obj) : Ex h (h'.push o) := fun b o' e => Heap.get?_push_of_some o (x b o' e)
theorem Ex.new {h h' : Heap} (x : Ex h h') {a : Addr} (hn : h'.get? a = none) : h.get? a = none := by
  cases e : h.get? a with
  | none => rfl
  | some o => rw [x a o e] at hn; cases hn
theorem next_none (h : Heap) : h.get? h.objs.size = none := by
  cases e : h.get? h.objs.size with
  | none => rfl
  | some o => exact absurd (Heap.lt_size e) (Nat.lt_irrefl _)

/-- an address that was not yet, seen from h -/
def Fresh (h : Heap) (a : Addr) : Prop := ∃ h', Ex h h' ∧ a = h'.objs.size
theorem Fresh.none {h : Heap} {a : Addr} (x : Fresh h a) : h.get? a = none := by
  obtain ⟨h', k, rfl⟩ := x
  exact k.new (next_none _)
theorem Fresh.sys {h : Heap} {a : Addr} (x : Fresh h a) (g : ∃ o, h.get? mainGlobals = some o) : (a == sysModules) = false := by
  obtain ⟨h', k, rfl⟩ := x
  obtain ⟨o, e⟩ := g
  have h1 : mainGlobals < h'.objs.size := Heap.lt_size (k _ _ e)
  have h2 : sysModules < mainGlobals := by decide
  exact beq_eq_false_iff_ne.mpr (Nat.ne_of_gt (Nat.lt_trans h2 h1))
theorem Fresh.up {h h' : Heap} {a : Addr} (k : Ex h h') (x : Fresh h' a) : Fresh h a := let ⟨h'', k', e⟩ := x; ⟨h'', k.trans k', e⟩
theorem Fresh.size (h : Heap) : Fresh h h.objs.size := ⟨h, Ex.rfl, Eq.refl _⟩

/-- the state of a frame: its locals, its cells, what stands from before (Base), what it made and never turns again (olds), what it made and may turn (news);
    ps: addresses that no made object may bear; qs: nor an old one. -/
structure Cx (H₀ : Heap) (Base : Addr → Obj → Prop) (env : Env) (oc : List Str) (ps qs : List Addr) (m cm : Str → Option Value) (olds news : List (Addr × Obj)) (h : Heap) : Prop where
  top : ∀ b o, H₀.get? b = some o → Base b o
  ns : h.Ns env.locals m
  base : ∀ b o, Base b o → h.get? b = some o
  baseL : ∀ o, ¬ Base env.locals o
  cell : ∀ n c, env.cells.lookup n = some c → h.IsCell c (cm n)
  cellL : ∀ n c, env.cells.lookup n = some c → c ≠ env.locals
  apart : ∀ n c n', env.cells.lookup n = some c → env.cells.lookup n' = some c → n = n'
  ownc : ∀ n c, n ∈ oc → env.cells.lookup n = some c → ∀ o, ¬ Base c o
  old : ∀ p ∈ olds, h.get? p.1 = some p.2 ∧ p.1 ≠ env.locals ∧ (∀ n c, n ∈ oc → env.cells.lookup n = some c → p.1 ≠ c) ∧ p.1 ∉ qs
  new : ∀ p ∈ news, h.get? p.1 = some p.2 ∧ p.1 ≠ env.locals ∧ (∀ n c, env.cells.lookup n = some c → p.1 ≠ c) ∧ (∀ o, ¬ Base p.1 o) ∧ p.1 ∉ ps
  sep : ∀ p ∈ olds, ∀ q ∈ news, p.1 ≠ q.1
  nodup : (news.map (·.1)).Nodup
  psLive : ∀ b ∈ ps, (∃ o, h.get? b = some o) ∧ b ≠ env.locals ∧ (∀ n c, n ∈ oc → env.cells.lookup n = some c → b ≠ c)
  qsPs : ∀ b ∈ qs, b ∈ ps

section
variable {H₀ : Heap} {Base : Addr → Obj → Prop} {env : Env} {oc : List Str} {ps qs : List Addr} {m cm : Str → Option Value} {olds news : List (Addr × Obj)} {h h' : Heap}

theorem IsCell_at {h h' : Heap} {c : Addr} {v : Option Value} (x : h.IsCell c v) (k : ∀ o, h.get? c = some o → h'.get? c = some o) : h'.IsCell c v :=
  let ⟨o, ho, hd⟩ := x; ⟨o, k o ho, hd⟩

theorem Cx.get_old (C : Cx H₀ Base env oc ps qs m cm olds news h) {a : Addr} {o : Obj} (hm : (a, o) ∈ olds) : h.get? a = some o := (C.old _ hm).1
theorem Cx.get_new (C : Cx H₀ Base env oc ps qs m cm olds news h) {a : Addr} {o : Obj} (hm : (a, o) ∈ news) : h.get? a = some o := (C.new _ hm).1
theorem Cx.lt (C : Cx H₀ Base env oc ps qs m cm olds news h) : env.locals < h.objs.size := C.ns.lt
theorem Cx.hTop (C : Cx H₀ Base env oc ps qs m cm olds news h) : Ex H₀ h := fun b o e => C.base b o (C.top b o e)

theorem Cx.keeps (C : Cx H₀ Base env oc ps qs m cm olds news h) (k : Ex h h') : Cx H₀ Base env oc ps qs m cm olds news h' where
  top := C.top
  ns := C.ns.keeps k
  base := fun b o e => k b o (C.base b o e)
  baseL := C.baseL
  cell := fun n c e => (C.cell n c e).keeps k
  cellL := C.cellL
  apart := C.apart
  ownc := C.ownc
  old := fun p hp => ⟨k _ _ (C.old p hp).1, (C.old p hp).2⟩
  new := fun p hp => ⟨k _ _ (C.new p hp).1, (C.new p hp).2⟩
  sep := C.sep
  nodup := C.nodup
  psLive := fun b hb => ⟨let ⟨o, e⟩ := (C.psLive b hb).1; ⟨o, k _ _ e⟩, (C.psLive b hb).2⟩
  qsPs := C.qsPs

/-- an address that was free is apart from all -/
theorem Cx.free (C : Cx H₀ Base env oc ps qs m cm olds news h) {a : Addr} (hn : h.get? a = none) :
    a ≠ env.locals ∧ (∀ n c, env.cells.lookup n = some c → a ≠ c) ∧ (∀ o, ¬ Base a o) ∧ a ∉ ps ∧ (∀ p ∈ olds, p.1 ≠ a) ∧ (∀ p ∈ news, p.1 ≠ a) := by
  refine ⟨?_, ?_, ?_, ?_, ?_, ?_⟩
  · rintro rfl
    obtain ⟨o, _, _, e, _⟩ := C.ns
    rw [hn] at e; cases e
  · rintro n c e rfl
    obtain ⟨o, e', _⟩ := C.cell n a e
    rw [hn] at e'; cases e'
  · intro o e
    have := C.base a o e
    rw [hn] at this; cases this
  · intro hp
    obtain ⟨⟨o, e⟩, _⟩ := C.psLive a hp
    rw [hn] at e; cases e
  · rintro p hp rfl
    have := (C.old p hp).1
    rw [hn] at this; cases this
  · rintro p hp rfl
    have := (C.new p hp).1
    rw [hn] at this; cases this

theorem Cx.addOld (C : Cx H₀ Base env oc ps qs m cm olds news h) (k : Ex h h') {a : Addr} {o : Obj} (hn : h.get? a = none) (ha : h'.get? a = some o) :
    Cx H₀ Base env oc ps qs m cm ((a, o) :: olds) news h' := by
  obtain ⟨f1, f2, f3, f4, f5, f6⟩ := C.free hn
  have C' := C.keeps k
  refine { C' with old := ?_, sep := ?_ }
  · intro p hp
    rcases List.mem_cons.mp hp with rfl | hp
    · exact ⟨ha, f1, fun n c _ e => f2 n c e, fun hq => f4 (C.qsPs _ hq)⟩
    · exact C'.old p hp
  · intro p hp q hq
    rcases List.mem_cons.mp hp with rfl | hp
    · exact Ne.symm (f6 q hq)
    · exact C'.sep p hp q hq

theorem Cx.addNew (C : Cx H₀ Base env oc ps qs m cm olds news h) (k : Ex h h') {a : Addr} {o : Obj} (hn : h.get? a = none) (ha : h'.get? a = some o) :
    Cx H₀ Base env oc ps qs m cm olds ((a, o) :: news) h' := by
  obtain ⟨f1, f2, f3, f4, f5, f6⟩ := C.free hn
  have C' := C.keeps k
  refine { C' with new := ?_, sep := ?_, nodup := ?_ }
  · intro p hp
    rcases List.mem_cons.mp hp with rfl | hp
    · exact ⟨ha, f1, f2, f3, f4⟩
    · exact C'.new p hp
  · intro p hp q hq
    rcases List.mem_cons.mp hq with rfl | hq
    · exact f5 p hp
    · exact C'.sep p hp q hq
  · rw [List.map_cons, List.nodup_cons]
    refine ⟨fun hm => ?_, C'.nodup⟩
    obtain ⟨p, hp, e⟩ := List.mem_map.mp hm
    exact f6 p hp e

theorem Cx.freeze {a : Addr} {o : Obj} {l₁ l₂ : List (Addr × Obj)} (C : Cx H₀ Base env oc ps qs m cm olds (l₁ ++ (a, o) :: l₂) h) : Cx H₀ Base env oc ps qs m cm ((a, o) :: olds) (l₁ ++ l₂) h := by
  have hmem : (a, o) ∈ l₁ ++ (a, o) :: l₂ := List.mem_append_right _ List.mem_cons_self
  have hsub : ∀ p ∈ l₁ ++ l₂, p ∈ l₁ ++ (a, o) :: l₂ := fun p hp => (List.mem_append.mp hp).elim (fun x => List.mem_append_left _ x) fun x => List.mem_append_right _ (List.mem_cons_of_mem _ x)
  have hnd := C.nodup
  rw [List.map_append, List.map_cons] at hnd
  have hnd' := List.nodup_append.mp hnd
  have hnd2 := List.nodup_cons.mp hnd'.2.1
  refine { C with old := ?_, new := fun p hp => C.new p (hsub p hp), sep := ?_, nodup := ?_ }
  · intro p hp
    rcases List.mem_cons.mp hp with rfl | hp
    · have x := C.new _ hmem
      exact ⟨x.1, x.2.1, fun n c _ e => x.2.2.1 n c e, fun hq => x.2.2.2.2 (C.qsPs _ hq)⟩
    · exact C.old p hp
  · intro p hp q hq
    rcases List.mem_cons.mp hp with rfl | hp
    · rcases List.mem_append.mp hq with hq | hq
      · exact fun e => hnd'.2.2 q.1 (List.mem_map_of_mem hq) a List.mem_cons_self (by exact e.symm)
      · exact fun e => hnd2.1 (List.mem_map.mpr ⟨q, hq, (show a = q.1 from e).symm⟩)
    · exact C.sep p hp q (hsub q hq)
  · rw [List.map_append]
    refine List.nodup_append.mpr ⟨hnd'.1, hnd2.2, fun x hx y hy => hnd'.2.2 x hx y (List.mem_cons_of_mem _ hy)⟩

theorem Cx.sub {olds' news' : List (Addr × Obj)} (C : Cx H₀ Base env oc ps qs m cm olds news h) (ho : ∀ p ∈ olds', p ∈ olds) (hn : news'.Sublist news) : Cx H₀ Base env oc ps qs m cm olds' news' h :=
  { C with old := fun p hp => C.old p (ho p hp), new := fun p hp => C.new p (hn.subset hp), sep := fun p hp q hq => C.sep p (ho p hp) q (hn.subset hq), nodup := C.nodup.sublist (hn.map _) }

/-- the locals' dict has turned -/
theorem Cx.setLoc {m' : Str → Option Value} (C : Cx H₀ Base env oc ps qs m cm olds news h) (hn : h'.Ns env.locals m') (hs : Heap.SameBut env.locals h h') : Cx H₀ Base env oc ps qs m' cm olds news h' where
  top := C.top
  ns := hn
  base := fun b o e => hs.extBut b o (fun q => C.baseL o (q ▸ e)) (C.base b o e)
  baseL := C.baseL
  cell := fun n c e => IsCell_at (C.cell n c e) fun o x => hs.extBut c o (C.cellL n c e) x
  cellL := C.cellL
  apart := C.apart
  ownc := C.ownc
  old := fun p hp => ⟨hs.extBut _ _ (C.old p hp).2.1 (C.old p hp).1, (C.old p hp).2⟩
  new := fun p hp => ⟨hs.extBut _ _ (C.new p hp).2.1 (C.new p hp).1, (C.new p hp).2⟩
  sep := C.sep
  nodup := C.nodup
  psLive := fun b hb => ⟨let ⟨o, e⟩ := (C.psLive b hb).1; ⟨o, hs.extBut _ _ (C.psLive b hb).2.1 e⟩, (C.psLive b hb).2⟩
  qsPs := C.qsPs

theorem Cx.setCell {n : Str} {c : Addr} {v : Option Value} (C : Cx H₀ Base env oc ps qs m cm olds news h) (hoc : n ∈ oc) (hc : env.cells.lookup n = some c) (hv : h'.IsCell c v) (hs : Heap.SameBut c h h') :
    Cx H₀ Base env oc ps qs m (fun y => if y = n then v else cm y) olds news h' where
  top := C.top
  ns := C.ns.sameBut hs (Ne.symm (C.cellL n c hc))
  base := fun b o e => hs.extBut b o (fun q => C.ownc n c hoc hc o (q ▸ e)) (C.base b o e)
  baseL := C.baseL
  cell := fun n' c' e => by
    by_cases hn : n' = n
    · subst hn; rw [hc] at e; cases e; simpa using hv
    · rw [if_neg hn]
      exact (C.cell n' c' e).sameBut hs fun q => hn (C.apart n' c' n e (q ▸ hc))
  cellL := C.cellL
  apart := C.apart
  ownc := C.ownc
  old := fun p hp => ⟨hs.extBut _ _ ((C.old p hp).2.2.1 n c hoc hc) (C.old p hp).1, (C.old p hp).2⟩
  new := fun p hp => ⟨hs.extBut _ _ ((C.new p hp).2.2.1 n c hc) (C.new p hp).1, (C.new p hp).2⟩
  sep := C.sep
  nodup := C.nodup
  psLive := fun b hb => ⟨let ⟨o, e⟩ := (C.psLive b hb).1; ⟨o, hs.extBut _ _ ((C.psLive b hb).2.2 n c hoc hc) e⟩, (C.psLive b hb).2⟩
  qsPs := C.qsPs

theorem Cx.upd {d : Addr} {o o' : Obj} {l₁ l₂ : List (Addr × Obj)} (C : Cx H₀ Base env oc ps qs m cm olds (l₁ ++ (d, o) :: l₂) h) (hs : Heap.ExtBut d h h') (ho : h'.get? d = some o') :
    Cx H₀ Base env oc ps qs m cm olds (l₁ ++ (d, o') :: l₂) h' := by
  have hmem : (d, o) ∈ l₁ ++ (d, o) :: l₂ := List.mem_append_right _ List.mem_cons_self
  have x := C.new _ hmem
  have hnd := C.nodup
  rw [List.map_append, List.map_cons] at hnd
  have hnd' := List.nodup_append.mp hnd
  have hnd2 := List.nodup_cons.mp hnd'.2.1
  refine ⟨C.top, ?_, ?_, C.baseL, ?_, C.cellL, C.apart, C.ownc, ?_, ?_, ?_, ?_, ?_, C.qsPs⟩
  · exact C.ns.extBut hs (Ne.symm x.2.1)
  · exact fun b ob e => hs b ob (fun q => x.2.2.2.1 ob (q ▸ e)) (C.base b ob e)
  · exact fun n c e => IsCell_at (C.cell n c e) fun ob y => hs c ob (fun q => x.2.2.1 n c e q.symm) y
  · intro p hp
    exact ⟨hs _ _ (C.sep p hp _ hmem) (C.old p hp).1, (C.old p hp).2⟩
  · intro p hp
    rcases List.mem_append.mp hp with hp | hp
    · have y := C.new p (List.mem_append_left _ hp)
      exact ⟨hs _ _ (fun e => hnd'.2.2 p.1 (List.mem_map_of_mem hp) d List.mem_cons_self e) y.1, y.2⟩
    · rcases List.mem_cons.mp hp with rfl | hp
      · exact ⟨ho, x.2⟩
      · have y := C.new p (List.mem_append_right _ (List.mem_cons_of_mem _ hp))
        exact ⟨hs _ _ (fun e => hnd2.1 (List.mem_map.mpr ⟨p, hp, e⟩)) y.1, y.2⟩
  · intro p hp q hq
    rcases List.mem_append.mp hq with hq | hq
    · exact C.sep p hp q (List.mem_append_left _ hq)
    · rcases List.mem_cons.mp hq with rfl | hq
      · exact C.sep p hp (d, o) hmem
      · exact C.sep p hp q (List.mem_append_right _ (List.mem_cons_of_mem _ hq))
  · rw [List.map_append, List.map_cons]; exact hnd
  · intro b hb
    obtain ⟨⟨ob, e⟩, r⟩ := C.psLive b hb
    exact ⟨⟨ob, hs b ob (fun q => x.2.2.2.2 (q ▸ hb)) e⟩, r⟩

theorem Cx.weaken {Base' : Addr → Obj → Prop} {ps' qs' : List Addr} (C : Cx H₀ Base' env oc ps' qs' m cm olds news h) (top : ∀ b o, H₀.get? b = some o → Base b o) (hb : ∀ b o, Base b o → Base' b o)
    (hps : ∀ b ∈ ps, b ∈ ps') (hqs : ∀ b ∈ qs, b ∈ qs') (hqp : ∀ b ∈ qs, b ∈ ps) : Cx H₀ Base env oc ps qs m cm olds news h where
  top := top
  ns := C.ns
  base := fun b o e => C.base b o (hb b o e)
  baseL := fun o e => C.baseL o (hb _ o e)
  cell := C.cell
  cellL := C.cellL
  apart := C.apart
  ownc := fun n c h1 h2 o e => C.ownc n c h1 h2 o (hb _ o e)
  old := fun p hp => let x := C.old p hp; ⟨x.1, x.2.1, x.2.2.1, fun hq => x.2.2.2 (hqs _ hq)⟩
  new := fun p hp => let x := C.new p hp; ⟨x.1, x.2.1, x.2.2.1, fun o e => x.2.2.2.1 o (hb _ o e), fun hq => x.2.2.2.2 (hps _ hq)⟩
  sep := C.sep
  nodup := C.nodup
  psLive := fun b hb => C.psLive b (hps b hb)
  qsPs := hqp

/-- what is no frame's own -/
def Off (env : Env) (oc : List Str) (news : List (Addr × Obj)) (b : Addr) : Prop := b ≠ env.locals ∧ (∀ n c, n ∈ oc → env.cells.lookup n = some c → b ≠ c) ∧ (∀ p ∈ news, p.1 ≠ b)
def OffBase (env : Env) (oc : List Str) (news : List (Addr × Obj)) (h : Heap) : Addr → Obj → Prop := fun b o => h.get? b = some o ∧ Off env oc news b

theorem Cx.baseOff (C : Cx H₀ Base env oc ps qs m cm olds news h) : ∀ b o, Base b o → OffBase env oc news h b o := fun b o e =>
  ⟨C.base b o e, fun q => C.baseL o (q ▸ e), fun n c h1 h2 q => C.ownc n c h1 h2 o (q ▸ e), fun p hp q => (C.new p hp).2.2.2.1 o (q ▸ e)⟩
theorem Cx.oldOff (C : Cx H₀ Base env oc ps qs m cm olds news h) : ∀ p ∈ olds, OffBase env oc news h p.1 p.2 := fun p hp =>
  let x := C.old p hp; ⟨x.1, x.2.1, x.2.2.1, fun q hq e => C.sep p hp q hq e.symm⟩

/-- all that is not the frame's own becomes the base; fp are addresses that are not the frame's own, wr those of them that turn between the turns -/
theorem Cx.rebase {fp wr : List Addr} (C : Cx H₀ Base env oc ps qs m cm olds news h) (hfp : ∀ b ∈ fp, (∃ o, h.get? b = some o) ∧ Off env oc news b) (hsub : ∀ b ∈ wr, b ∈ fp) (hwr : ∀ p ∈ olds, p.1 ∉ wr) :
    Cx H₀ (OffBase env oc news h) env oc (fp ++ ps) (wr ++ qs) m cm olds news h where
  top := fun b o e => C.baseOff b o (C.top b o e)
  ns := C.ns
  base := fun b o e => e.1
  baseL := fun o e => e.2.1 rfl
  cell := C.cell
  cellL := C.cellL
  apart := C.apart
  ownc := fun n c h1 h2 o e => e.2.2.1 n c h1 h2 rfl
  old := fun p hp => let x := C.old p hp; ⟨x.1, x.2.1, x.2.2.1, fun hq => (List.mem_append.mp hq).elim (hwr p hp) x.2.2.2⟩
  new := fun p hp => let x := C.new p hp; ⟨x.1, x.2.1, x.2.2.1, fun o e => e.2.2.2 p hp rfl, fun hq => (List.mem_append.mp hq).elim (fun hf => (hfp _ hf).2.2.2 p hp rfl) x.2.2.2.2⟩
  sep := C.sep
  nodup := C.nodup
  psLive := fun b hb => (List.mem_append.mp hb).elim (fun hf => ⟨(hfp b hf).1, (hfp b hf).2.1, (hfp b hf).2.2.1⟩) fun hp => C.psLive b hp
  qsPs := fun b hb => (List.mem_append.mp hb).elim (fun hf => List.mem_append_left _ (hsub b hf)) fun hp => List.mem_append_right _ (C.qsPs b hp)

/-- a foreign step (an iterator's) that turns only wr -/
theorem Cx.foreign {wr : List Addr} (C : Cx H₀ Base env oc ps qs m cm olds news h) (hk : ∀ b o, b ∉ wr → h.get? b = some o → h'.get? b = some o) (hw : ∀ b ∈ wr, b ≠ env.locals ∧ (∀ n c, env.cells.lookup n = some c → b ≠ c) ∧ (∀ o, ¬ Base b o) ∧ (∀ p ∈ olds, p.1 ≠ b) ∧ (∀ p ∈ news, p.1 ≠ b))
    (hp : ∀ b ∈ ps, ∃ o, h'.get? b = some o) : Cx H₀ Base env oc ps qs m cm olds news h' where
  top := C.top
  ns := C.ns.at' fun o e => hk _ o (fun hb => (hw _ hb).1 rfl) e
  base := fun b o e => hk b o (fun hb => (hw _ hb).2.2.1 o e) (C.base b o e)
  baseL := C.baseL
  cell := fun n c e => IsCell_at (C.cell n c e) fun o x => hk c o (fun hb => (hw _ hb).2.1 n c e rfl) x
  cellL := C.cellL
  apart := C.apart
  ownc := C.ownc
  old := fun p hp => ⟨hk _ _ (fun hb => (hw _ hb).2.2.2.1 p hp rfl) (C.old p hp).1, (C.old p hp).2⟩
  new := fun p hp => ⟨hk _ _ (fun hb => (hw _ hb).2.2.2.2 p hp rfl) (C.new p hp).1, (C.new p hp).2⟩
  sep := C.sep
  nodup := C.nodup
  psLive := fun b hb => ⟨hp b hb, (C.psLive b hb).2⟩
  qsPs := C.qsPs
end

end
-- part F1

section
section
variable {prog : Program} {w : World} {A : Around} {H₀ : Heap} {Base : Addr → Obj → Prop} {env : Env} {oc : List Str} {ps qs : List Addr} {m cm : Str → Option Value} {olds news : List (Addr × Obj)}

/-- the state behind a turn -/
def TurnEnd (H₀ : Heap) (Base : Addr → Obj → Prop) (env : Env) (oc : List Str) (ps qs : List Addr) (J : (Str → Option Value) → (Str → Option Value) → List (Addr × Obj) → List (Addr × Obj) → Prop) (s s₃ : Shared) : Prop :=
  ∃ h' tk' m' cm' olds' news', s₃ = { s with heap := h', toks := tk' } ∧ Cx H₀ Base env oc ps qs m' cm' olds' news' h' ∧ J m' cm' olds' news'
theorem TurnEnd.intro {J : (Str → Option Value) → (Str → Option Value) → List (Addr × Obj) → List (Addr × Obj) → Prop} {s : Shared} {h' : Heap} {tk' : Nat} (C : Cx H₀ Base env oc ps qs m cm olds news h') (j : J m cm olds news) :
    TurnEnd H₀ Base env oc ps qs J s { s with heap := h', toks := tk' } := ⟨h', tk', m, cm, olds, news, rfl, C, j⟩
def FlowPost (R : Result → Shared → Prop) (TE : Shared → Prop) (f : Flow) (s : Shared) : Prop :=
  match f with
  | .ret v => R (.ok (.ret v)) s
  | .brk => R (.ok .next) s
  | _ => TE s

theorem for_turns {target : Expr} {body : List Stmt} {R : Result → Shared → Prop} {I : Addr} {fp wr : List Addr} {n : Nat} {P Md : Nat → Value → Heap → Prop} {St : Nat → Heap → Prop} {s : Shared}
    (W : KTurns prog w A target I fp wr n P Md St) (hlv : ∀ i h, St i h → ∀ b ∈ fp, ∃ o, h.get? b = some o) (hst : St 0 s.heap)
    (C : Cx H₀ Base env oc ps qs m cm olds news s.heap)
    (hfp : ∀ b ∈ fp, Off env oc news b)
    (hwr : ∀ b ∈ wr, (∀ n c, env.cells.lookup n = some c → b ≠ c) ∧ (∀ o, ¬ Base b o) ∧ (∀ p ∈ olds, p.1 ≠ b) ∧ b ∉ ps)
    (J : Nat → (Str → Option Value) → (Str → Option Value) → List (Addr × Obj) → List (Addr × Obj) → Prop) (h0 : J 0 m cm olds news)
    (step : ∀ i v m₁ cm₁ olds₁ news₁ h₁ tk₁ Base₁, i < n → s.toks ≤ tk₁ → P i v h₁ → J i m₁ cm₁ olds₁ news₁ → (∀ b o, Base b o → Base₁ b o) → (∀ b o, OffBase env oc news₁ h₁ b o → Base₁ b o) →
      Cx H₀ Base₁ env oc (fp ++ ps) (wr ++ qs) m₁ cm₁ olds₁ news₁ h₁ →
      wpAny (model prog w) A (assign target env v) (fun _ s₂ => wpAny (model prog w) A (execs body env)
        (FlowPost R (TurnEnd H₀ Base₁ env oc (fp ++ ps) (wr ++ qs) (J (i + 1)) s)) No s₂) No { s with heap := h₁, toks := tk₁ })
    (hR : ∀ h' tk' m' cm' olds' news', s.toks ≤ tk' → Cx H₀ Base env oc ps qs m' cm' olds' news' h' → J n m' cm' olds' news' → R (.ok .next) { s with heap := h', toks := tk' }) :
    codeAny (model prog w) A (.forLoop target (.ref I) body [] env) R s := by
  have hnever : ∀ (e : Value) (s' : Shared), No e s' → notedBy (model prog w) A env (fun e s' => R (.error e) s') e s' := fun _ _ x => x.elim
  have start : Cx H₀ Base env oc (fp ++ ps) (wr ++ qs) m cm olds news s.heap := by
    have C' := C.rebase (fp := fp) (wr := wr) (fun b hb => ⟨hlv 0 _ hst b hb, hfp b hb⟩) W.sub (fun p hp hb => (hwr _ hb).2.2.1 p hp rfl)
    exact C'.weaken C.top C.baseOff (fun _ x => x) (fun _ x => x) C'.qsPs
  refine codeAny_forLoop_any
    (fun k s' => ∃ h' tk' m' cm' olds' news' i, s' = { s with heap := h', toks := tk' } ∧ St i h' ∧ Cx H₀ Base env oc (fp ++ ps) (wr ++ qs) m' cm' olds' news' h' ∧ J i m' cm' olds' news' ∧ i ≤ n ∧ k = n + 1 - i ∧ s.toks ≤ tk') ?_ (n + 1)
    ⟨s.heap, s.toks, m, cm, olds, news, 0, rfl, hst, start, h0, Nat.zero_le _, rfl, Nat.le_refl _⟩
  rintro k s' ⟨h', tk', m', cm', olds', news', i, rfl, hst', C', hJ, hi, rfl, htk⟩
  have hw : ∀ b ∈ wr, b ≠ env.locals ∧ (∀ n c, env.cells.lookup n = some c → b ≠ c) ∧ (∀ o, ¬ Base b o) ∧ (∀ p ∈ olds', p.1 ≠ b) ∧ (∀ p ∈ news', p.1 ≠ b) := fun b hb =>
    ⟨(hfp b (W.sub b hb)).1, (hwr b hb).1, (hwr b hb).2.1, fun p hp e => (C'.old p hp).2.2.2 (List.mem_append_left _ (e ▸ hb)), fun p hp e => (C'.new p hp).2.2.2.2 (List.mem_append_left _ (e ▸ W.sub b hb))⟩
  by_cases hlt : i < n
  · refine wpAny_with_toks (n := s.toks) htk (W.item i _ _ _ hlt hst' fun v h₁ tk₁ hMd hk₁ htk₁ => ?_)
    refine W.go i v _ _ _ hMd fun h₂ hP hst₂ hk₂ => ?_
    have C₂ : Cx H₀ Base env oc (fp ++ ps) (wr ++ qs) m' cm' olds' news' h₂ :=
      C'.foreign (fun b o hb e => hk₂ b o hb (hk₁ b o hb e)) hw fun b hb => (List.mem_append.mp hb).elim (fun hf => hlv _ _ hst₂ b hf) fun hp =>
        let ⟨o, e⟩ := (C'.psLive b hb).1; ⟨o, hk₂ b o (fun hb' => (hwr b hb').2.2.2 hp) (hk₁ b o (fun hb' => (hwr b hb').2.2.2 hp) e)⟩
    have C₃ := C₂.rebase (fp := []) (wr := []) (fun b hb => nomatch hb) (fun b hb => nomatch hb) (fun p hp hb => nomatch hb)
    refine wpAny_mono (wpAny_toks_of (n := s.toks) htk₁ (step i v m' cm' olds' news' h₂ tk₁ _ hlt htk₁ hP hJ C₂.baseOff (fun _ _ x => x) C₃)) (fun _ s₂ h₂' => wpAny_mono (wpAny_toks_of h₂'.1 h₂'.2) (fun f s₃ h₃ => ?_) fun e s' x => hnever e s' x.2) fun e s' x => hnever e s' x.2
    obtain ⟨htk₃, h₃⟩ := h₃
    have fin : TurnEnd H₀ (OffBase env oc news' h₂) env oc (fp ++ ps) (wr ++ qs) (J (i + 1)) s s₃ → ∃ m, m < n + 1 - i ∧ ∃ h' tk' m' cm' olds' news' i, s₃ = { s with heap := h', toks := tk' } ∧ St i h' ∧ Cx H₀ Base env oc (fp ++ ps) (wr ++ qs) m' cm' olds' news' h' ∧ J i m' cm' olds' news' ∧ i ≤ n ∧ m = n + 1 - i ∧ s.toks ≤ tk' := by
      rintro ⟨h₄, tk₄, m₄, cm₄, olds₄, news₄, rfl, C₄, j₄⟩
      refine ⟨n + 1 - (i + 1), by (first | lia | omega), h₄, tk₄, m₄, cm₄, olds₄, news₄, i + 1, rfl, ?_, ?_, j₄, hlt, rfl, htk₃⟩
      · refine W.frame _ _ _ hst₂ fun b hb o e => C₄.base b o ⟨e, ?_⟩
        exact ⟨(hfp b hb).1, (hfp b hb).2.1, fun p hp q => (C₂.new p hp).2.2.2.2 (List.mem_append_left _ (q ▸ hb))⟩
      · exact C₄.weaken C.top C₂.baseOff (fun _ x => x) (fun _ x => x) C₂.qsPs
    cases f with
    | ret v => exact h₃
    | brk => exact h₃
    | cont => exact fin h₃
    | next => exact fin h₃
  · have hin : i = n := by (first | lia | omega)
    subst hin
    refine wpAny_with_toks (n := s.toks) htk (W.done _ _ _ hst' fun h₁ tk₁ hk₁ htk₁ => wpAny_execs_nil ?_)
    refine hR h₁ tk₁ m' cm' olds' news' htk₁ ?_ hJ
    have C'' : Cx H₀ Base env oc ps qs m' cm' olds' news' h' := C'.weaken C.top (fun _ _ x => x) (fun _ hb => List.mem_append_right _ hb) (fun _ hb => List.mem_append_right _ hb) C.qsPs
    exact C''.foreign hk₁ hw fun b hb => let ⟨o, e⟩ := (C''.psLive b hb).1; ⟨o, hk₁ b o (fun hb' => (hwr b hb').2.2.2 hb) e⟩
end

end
-- part F2

section

/-- one turn of a comprehension -/
def compT (target iter : Expr) (ifs : List Expr) (emit : Sem Unit) (it : Value) (env : Env) (next : Code) : Sem Fin := do
  standAt iter.pos
  match ← pyNext it with
  | none => pure (.done .next)
  | some v =>
    letOwnedTupleGo target it v
    assign target env v
    let mut ok := true
    for c in ifs do
      if ok then ok ← isTrue c env (eval c env)
    if ok then emit
    again next

abbrev testsOf (ifs : List Expr) (env : Env) : Sem Bool := forIn ifs true fun c r => if r = true then do let ok ← isTrue c env (eval c env); pure (ForInStep.yield ok) else pure (ForInStep.yield r)

section
variable {prog : Program} {w : World} {A : Around} {H₀ : Heap} {Base : Addr → Obj → Prop} {env : Env} {oc : List Str} {ps qs : List Addr} {m cm : Str → Option Value} {olds news : List (Addr × Obj)}

theorem comp_turns {c : Code} {target iter : Expr} {ifs : List Expr} {emit : Sem Unit} {R : Result → Shared → Prop} {I : Addr} {fp wr : List Addr} {n : Nat} {P Md : Nat → Value → Heap → Prop} {St : Nat → Heap → Prop} {s : Shared}
    (hq : c.quiet = true) (hu : A.under c = A) (hden : denote table c = (compT target iter ifs emit (.ref I) env c).onRaise (fun x => do noteFrame x env; theTreesLotGoes x))
    (W : KTurns prog w A target I fp wr n P Md St) (hlv : ∀ i h, St i h → ∀ b ∈ fp, ∃ o, h.get? b = some o) (hst : St 0 s.heap)
    (C : Cx H₀ Base env oc ps qs m cm olds news s.heap)
    (hfp : ∀ b ∈ fp, Off env oc news b)
    (hwr : ∀ b ∈ wr, (∀ n c, env.cells.lookup n = some c → b ≠ c) ∧ (∀ o, ¬ Base b o) ∧ (∀ p ∈ olds, p.1 ≠ b) ∧ b ∉ ps)
    (J : Nat → (Str → Option Value) → (Str → Option Value) → List (Addr × Obj) → List (Addr × Obj) → Prop) (h0 : J 0 m cm olds news)
    (step : ∀ i v m₁ cm₁ olds₁ news₁ h₁ tk₁ Base₁, i < n → s.toks ≤ tk₁ → P i v h₁ → J i m₁ cm₁ olds₁ news₁ → (∀ b o, Base b o → Base₁ b o) → (∀ b o, OffBase env oc news₁ h₁ b o → Base₁ b o) →
      Cx H₀ Base₁ env oc (fp ++ ps) (wr ++ qs) m₁ cm₁ olds₁ news₁ h₁ →
      wpAny (model prog w) A (assign target env v) (fun _ s₂ => wpAny (model prog w) A (testsOf ifs env) (fun ok s₃ =>
        if ok = true then wpAny (model prog w) A emit (fun _ s₄ => TurnEnd H₀ Base₁ env oc (fp ++ ps) (wr ++ qs) (J (i + 1)) s s₄) No s₃
        else TurnEnd H₀ Base₁ env oc (fp ++ ps) (wr ++ qs) (J (i + 1)) s s₃) No s₂) No { s with heap := h₁, toks := tk₁ })
    (hR : ∀ h' tk' m' cm' olds' news', s.toks ≤ tk' → Cx H₀ Base env oc ps qs m' cm' olds' news' h' → J n m' cm' olds' news' → R (.ok .next) { s with heap := h', toks := tk' }) :
    codeAny (model prog w) A c R s := by
  have hnever : ∀ (e : Value) (s' : Shared), No e s' → notedBy (model prog w) A env (fun e s' => R (.error e) s') e s' := fun _ _ x => x.elim
  have start : Cx H₀ Base env oc (fp ++ ps) (wr ++ qs) m cm olds news s.heap := by
    have C' := C.rebase (fp := fp) (wr := wr) (fun b hb => ⟨hlv 0 _ hst b hb, hfp b hb⟩) W.sub (fun p hp hb => (hwr _ hb).2.2.1 p hp rfl)
    exact C'.weaken C.top C.baseOff (fun _ x => x) (fun _ x => x) C'.qsPs
  refine codeAny_loop hq
    (fun k s' => ∃ h' tk' m' cm' olds' news' i, s' = { s with heap := h', toks := tk' } ∧ St i h' ∧ Cx H₀ Base env oc (fp ++ ps) (wr ++ qs) m' cm' olds' news' h' ∧ J i m' cm' olds' news' ∧ i ≤ n ∧ k = n + 1 - i ∧ s.toks ≤ tk') ?_ (n + 1)
    ⟨s.heap, s.toks, m, cm, olds, news, 0, rfl, hst, start, h0, Nat.zero_le _, rfl, Nat.le_refl _⟩
  rintro k s' ⟨h', tk', m', cm', olds', news', i, rfl, hst', C', hJ, hi, rfl, htk⟩
  rw [hu]
  show wpAny _ A (denote table c) _ _ _
  rw [hden]
  refine wpAny_noted ?_
  unfold compT
  refine wpAny_bind (wpAny_standAt (wpAny_bind ?_))
  have hw : ∀ b ∈ wr, b ≠ env.locals ∧ (∀ n c, env.cells.lookup n = some c → b ≠ c) ∧ (∀ o, ¬ Base b o) ∧ (∀ p ∈ olds', p.1 ≠ b) ∧ (∀ p ∈ news', p.1 ≠ b) := fun b hb =>
    ⟨(hfp b (W.sub b hb)).1, (hwr b hb).1, (hwr b hb).2.1, fun p hp e => (C'.old p hp).2.2.2 (List.mem_append_left _ (e ▸ hb)), fun p hp e => (C'.new p hp).2.2.2.2 (List.mem_append_left _ (e ▸ W.sub b hb))⟩
  by_cases hlt : i < n
  · refine wpAny_with_toks (n := s.toks) htk (W.item i _ _ _ hlt hst' fun v h₁ tk₁ hMd hk₁ htk₁ => wpAny_bind ?_)
    refine W.go i v _ _ _ hMd fun h₂ hP hst₂ hk₂ => wpAny_bind ?_
    have C₂ : Cx H₀ Base env oc (fp ++ ps) (wr ++ qs) m' cm' olds' news' h₂ :=
      C'.foreign (fun b o hb e => hk₂ b o hb (hk₁ b o hb e)) hw fun b hb => (List.mem_append.mp hb).elim (fun hf => hlv _ _ hst₂ b hf) fun hp =>
        let ⟨o, e⟩ := (C'.psLive b hb).1; ⟨o, hk₂ b o (fun hb' => (hwr b hb').2.2.2 hp) (hk₁ b o (fun hb' => (hwr b hb').2.2.2 hp) e)⟩
    have C₃ := C₂.rebase (fp := []) (wr := []) (fun b hb => nomatch hb) (fun b hb => nomatch hb) (fun p hp hb => nomatch hb)
    have fin : ∀ s₃, s.toks ≤ s₃.toks → TurnEnd H₀ (OffBase env oc news' h₂) env oc (fp ++ ps) (wr ++ qs) (J (i + 1)) s s₃ → ∃ m, m < n + 1 - i ∧ ∃ h' tk' m' cm' olds' news' i, s₃ = { s with heap := h', toks := tk' } ∧ St i h' ∧ Cx H₀ Base env oc (fp ++ ps) (wr ++ qs) m' cm' olds' news' h' ∧ J i m' cm' olds' news' ∧ i ≤ n ∧ m = n + 1 - i ∧ s.toks ≤ tk' := by
      rintro s₃ htk₃ ⟨h₄, tk₄, m₄, cm₄, olds₄, news₄, rfl, C₄, j₄⟩
      refine ⟨n + 1 - (i + 1), by (first | lia | omega), h₄, tk₄, m₄, cm₄, olds₄, news₄, i + 1, rfl, ?_, ?_, j₄, hlt, rfl, htk₃⟩
      · refine W.frame _ _ _ hst₂ fun b hb o e => C₄.base b o ⟨e, ?_⟩
        exact ⟨(hfp b hb).1, (hfp b hb).2.1, fun p hp q => (C₂.new p hp).2.2.2.2 (List.mem_append_left _ (q ▸ hb))⟩
      · exact C₄.weaken C.top C₂.baseOff (fun _ x => x) (fun _ x => x) C₂.qsPs
    refine wpAny_mono (wpAny_toks_of (n := s.toks) htk₁ (step i v m' cm' olds' news' h₂ tk₁ _ hlt htk₁ hP hJ C₂.baseOff (fun _ _ x => x) C₃)) (fun _ s₂ h₂' => wpAny_bind (wpAny_mono (wpAny_toks_of h₂'.1 h₂'.2) (fun ok s₃ h₃ => ?_) fun e s' x => hnever e s' x.2)) fun e s' x => hnever e s' x.2
    obtain ⟨htk₃, h₃⟩ := h₃
    cases ok with
    | false => exact wpAny_pure ⟨rfl, fin _ htk₃ h₃⟩
    | true => exact wpAny_bind (wpAny_mono (wpAny_toks_of htk₃ h₃) (fun _ s₄ h₄ => wpAny_pure ⟨rfl, fin _ h₄.1 h₄.2⟩) fun e s' x => hnever e s' x.2)
  · have hin : i = n := by (first | lia | omega)
    subst hin
    refine wpAny_with_toks (n := s.toks) htk (W.done _ _ _ hst' fun h₁ tk₁ hk₁ htk₁ => wpAny_pure ?_)
    refine hR h₁ tk₁ m' cm' olds' news' htk₁ ?_ hJ
    have C'' : Cx H₀ Base env oc ps qs m' cm' olds' news' h' := C'.weaken C.top (fun _ _ x => x) (fun _ hb => List.mem_append_right _ hb) (fun _ hb => List.mem_append_right _ hb) C.qsPs
    exact C''.foreign hk₁ hw fun b hb => let ⟨o, e⟩ := (C''.psLive b hb).1; ⟨o, hk₁ b o (fun hb' => (hwr b hb').2.2.2 hb) e⟩

/-- the block of a comprehension: its locals, its cells -/
def blockEnv (scope : Scope) (cells : List (Str × Addr)) (L : Addr) (env : Env) : Env :=
  { scope := relabel scope env, locals := L, globals := env.globals, cells := cells, qual := env.qual, func := none, code := env.code, frame := env.frame, builtins := env.builtins }

theorem lookup_cons_str {n x : Str} {c : Addr} {cl : List (Str × Addr)} : List.lookup n ((x, c) :: cl) = if n = x then some c else cl.lookup n := by
  rw [List.lookup_cons]
  by_cases h : n = x
  · subst h; simp
  · rw [if_neg h, beq_eq_false_iff_ne.mpr h]

/-- a block without cells of its own -/
theorem newBlock0 {scope : Scope} {cl : List (Str × Addr)} {E : Value → Shared → Prop} {s : Shared} {h₀ : Heap} {D : Addr} {oD : Obj} {Q : Env → Shared → Prop} (C : Cx H₀ Base env oc ps qs m cm olds news h₀)
    (k0 : Ex h₀ s.heap) (hD : s.heap.get? D = some oD) (hD0 : h₀.get? D = none)
    (hcl : ∀ n c, cl.lookup n = some c → env.cells.lookup n = some c)
    (hf : ∀ n acc, cellsFrom n scope.names acc = acc) (hp : ∀ h, pushCells h scope.names = h)
    (hQ : ∀ L h', s.heap.get? L = none → Ex s.heap h' → Cx H₀ (fun b o => h₀.get? b = some o) (blockEnv scope cl L env) [] [] [] (fun _ => none) cm [] [(D, oD)] h' →
      Q { (blockEnv scope cl L env) with scope := scope } { s with heap := h' }) :
    wpAny (model prog w) A (newFunctionEnv scope env.globals cl [] env.qual none .none (some env)) Q E s := by
  simp only [newFunctionEnv, Option.isSome_some, if_true]
  refine wpAny_bind (wpAny_alloc ?_)
  refine wpAny_bind (wpAny_layCells _ (fun name kind cells => by cases hkc : kind == NameKind.cell <;> simp [hkc]) _ _ _ _ ?_)
  rw [hf, hp]
  rw [List.forIn_nil]
  refine wpAny_bind (wpAny_pure (wpAny_pure ?_))
  have k : Ex s.heap (s.heap.push { cls := .type "dict", data := .dict #[] }) := fun b o e => Heap.get?_push_of_some _ e
  have cl0 : ∀ n c, cl.lookup n = some c → ∃ o, h₀.get? c = some o := fun n c e => let ⟨o, ho, _⟩ := C.cell n c (hcl n c e); ⟨o, ho⟩
  refine hQ s.heap.objs.size _ (next_none _) k ⟨fun b o e => C.hTop b o e, Heap.Ns.new s.heap (.type "dict"), fun b o e => k b o (k0 b o e), fun o e => ?_, fun n c e => (C.cell n c (hcl n c e)).keeps (k0.trans k), fun n c e => ?_, fun n c n' e e' => C.apart n c n' (hcl n c e) (hcl n' c e'), fun n c h => (nomatch h), fun p hp => (nomatch hp), fun p hp => ?_, fun p hp => (nomatch hp), by simp, fun b hb => (nomatch hb), fun b hb => (nomatch hb)⟩
  · have : h₀.get? s.heap.objs.size = some o := e
    have := k0 _ _ this
    rw [next_none] at this; cases this
  · obtain ⟨o, ho⟩ := cl0 n c e
    exact Nat.ne_of_lt (Heap.lt_size (k0 _ _ ho))
  · rw [List.mem_singleton.mp hp]
    refine ⟨k _ _ hD, Nat.ne_of_lt (Heap.lt_size hD), fun n c e q => ?_, fun o e => ?_, fun hb => nomatch hb⟩
    · obtain ⟨o, ho⟩ := cl0 n c e
      rw [← (show D = c from q), hD0] at ho; cases ho
    · have : h₀.get? D = some o := e
      rw [hD0] at this; cases this

/-- a block with one cell of its own -/
theorem newBlock1 {x : Str} {scope : Scope} {cl : List (Str × Addr)} {E : Value → Shared → Prop} {s : Shared} {h₀ : Heap} {D : Addr} {oD : Obj} {Q : Env → Shared → Prop} (C : Cx H₀ Base env oc ps qs m cm olds news h₀)
    (k0 : Ex h₀ s.heap) (hD : s.heap.get? D = some oD) (hD0 : h₀.get? D = none)
    (hcl : ∀ n c, cl.lookup n = some c → env.cells.lookup n = some c)
    (hf : ∀ n acc, cellsFrom n scope.names acc = (x, n) :: acc) (hp : ∀ h, pushCells h scope.names = h.push { cls := .type "cell", data := .cell none })
    (hQ : ∀ L c h', s.heap.get? L = none → s.heap.get? c = none → Ex s.heap h' → Cx H₀ (fun b o => h₀.get? b = some o) (blockEnv scope ((x, c) :: cl) L env) [x] [] [] (fun _ => none) (fun n => if n = x then none else cm n) [] [(D, oD)] h' →
      Q { (blockEnv scope ((x, c) :: cl) L env) with scope := scope } { s with heap := h' }) :
    wpAny (model prog w) A (newFunctionEnv scope env.globals cl [] env.qual none .none (some env)) Q E s := by
  simp only [newFunctionEnv, Option.isSome_some, if_true]
  refine wpAny_bind (wpAny_alloc ?_)
  refine wpAny_bind (wpAny_layCells _ (fun name kind cells => by cases hkc : kind == NameKind.cell <;> simp [hkc]) _ _ _ _ ?_)
  rw [hf, hp]
  rw [List.forIn_nil]
  refine wpAny_bind (wpAny_pure (wpAny_pure ?_))
  have hsz : (s.heap.push { cls := .type "dict", data := .dict #[] }).objs.size = s.heap.objs.size + 1 := Heap.size_push ..
  have k1 : Ex s.heap (s.heap.push { cls := .type "dict", data := .dict #[] }) := fun b o e => Heap.get?_push_of_some _ e
  have k : Ex s.heap ((s.heap.push { cls := .type "dict", data := .dict #[] }).push { cls := .type "cell", data := .cell none }) := k1.push _
  have hc0 : s.heap.get? (s.heap.objs.size + 1) = none := by
    cases e : s.heap.get? (s.heap.objs.size + 1) with
    | none => rfl
    | some o => exact absurd (Heap.lt_size e) (Nat.not_lt.mpr (Nat.le_succ _))
  have hcc : ((s.heap.push { cls := .type "dict", data := .dict #[] }).push { cls := .type "cell", data := .cell none }).IsCell (s.heap.objs.size + 1) none := ⟨_, by rw [← hsz]; exact Heap.get?_push_size _ rfl, rfl⟩
  have lk : ∀ n c, List.lookup n ((x, s.heap.objs.size + 1) :: cl) = some c → (n = x ∧ c = s.heap.objs.size + 1) ∨ (n ≠ x ∧ cl.lookup n = some c) := by
    intro n c e
    rw [lookup_cons_str] at e
    split at e
    · rename_i h; exact .inl ⟨h, (Option.some.inj e).symm⟩
    · rename_i h; exact .inr ⟨h, e⟩
  have cl0 : ∀ n c, cl.lookup n = some c → ∃ o, h₀.get? c = some o := fun n c e => let ⟨o, ho, _⟩ := C.cell n c (hcl n c e); ⟨o, ho⟩
  have lt : ∀ n c, cl.lookup n = some c → c < s.heap.objs.size := fun n c e => let ⟨o, ho⟩ := cl0 n c e; Heap.lt_size (k0 _ _ ho)
  show Q _ { s with heap := (s.heap.push { cls := .type "dict", data := .dict #[] }).push { cls := .type "cell", data := .cell none } }
  rw [show ({ s with heap := s.heap.push { cls := .type "dict", data := .dict #[] } } : Shared).heap.objs.size = s.heap.objs.size + 1 from hsz]
  refine hQ s.heap.objs.size (s.heap.objs.size + 1) _ (next_none _) hc0 k ⟨fun b o e => C.hTop b o e, (Heap.Ns.new s.heap (.type "dict")).keeps (fun b o e => Heap.get?_push_of_some _ e), fun b o e => k b o (k0 b o e), fun o e => ?_, fun n c e => ?_, fun n c e => ?_, fun n c n' e e' => ?_, fun n c h e o eo => ?_, fun p hp => (nomatch hp), fun p hp => ?_, fun p hp => (nomatch hp), by simp, fun b hb => (nomatch hb), fun b hb => (nomatch hb)⟩
  · have : h₀.get? s.heap.objs.size = some o := e
    have := k0 _ _ this
    rw [next_none] at this; cases this
  · rcases lk n c e with ⟨rfl, rfl⟩ | ⟨hn, e'⟩
    · simpa using hcc
    · simp only [if_neg hn]; exact (C.cell n c (hcl n c e')).keeps (k0.trans k)
  · rcases lk n c e with ⟨rfl, rfl⟩ | ⟨hn, e'⟩
    · exact Nat.ne_of_gt (Nat.lt_succ_self s.heap.objs.size)
    · exact Nat.ne_of_lt (lt n c e')
  · rcases lk n c e with ⟨h1, h2⟩ | ⟨hn, e1⟩ <;> rcases lk n' c e' with ⟨h3, h4⟩ | ⟨hn', e1'⟩
    · rw [h1, h3]
    · have := lt n' c e1'; rw [h2] at this; exact absurd this (Nat.not_lt.mpr (Nat.le_succ _))
    · have := lt n c e1; rw [h4] at this; exact absurd this (Nat.not_lt.mpr (Nat.le_succ _))
    · exact C.apart n c n' (hcl n c e1) (hcl n' c e1')
  · have hx : n = x := List.mem_singleton.mp h
    rcases lk n c e with ⟨_, rfl⟩ | ⟨hn, _⟩
    · have : h₀.get? (s.heap.objs.size + 1) = some o := eo
      have := k0 _ _ this
      rw [hc0] at this; cases this
    · exact hn hx
  · rw [List.mem_singleton.mp hp]
    refine ⟨k _ _ hD, Nat.ne_of_lt (Heap.lt_size hD), fun n c e q => ?_, fun o e => ?_, fun hb => nomatch hb⟩
    · rcases lk n c e with ⟨_, h2⟩ | ⟨_, e'⟩
      · have h3 := Heap.lt_size hD
        rw [show D = c from q, h2] at h3
        exact absurd h3 (Nat.not_lt.mpr (Nat.le_succ _))
      · obtain ⟨o, ho⟩ := cl0 n c e'
        rw [← (show D = c from q), hD0] at ho; cases ho
    · have : h₀.get? D = some o := e
      rw [hD0] at this; cases this
end

end
-- part F3

section
section
variable {prog : Program} {w : World} {A : Around} {H₀ : Heap} {Base : Addr → Obj → Prop} {env : Env} {oc : List Str} {ps qs : List Addr} {m cm : Str → Option Value} {olds news : List (Addr × Obj)}

/-- what stands of an iterator that is about to walk -/
structure It (prog : Program) (w : World) (A : Around) (target : Expr) (I : Addr) (fp wr : List Addr) (n : Nat) (P Md : Nat → Value → Heap → Prop) (St : Nat → Heap → Prop) (h : Heap) : Prop where
  W : KTurns prog w A target I fp wr n P Md St
  live : ∀ i h, St i h → ∀ b ∈ fp, ∃ o, h.get? b = some o
  st : St 0 h
  self : ∀ (s : Shared) (Q : Value → Shared → Prop) (E : Value → Shared → Prop), St 0 s.heap → Q (.ref I) s → wpAny (model prog w) A (pyIter (.ref I)) Q E s

/-- pyIter's outcome: a new iterator over the objects cont -/
def Iter (prog : Program) (w : World) (A : Around) (target : Expr) (n : Nat) (P : Nat → Value → Heap → Prop) (cont : List Addr) (s : Shared) (it : Value) (s₂ : Shared) : Prop :=
  ∃ I wr Md St h tk, it = .ref I ∧ s₂ = { s with heap := h, toks := tk } ∧ It prog w A target I (wr ++ cont) wr n P Md St h ∧ Ex s.heap h ∧ (∀ b ∈ wr, s.heap.get? b = none)

theorem For_C {target iter : Expr} {body : List Stmt} {pos : Pos} {Q : Flow → Shared → Prop} {s : Shared} (_C : Cx H₀ Base env oc ps qs m cm olds news s.heap)
    (h : wpAny (model prog w) A (eval iter env) (fun xv s₀ => ∃ (s₁ : Shared) (n : Nat) (P : Nat → Value → Heap → Prop) (cont : List Addr) (m cm : Str → Option Value) (olds news : List (Addr × Obj))
      (J : Nat → (Str → Option Value) → (Str → Option Value) → List (Addr × Obj) → List (Addr × Obj) → Prop),
      s₁.toks ≤ s₀.toks ∧ Cx H₀ Base env oc ps qs m cm olds news s₁.heap ∧ (∀ b ∈ cont, Off env oc news b) ∧ wpAny (model prog w) A (pyIter xv) (Iter prog w A target n P cont s₁) No s₀ ∧ J 0 m cm olds news ∧
      (∀ i v m₁ cm₁ olds₁ news₁ h₁ tk₁ Base₁ ps₁ qs₁, i < n → s₁.toks ≤ tk₁ → P i v h₁ → J i m₁ cm₁ olds₁ news₁ → (∀ b o, Base b o → Base₁ b o) → (∀ b o, OffBase env oc news₁ h₁ b o → Base₁ b o) →
        Cx H₀ Base₁ env oc ps₁ qs₁ m₁ cm₁ olds₁ news₁ h₁ →
        wpAny (model prog w) A (assign target env v) (fun _ s₂ => wpAny (model prog w) A (execs body env)
          (FlowPost (fun r s' => match r with | .ok f => Q f s' | .error _ => False) (TurnEnd H₀ Base₁ env oc ps₁ qs₁ (J (i + 1)) s₁)) No s₂) No { s₁ with heap := h₁, toks := tk₁ }) ∧
      (∀ h' tk' m' cm' olds' news', s₁.toks ≤ tk' → Cx H₀ Base env oc ps qs m' cm' olds' news' h' → J n m' cm' olds' news' → Q .next { s₁ with heap := h', toks := tk' })) No s)
    (hs : ∀ x, foldedSetIterable iter env x = pure x := by intro _; rfl) :
    wpAny (model prog w) A (exec (.For target iter body [] pos) env) Q No s := by
  refine wpAny_For (wpAny_mono h (fun xv s₀ h₁ => ?_) fun _ _ e => e) hs
  obtain ⟨s₁, n, P, cont, m, cm, olds, news, J, hts, C, hcont, hit, h0, step, done⟩ := h₁
  refine wpAny_mono (wpAny_toks_of hts hit) (fun it s₂ h₂ => ?_) fun _ _ e => e.2
  obtain ⟨htk2, I, wr, Md, St, h₂, tk₂, rfl, rfl, T, k, hfresh⟩ := h₂
  replace htk2 : s₁.toks ≤ tk₂ := htk2
  have C₂ := C.keeps k
  refine codeAny_mono (R := fun r s' => match r with | .ok f => Q f s' | .error _ => False) ?_ (fun r s' hr => ?_)
  · have free := fun b hb => C.free (hfresh b hb)
    refine for_turns T.W T.live T.st C₂ (fun b hb => ?_) (fun b hb => ?_) J h0 (fun i v m₁ cm₁ olds₁ news₁ h₁ tk₁ Base₁ a a' b c d e f => step i v m₁ cm₁ olds₁ news₁ h₁ tk₁ Base₁ _ _ a (Nat.le_trans htk2 a') b c d e f) (fun h' tk' m' cm' olds' news' a => done h' tk' m' cm' olds' news' (Nat.le_trans htk2 a))
    · rcases List.mem_append.mp hb with hb | hb
      · obtain ⟨f1, f2, f3, f4, f5, f6⟩ := free b hb
        exact ⟨f1, fun n c _ e => f2 n c e, f6⟩
      · exact hcont b hb
    · obtain ⟨f1, f2, f3, f4, f5, f6⟩ := free b hb
      exact ⟨f2, f3, f5, f4⟩
  · cases r with
    | ok f => exact hr
    | error e => exact hr.elim

/-- the outcome of a comprehension: a value, or a name bound to it -/
def CompOut (prog : Program) (w : World) (A : Around) (use : Option (Value → Sem Unit)) (Q : Value → Shared → Prop) (s₁ : Shared) (D : Addr) (o : Obj) (olds' : List (Addr × Obj)) (h' : Heap) (tk' : Nat) : Prop :=
  match use with
  | none => Q (.ref D) { s₁ with heap := h', toks := tk' }
  | some u => wpAny (model prog w) A (u (.ref D)) (fun _ s' => ∃ h'' tk'', s' = { s₁ with heap := h'', toks := tk'' } ∧ (∀ b o, (∀ o', ¬ (s₁.heap.get? b = some o')) → h'.get? b = some o → h''.get? b = some o) ∧
      ∀ h₃, (∀ b ob, (∃ o', s₁.heap.get? b = some o') ∨ (b, ob) ∈ olds' ++ [(D, o)] → h''.get? b = some ob → h₃.get? b = some ob) → Q .none { s₁ with heap := h₃, toks := tk'' }) No { s₁ with heap := h', toks := tk' }

theorem comp_core0 {e : Expr} {target iter : Expr} {ifs : List Expr} {rest : List Comprehension} {emit : Env → Addr → Sem Unit} {scope : Scope} {cl : List (Str × Addr)} {pos : Pos} {newAcc : Sem Value} {o₀ : Obj} {use : Option (Value → Sem Unit)} {Q : Value → Shared → Prop} {s : Shared}
    (hden : ∀ (I D : Addr) (c : Env), denote table (.compLoop e 0 (.ref I) (.ref D) c) = (compT target iter ifs (emit c D) (.ref I) c (.compLoop e 0 (.ref I) (.ref D) c)).onRaise (fun x => do noteFrame x c; theTreesLotGoes x))
    (hq : ∀ (I D : Addr) (c : Env), (Code.compLoop e 0 (.ref I) (.ref D) c).quiet = true) (hu : ∀ (I D : Addr) (c : Env), A.under (.compLoop e 0 (.ref I) (.ref D) c) = A)
    (hstart : ∀ (it acc : Value) (c : Env) (R : Result → Shared → Prop) (s : Shared), codeAny (model prog w) A (.compLoop e 0 it acc c) R s →
      wpAny (model prog w) A (pyIter it) (fun it' s' => codeAny (model prog w) A (.compLoop e 0 it' acc c) R s') (notedBy (model prog w) A c fun x s' => R (.error x) s') s → codeAny (model prog w) A (.compStart e 0 it acc c) R s)
    (hacc : ∀ (s : Shared) (Q : Value → Shared → Prop) (E : Value → Shared → Prop), Q (.ref s.heap.objs.size) { s with heap := s.heap.push o₀ } → wpAny (model prog w) A newAcc Q E s) (hfr : o₀.isFreed = false)
    (hcl : clausesOf e = ⟨target, iter, ifs, 0⟩ :: rest) (hclos : closureFor scope env = pure cl) (hlk : ∀ n c, cl.lookup n = some c → env.cells.lookup n = some c)
    (hkind : scope.kind = .function) (hnames : ∀ x ∈ scope.names, x.2 = .local → scope.names.lookup x.1 = some .local)
    (hf : ∀ n acc, cellsFrom n scope.names acc = acc) (hp : ∀ h, pushCells h scope.names = h)
    (h : wpAny (model prog w) A (eval iter env) (fun xv s₁ => ∃ (n : Nat) (P : Nat → Value → Heap → Prop) (cont : List Addr) (m cm : Str → Option Value) (olds news : List (Addr × Obj)) (J : Nat → Obj → List (Addr × Obj) → Prop),
      Cx H₀ Base env oc ps qs m cm olds news s₁.heap ∧ (∀ b ∈ cont, ∃ o, s₁.heap.get? b = some o) ∧ wpAny (model prog w) A (pyIter xv) (Iter prog w A target n P cont s₁) No s₁ ∧ J 0 o₀ [] ∧
      (∀ i v D o L olds₁ h₁ tk₁ Base₁ m₁ cm₁ ps₁ qs₁, i < n → s₁.toks ≤ tk₁ → P i v h₁ → J i o olds₁ → (∀ b o, s₁.heap.get? b = some o → Base₁ b o) → (∀ p ∈ olds₁, s₁.heap.get? p.1 = none) →
        (∀ n, cm₁ n = cm n) → (∀ b ob, OffBase (blockEnv scope (cl) L env) [] [(D, o)] h₁ b ob → Base₁ b ob) →
        Cx H₀ Base₁ (blockEnv scope (cl) L env) [] ps₁ qs₁ m₁ cm₁ olds₁ [(D, o)] h₁ →
        wpAny (model prog w) A (assign target (blockEnv scope (cl) L env) v) (fun _ s₂ => wpAny (model prog w) A (testsOf ifs (blockEnv scope (cl) L env)) (fun ok s₃ =>
          if ok = true then wpAny (model prog w) A (emit (blockEnv scope (cl) L env) D) (fun _ s₄ => TurnEnd H₀ Base₁ (blockEnv scope (cl) L env) [] ps₁ qs₁ (fun m' cm' olds' news' => ∃ o', news' = [(D, o')] ∧ J (i + 1) o' olds' ∧ (∀ p ∈ olds', p ∈ olds₁ ∨ s₁.heap.get? p.1 = none) ∧ ∀ n, cm' n = cm n) s₁ s₄) No s₃
          else TurnEnd H₀ Base₁ (blockEnv scope (cl) L env) [] ps₁ qs₁ (fun m' cm' olds' news' => ∃ o', news' = [(D, o')] ∧ J (i + 1) o' olds' ∧ (∀ p ∈ olds', p ∈ olds₁ ∨ s₁.heap.get? p.1 = none) ∧ ∀ n, cm' n = cm n) s₁ s₃) No s₂) No { s₁ with heap := h₁, toks := tk₁ }) ∧
      (∀ D o h' tk' olds', s₁.toks ≤ tk' → Cx H₀ Base env oc ps qs m cm (olds' ++ (D, o) :: olds) news h' → Fresh s₁.heap D → J n o olds' → CompOut prog w A use Q s₁ D o olds' h' tk')) No s)
    (hs : ∀ x, foldedSetIterable iter env x = pure x := by intro _; rfl) :
    wpAny (model prog w) A (comprehension e scope env pos newAcc false (eval iter env) use) Q No s := by
  refine wpAny_comprehension_free hcl hs hclos hkind hnames (wpAny_mono h (fun xv s₁ h₁ => ?_) fun _ _ e => e)
  obtain ⟨n, P, cont, m, cm, olds, news, J, C, hcont, hit, h0, step, done⟩ := h₁
  refine wpAny_mono (wpAny_toks hit) (fun it s₂ h₂ => ?_) fun _ _ e => e.2
  obtain ⟨htk2, I, wr, Md, St, h₂, tk₂, rfl, rfl, T, k, hfresh⟩ := h₂
  replace htk2 : s₁.toks ≤ tk₂ := htk2
  refine hacc _ _ _ ?_
  have hD2 : h₂.get? h₂.objs.size = none := next_none _
  have hD0 : s₁.heap.get? h₂.objs.size = none := k.new hD2
  have kp : Ex h₂ (h₂.push o₀) := fun b o e => Heap.get?_push_of_some _ e
  refine newBlock0 (D := h₂.objs.size) (oD := o₀) C (k.trans kp) (Heap.get?_push_size _ hfr) hD0 hlk hf hp fun L h₃ hL k₃ C₃ => ?_
  have hLS : h₂.get? L = none := kp.new hL
  have kk : Ex h₂ h₃ := kp.trans k₃
  have stH : St 0 h₃ := T.W.frame _ _ _ T.st fun b hb o e => kk b o e
  have liveI : ∀ b ∈ wr ++ cont, ∃ o, h₂.get? b = some o := T.live 0 _ T.st
  have hnever : ∀ (e : Value) (s' : Shared), No e s' → notedBy (model prog w) A (blockEnv scope (cl) L env) (fun e s' => False) e s' := fun _ _ x => x.elim
  show codeAny (model prog w) A (.compStart e 0 (.ref I) (.ref h₂.objs.size) (blockEnv scope (cl) L env)) (compPost (model prog w) A No use Q (.ref h₂.objs.size) L) _
  have loop : codeAny (model prog w) A (.compLoop e 0 (.ref I) (.ref h₂.objs.size) (blockEnv scope (cl) L env)) (compPost (model prog w) A No use Q (.ref h₂.objs.size) L) { s₁ with heap := h₃, toks := tk₂ } := by
    refine comp_turns (emit := emit (blockEnv scope (cl) L env) h₂.objs.size) (hq _ _ _) (hu _ _ _) (hden _ _ _) T.W T.live stH C₃ (fun b hb => ?_) (fun b hb => ?_)
      (fun i m' cm' olds' news' => ∃ o', news' = [(h₂.objs.size, o')] ∧ J i o' olds' ∧ (∀ p ∈ olds', s₁.heap.get? p.1 = none) ∧ ∀ n, cm' n = cm n) ⟨o₀, rfl, h0, fun p hp => (nomatch hp), fun _ => rfl⟩ ?_ ?_
    · obtain ⟨o, e⟩ := liveI b hb
      refine ⟨fun q => ?_, fun n c h => (nomatch h), fun p hp q => ?_⟩
      · rw [show b = L from q, hLS] at e; cases e
      · rw [List.mem_singleton.mp hp] at q
        rw [← (show h₂.objs.size = b from q), hD2] at e; cases e
    · obtain ⟨o, e⟩ := liveI b (List.mem_append_left _ hb)
      refine ⟨fun n c e' q => ?_, fun o e' => ?_, fun p hp => (nomatch hp), fun hb => nomatch hb⟩
      · obtain ⟨oc', hoc', _⟩ := C.cell n c (hlk n c e')
        rw [← (show b = c from q), hfresh b hb] at hoc'; cases hoc'
      · have : s₁.heap.get? b = some o := e'
        rw [hfresh b hb] at this; cases this
    · rintro i v m₁ cm₁ olds₁ news₁ h₁ tk₁ Base₁ hi htk hP ⟨o', rfl, hJ, ho, hcm⟩ hB hB2 C₁
      refine wpAny_mono (step i v _ o' L olds₁ h₁ tk₁ Base₁ m₁ cm₁ _ _ hi (Nat.le_trans htk2 htk) hP hJ hB ho hcm hB2 C₁) (fun _ s₂ h₂' => wpAny_mono h₂' (fun ok s₃ h₃' => ?_) fun _ _ e => e) fun _ _ e => e
      have conv : ∀ s₄, TurnEnd H₀ Base₁ (blockEnv scope (cl) L env) [] ((wr ++ cont) ++ []) (wr ++ []) (fun m' cm' olds' news' => ∃ o', news' = [(h₂.objs.size, o')] ∧ J (i + 1) o' olds' ∧ (∀ p ∈ olds', p ∈ olds₁ ∨ s₁.heap.get? p.1 = none) ∧ ∀ n, cm' n = cm n) s₁ s₄ →
          TurnEnd H₀ Base₁ (blockEnv scope (cl) L env) [] ((wr ++ cont) ++ []) (wr ++ []) (fun m' cm' olds' news' => ∃ o', news' = [(h₂.objs.size, o')] ∧ J (i + 1) o' olds' ∧ (∀ p ∈ olds', s₁.heap.get? p.1 = none) ∧ ∀ n, cm' n = cm n) s₁ s₄ := by
        rintro s₄ ⟨h₄, tk₄, m₄, cm₄, olds₄, news₄, rfl, C₄, o₄, e₄, j₄, q₄, r₄⟩
        exact ⟨h₄, tk₄, m₄, cm₄, olds₄, news₄, rfl, C₄, o₄, e₄, j₄, fun p hp => (q₄ p hp).elim (ho p) id, r₄⟩
      cases ok with
      | false => exact conv _ h₃'
      | true => exact wpAny_mono h₃' (fun _ s₄ h₄ => conv _ h₄) fun _ _ e => e
    · rintro h' tk' m' cm' olds' news' htk C' ⟨o', rfl, hJ, ho, hcm⟩
      have htk' := Nat.le_trans htk2 htk
      have kout : Ex s₁.heap h' := fun b o e => C'.base b o e
      have hDh : h'.get? h₂.objs.size = some o' := C'.get_new (List.mem_singleton.mpr rfl)
      have hL0 : s₁.heap.get? L = none := k.new hLS
      have outer : ∀ h'' : Heap, (∀ b o, (∃ o', s₁.heap.get? b = some o') ∨ (b, o) ∈ olds' ++ [(h₂.objs.size, o')] → h'.get? b = some o → h''.get? b = some o) → Cx H₀ Base env oc ps qs m cm (olds' ++ (h₂.objs.size, o') :: olds) news h'' := by
        intro h'' k''
        have kx : Ex s₁.heap h'' := fun b o e => k'' b o (.inl ⟨o, e⟩) (kout b o e)
        have CD : Cx H₀ Base env oc ps qs m cm ((h₂.objs.size, o') :: olds) news h'' := C.addOld kx hD0 (k'' _ _ (.inr (List.mem_append_right _ List.mem_cons_self)) hDh)
        have : ∀ l : List (Addr × Obj), (∀ p ∈ l, p ∈ olds') → Cx H₀ Base env oc ps qs m cm (l ++ (h₂.objs.size, o') :: olds) news h'' := by
          intro l
          induction l with
          | nil => intro _; exact CD
          | cons p l ih =>
            intro hl
            have hp := hl p List.mem_cons_self
            have CA := C.addOld kx (ho p hp) (k'' _ _ (.inr (List.mem_append_left _ hp)) (C'.old p hp).1)
            have CI := ih fun q hq => hl q (List.mem_cons_of_mem _ hq)
            refine { CI with old := ?_, sep := ?_ }
            · intro q hq
              rcases List.mem_cons.mp hq with rfl | hq
              · exact CA.old _ List.mem_cons_self
              · exact CI.old q hq
            · intro q hq r hr
              rcases List.mem_cons.mp hq with rfl | hq
              · exact CA.sep _ List.mem_cons_self r hr
              · exact CI.sep q hq r hr
        exact this olds' fun p hp => hp
      have offL : ∀ b o, (∃ o', s₁.heap.get? b = some o') ∨ (b, o) ∈ olds' ++ [(h₂.objs.size, o')] → b ≠ L := by
        rintro b o (⟨ob, e⟩ | hm) rfl
        · rw [hL0] at e; cases e
        · rcases List.mem_append.mp hm with hm | hm
          · exact (C'.old _ hm).2.1 rfl
          · have q := List.mem_singleton.mp hm
            exact (C'.new _ (List.mem_singleton.mpr rfl)).2.1 (congrArg Prod.fst q).symm
      cases use with
      | none =>
        refine ⟨m', C'.ns, fun h'' hs'' => ?_⟩
        exact done _ o' h'' tk' olds' htk' (outer h'' fun b o hb e => hs''.extBut b o (offL b o hb) e) ⟨_, k, rfl⟩ hJ
      | some u =>
        have hd := done _ o' h' tk' olds' htk' (outer h' fun _ _ _ e => e) ⟨_, k, rfl⟩ hJ
        refine wpAny_mono hd (fun _ s'' h'' => ?_) fun _ _ e => e
        obtain ⟨h₅, tk₅, rfl, k₅, q₅⟩ := h''
        have hns5 : h₅.Ns L m' := C'.ns.at' fun o e => k₅ L o (fun o' e' => by rw [hL0] at e'; cases e') e
        exact ⟨m', hns5, fun h₆ hs₆ => q₅ h₆ fun b o hb e => hs₆.extBut b o (offL b o hb) e⟩
  exact hstart _ _ _ _ _ loop (T.self _ _ _ stH loop)

theorem comp_core1 {e : Expr} {target iter : Expr} {ifs : List Expr} {rest : List Comprehension} {emit : Env → Addr → Sem Unit} {scope : Scope} {cl : List (Str × Addr)} {pos : Pos} {newAcc : Sem Value} {o₀ : Obj} {x : Str} {use : Option (Value → Sem Unit)} {Q : Value → Shared → Prop} {s : Shared}
    (hden : ∀ (I D : Addr) (c : Env), denote table (.compLoop e 0 (.ref I) (.ref D) c) = (compT target iter ifs (emit c D) (.ref I) c (.compLoop e 0 (.ref I) (.ref D) c)).onRaise (fun x => do noteFrame x c; theTreesLotGoes x))
    (hq : ∀ (I D : Addr) (c : Env), (Code.compLoop e 0 (.ref I) (.ref D) c).quiet = true) (hu : ∀ (I D : Addr) (c : Env), A.under (.compLoop e 0 (.ref I) (.ref D) c) = A)
    (hstart : ∀ (it acc : Value) (c : Env) (R : Result → Shared → Prop) (s : Shared), codeAny (model prog w) A (.compLoop e 0 it acc c) R s →
      wpAny (model prog w) A (pyIter it) (fun it' s' => codeAny (model prog w) A (.compLoop e 0 it' acc c) R s') (notedBy (model prog w) A c fun x s' => R (.error x) s') s → codeAny (model prog w) A (.compStart e 0 it acc c) R s)
    (hacc : ∀ (s : Shared) (Q : Value → Shared → Prop) (E : Value → Shared → Prop), Q (.ref s.heap.objs.size) { s with heap := s.heap.push o₀ } → wpAny (model prog w) A newAcc Q E s) (hfr : o₀.isFreed = false)
    (hcl : clausesOf e = ⟨target, iter, ifs, 0⟩ :: rest) (hclos : closureFor scope env = pure cl) (hlk : ∀ n c, cl.lookup n = some c → env.cells.lookup n = some c)
    (hkind : scope.kind = .function) (hnames : ∀ x ∈ scope.names, x.2 = .local → scope.names.lookup x.1 = some .local)
    (hf : ∀ n acc, cellsFrom n scope.names acc = (x, n) :: acc) (hp : ∀ h, pushCells h scope.names = h.push { cls := .type "cell", data := .cell none })
    (h : wpAny (model prog w) A (eval iter env) (fun xv s₁ => ∃ (n : Nat) (P : Nat → Value → Heap → Prop) (cont : List Addr) (m cm : Str → Option Value) (olds news : List (Addr × Obj)) (J : Nat → Obj → List (Addr × Obj) → Prop),
      Cx H₀ Base env oc ps qs m cm olds news s₁.heap ∧ (∀ b ∈ cont, ∃ o, s₁.heap.get? b = some o) ∧ wpAny (model prog w) A (pyIter xv) (Iter prog w A target n P cont s₁) No s₁ ∧ J 0 o₀ [] ∧
      (∀ i v D o L c₀ olds₁ h₁ tk₁ Base₁ m₁ cm₁ ps₁ qs₁, i < n → s₁.toks ≤ tk₁ → P i v h₁ → J i o olds₁ → (∀ b o, s₁.heap.get? b = some o → Base₁ b o) → (∀ p ∈ olds₁, s₁.heap.get? p.1 = none) →
        (∀ n, n ≠ x → cm₁ n = cm n) → (∀ b ob, OffBase (blockEnv scope ((x, c₀) :: cl) L env) [x] [(D, o)] h₁ b ob → Base₁ b ob) →
        Cx H₀ Base₁ (blockEnv scope ((x, c₀) :: cl) L env) [x] ps₁ qs₁ m₁ cm₁ olds₁ [(D, o)] h₁ →
        wpAny (model prog w) A (assign target (blockEnv scope ((x, c₀) :: cl) L env) v) (fun _ s₂ => wpAny (model prog w) A (testsOf ifs (blockEnv scope ((x, c₀) :: cl) L env)) (fun ok s₃ =>
          if ok = true then wpAny (model prog w) A (emit (blockEnv scope ((x, c₀) :: cl) L env) D) (fun _ s₄ => TurnEnd H₀ Base₁ (blockEnv scope ((x, c₀) :: cl) L env) [x] ps₁ qs₁ (fun m' cm' olds' news' => ∃ o', news' = [(D, o')] ∧ J (i + 1) o' olds' ∧ (∀ p ∈ olds', p ∈ olds₁ ∨ s₁.heap.get? p.1 = none) ∧ ∀ n, n ≠ x → cm' n = cm n) s₁ s₄) No s₃
          else TurnEnd H₀ Base₁ (blockEnv scope ((x, c₀) :: cl) L env) [x] ps₁ qs₁ (fun m' cm' olds' news' => ∃ o', news' = [(D, o')] ∧ J (i + 1) o' olds' ∧ (∀ p ∈ olds', p ∈ olds₁ ∨ s₁.heap.get? p.1 = none) ∧ ∀ n, n ≠ x → cm' n = cm n) s₁ s₃) No s₂) No { s₁ with heap := h₁, toks := tk₁ }) ∧
      (∀ D o h' tk' olds', s₁.toks ≤ tk' → Cx H₀ Base env oc ps qs m cm (olds' ++ (D, o) :: olds) news h' → Fresh s₁.heap D → J n o olds' → CompOut prog w A use Q s₁ D o olds' h' tk')) No s)
    (hs : ∀ x, foldedSetIterable iter env x = pure x := by intro _; rfl) :
    wpAny (model prog w) A (comprehension e scope env pos newAcc false (eval iter env) use) Q No s := by
  refine wpAny_comprehension_free hcl hs hclos hkind hnames (wpAny_mono h (fun xv s₁ h₁ => ?_) fun _ _ e => e)
  obtain ⟨n, P, cont, m, cm, olds, news, J, C, hcont, hit, h0, step, done⟩ := h₁
  refine wpAny_mono (wpAny_toks hit) (fun it s₂ h₂ => ?_) fun _ _ e => e.2
  obtain ⟨htk2, I, wr, Md, St, h₂, tk₂, rfl, rfl, T, k, hfresh⟩ := h₂
  replace htk2 : s₁.toks ≤ tk₂ := htk2
  refine hacc _ _ _ ?_
  have hD2 : h₂.get? h₂.objs.size = none := next_none _
  have hD0 : s₁.heap.get? h₂.objs.size = none := k.new hD2
  have kp : Ex h₂ (h₂.push o₀) := fun b o e => Heap.get?_push_of_some _ e
  refine newBlock1 (D := h₂.objs.size) (oD := o₀) C (k.trans kp) (Heap.get?_push_size _ hfr) hD0 hlk hf hp fun L c₀ h₃ hL hc₀ k₃ C₃ => ?_
  have hLS : h₂.get? L = none := kp.new hL
  have kk : Ex h₂ h₃ := kp.trans k₃
  have stH : St 0 h₃ := T.W.frame _ _ _ T.st fun b hb o e => kk b o e
  have liveI : ∀ b ∈ wr ++ cont, ∃ o, h₂.get? b = some o := T.live 0 _ T.st
  have hnever : ∀ (e : Value) (s' : Shared), No e s' → notedBy (model prog w) A (blockEnv scope ((x, c₀) :: cl) L env) (fun e s' => False) e s' := fun _ _ x => x.elim
  show codeAny (model prog w) A (.compStart e 0 (.ref I) (.ref h₂.objs.size) (blockEnv scope ((x, c₀) :: cl) L env)) (compPost (model prog w) A No use Q (.ref h₂.objs.size) L) _
  have loop : codeAny (model prog w) A (.compLoop e 0 (.ref I) (.ref h₂.objs.size) (blockEnv scope ((x, c₀) :: cl) L env)) (compPost (model prog w) A No use Q (.ref h₂.objs.size) L) { s₁ with heap := h₃, toks := tk₂ } := by
    refine comp_turns (emit := emit (blockEnv scope ((x, c₀) :: cl) L env) h₂.objs.size) (hq _ _ _) (hu _ _ _) (hden _ _ _) T.W T.live stH C₃ (fun b hb => ?_) (fun b hb => ?_)
      (fun i m' cm' olds' news' => ∃ o', news' = [(h₂.objs.size, o')] ∧ J i o' olds' ∧ (∀ p ∈ olds', s₁.heap.get? p.1 = none) ∧ ∀ n, n ≠ x → cm' n = cm n) ⟨o₀, rfl, h0, fun p hp => (nomatch hp), fun n hn => if_neg hn⟩ ?_ ?_
    · obtain ⟨o, e⟩ := liveI b hb
      refine ⟨fun q => ?_, fun n c h e' q => ?_, fun p hp q => ?_⟩
      · rw [show b = L from q, hLS] at e; cases e
      · change List.lookup n ((x, c₀) :: cl) = some c at e'
        rw [List.mem_singleton.mp h, lookup_cons_str, if_pos rfl] at e'
        cases e'
        rw [← (show b = c₀ from q)] at hc₀
        rw [kp.new hc₀] at e; cases e
      · rw [List.mem_singleton.mp hp] at q
        rw [← (show h₂.objs.size = b from q), hD2] at e; cases e
    · obtain ⟨o, e⟩ := liveI b (List.mem_append_left _ hb)
      refine ⟨fun n c e' q => ?_, fun o e' => ?_, fun p hp => (nomatch hp), fun hb => nomatch hb⟩
      · change List.lookup n ((x, c₀) :: cl) = some c at e'
        rw [lookup_cons_str] at e'
        split at e'
        · cases e'
          rw [← (show b = c₀ from q)] at hc₀
          rw [kp.new hc₀] at e; cases e
        · obtain ⟨oc', hoc', _⟩ := C.cell n c (hlk n c e')
          rw [← (show b = c from q), hfresh b hb] at hoc'; cases hoc'
      · have : s₁.heap.get? b = some o := e'
        rw [hfresh b hb] at this; cases this
    · rintro i v m₁ cm₁ olds₁ news₁ h₁ tk₁ Base₁ hi htk hP ⟨o', rfl, hJ, ho, hcm⟩ hB hB2 C₁
      refine wpAny_mono (step i v _ o' L c₀ olds₁ h₁ tk₁ Base₁ m₁ cm₁ _ _ hi (Nat.le_trans htk2 htk) hP hJ hB ho hcm hB2 C₁) (fun _ s₂ h₂' => wpAny_mono h₂' (fun ok s₃ h₃' => ?_) fun _ _ e => e) fun _ _ e => e
      have conv : ∀ s₄, TurnEnd H₀ Base₁ (blockEnv scope ((x, c₀) :: cl) L env) [x] ((wr ++ cont) ++ []) (wr ++ []) (fun m' cm' olds' news' => ∃ o', news' = [(h₂.objs.size, o')] ∧ J (i + 1) o' olds' ∧ (∀ p ∈ olds', p ∈ olds₁ ∨ s₁.heap.get? p.1 = none) ∧ ∀ n, n ≠ x → cm' n = cm n) s₁ s₄ →
          TurnEnd H₀ Base₁ (blockEnv scope ((x, c₀) :: cl) L env) [x] ((wr ++ cont) ++ []) (wr ++ []) (fun m' cm' olds' news' => ∃ o', news' = [(h₂.objs.size, o')] ∧ J (i + 1) o' olds' ∧ (∀ p ∈ olds', s₁.heap.get? p.1 = none) ∧ ∀ n, n ≠ x → cm' n = cm n) s₁ s₄ := by
        rintro s₄ ⟨h₄, tk₄, m₄, cm₄, olds₄, news₄, rfl, C₄, o₄, e₄, j₄, q₄, r₄⟩
        exact ⟨h₄, tk₄, m₄, cm₄, olds₄, news₄, rfl, C₄, o₄, e₄, j₄, fun p hp => (q₄ p hp).elim (ho p) id, r₄⟩
      cases ok with
      | false => exact conv _ h₃'
      | true => exact wpAny_mono h₃' (fun _ s₄ h₄ => conv _ h₄) fun _ _ e => e
    · rintro h' tk' m' cm' olds' news' htk C' ⟨o', rfl, hJ, ho, hcm⟩
      have htk' := Nat.le_trans htk2 htk
      have kout : Ex s₁.heap h' := fun b o e => C'.base b o e
      have hDh : h'.get? h₂.objs.size = some o' := C'.get_new (List.mem_singleton.mpr rfl)
      have hL0 : s₁.heap.get? L = none := k.new hLS
      have outer : ∀ h'' : Heap, (∀ b o, (∃ o', s₁.heap.get? b = some o') ∨ (b, o) ∈ olds' ++ [(h₂.objs.size, o')] → h'.get? b = some o → h''.get? b = some o) → Cx H₀ Base env oc ps qs m cm (olds' ++ (h₂.objs.size, o') :: olds) news h'' := by
        intro h'' k''
        have kx : Ex s₁.heap h'' := fun b o e => k'' b o (.inl ⟨o, e⟩) (kout b o e)
        have CD : Cx H₀ Base env oc ps qs m cm ((h₂.objs.size, o') :: olds) news h'' := C.addOld kx hD0 (k'' _ _ (.inr (List.mem_append_right _ List.mem_cons_self)) hDh)
        have : ∀ l : List (Addr × Obj), (∀ p ∈ l, p ∈ olds') → Cx H₀ Base env oc ps qs m cm (l ++ (h₂.objs.size, o') :: olds) news h'' := by
          intro l
          induction l with
          | nil => intro _; exact CD
          | cons p l ih =>
            intro hl
            have hp := hl p List.mem_cons_self
            have CA := C.addOld kx (ho p hp) (k'' _ _ (.inr (List.mem_append_left _ hp)) (C'.old p hp).1)
            have CI := ih fun q hq => hl q (List.mem_cons_of_mem _ hq)
            refine { CI with old := ?_, sep := ?_ }
            · intro q hq
              rcases List.mem_cons.mp hq with rfl | hq
              · exact CA.old _ List.mem_cons_self
              · exact CI.old q hq
            · intro q hq r hr
              rcases List.mem_cons.mp hq with rfl | hq
              · exact CA.sep _ List.mem_cons_self r hr
              · exact CI.sep q hq r hr
        exact this olds' fun p hp => hp
      have offL : ∀ b o, (∃ o', s₁.heap.get? b = some o') ∨ (b, o) ∈ olds' ++ [(h₂.objs.size, o')] → b ≠ L := by
        rintro b o (⟨ob, e⟩ | hm) rfl
        · rw [hL0] at e; cases e
        · rcases List.mem_append.mp hm with hm | hm
          · exact (C'.old _ hm).2.1 rfl
          · have q := List.mem_singleton.mp hm
            exact (C'.new _ (List.mem_singleton.mpr rfl)).2.1 (congrArg Prod.fst q).symm
      cases use with
      | none =>
        refine ⟨m', C'.ns, fun h'' hs'' => ?_⟩
        exact done _ o' h'' tk' olds' htk' (outer h'' fun b o hb e => hs''.extBut b o (offL b o hb) e) ⟨_, k, rfl⟩ hJ
      | some u =>
        have hd := done _ o' h' tk' olds' htk' (outer h' fun _ _ _ e => e) ⟨_, k, rfl⟩ hJ
        refine wpAny_mono hd (fun _ s'' h'' => ?_) fun _ _ e => e
        obtain ⟨h₅, tk₅, rfl, k₅, q₅⟩ := h''
        have hns5 : h₅.Ns L m' := C'.ns.at' fun o e => k₅ L o (fun o' e' => by rw [hL0] at e'; cases e') e
        exact ⟨m', hns5, fun h₆ hs₆ => q₅ h₆ fun b o hb e => hs₆.extBut b o (offL b o hb) e⟩
  exact hstart _ _ _ _ _ loop (T.self _ _ _ stH loop)
end

end
-- part F4

section
section
variable {prog : Program} {w : World} {A : Around} {H₀ : Heap} {Base : Addr → Obj → Prop} {env : Env} {oc : List Str} {ps qs : List Addr} {m cm : Str → Option Value} {olds news : List (Addr × Obj)}

abbrev lst (ys : List Value) : Obj := { cls := .type "list", data := .seq ys.toArray ys.length }
theorem lst_snoc (ys : List Value) (y : Value) : ({ cls := .type "list", data := .seq (ys.toArray.push y) (ys.length + 1) } : Obj) = lst (ys ++ [y]) := LCg.lst_snoc ys y
theorem lst_is {h : Heap} {a : Addr} {ys : List Value} (e : h.get? a = some (lst ys)) : h.IsList a ys.toArray := ⟨_, e, rfl, _, rfl⟩

theorem append_C {D : Addr} {ys : List Value} {x : Value} {l₁ l₂ : List (Addr × Obj)} {s : Shared} {Q : Value → Shared → Prop} (C : Cx H₀ Base env oc ps qs m cm olds (l₁ ++ (D, lst ys) :: l₂) s.heap) (hsz : ys.length ≤ sizeLine)
    (h : ∀ h', Cx H₀ Base env oc ps qs m cm olds (l₁ ++ (D, lst (ys ++ [x])) :: l₂) h' → Q .none { s with heap := h' }) :
    wpAny (model prog w) A (call (.builtin "list.append") [.ref D, x]) Q No s := by
  refine append_at (its := ys.toArray) (n := ys.length) (C.get_new (List.mem_append_right _ List.mem_cons_self)) (fun h' hs ho => h h' ?_) (by rw [List.size_toArray]; exact hsz)
  rw [lst_snoc] at ho
  exact C.upd hs.extBut ho


theorem listComp0 {elt target iter : Expr} {ifs : List Expr} {scope : Scope} {cl : List (Str × Addr)} {pos p₀ : Pos} {use : Option (Value → Sem Unit)} {Q : Value → Shared → Prop} {s : Shared}
    (hclos : closureFor scope env = pure cl) (hlk : ∀ n c, cl.lookup n = some c → env.cells.lookup n = some c)
    (hkind : scope.kind = .function) (hnames : ∀ x ∈ scope.names, x.2 = .local → scope.names.lookup x.1 = some .local)
    (hf : ∀ n acc, cellsFrom n scope.names acc = acc) (hp : ∀ h, pushCells h scope.names = h)
    (h : wpAny (model prog w) A (eval iter env) (fun xv s₁ => ∃ (n : Nat) (P : Nat → Value → Heap → Prop) (cont : List Addr) (m cm : Str → Option Value) (olds news : List (Addr × Obj)) (J : Nat → List Value → List (Addr × Obj) → Prop),
      n ≤ sizeLine ∧ Cx H₀ Base env oc ps qs m cm olds news s₁.heap ∧ (∀ b ∈ cont, ∃ o, s₁.heap.get? b = some o) ∧ wpAny (model prog w) A (pyIter xv) (Iter prog w A target n P cont s₁) No s₁ ∧ J 0 [] [] ∧
      (∀ i v D ys L olds₁ h₁ tk₁ Base₁ m₁ cm₁ ps₁ qs₁, i < n → s₁.toks ≤ tk₁ → P i v h₁ → J i ys olds₁ → (∀ b o, s₁.heap.get? b = some o → Base₁ b o) → (∀ p ∈ olds₁, s₁.heap.get? p.1 = none) →
        (∀ n, cm₁ n = cm n) → (∀ b ob, OffBase (blockEnv scope (cl) L env) [] [(D, lst ys)] h₁ b ob → Base₁ b ob) →
        Cx H₀ Base₁ (blockEnv scope (cl) L env) [] ps₁ qs₁ m₁ cm₁ olds₁ [(D, lst ys)] h₁ →
        wpAny (model prog w) A (assign target (blockEnv scope (cl) L env) v) (fun _ s₂ => wpAny (model prog w) A (testsOf ifs (blockEnv scope (cl) L env)) (fun ok s₃ =>
          if ok = true then wpAny (model prog w) A (eval elt (blockEnv scope (cl) L env)) (fun y s₄ => TurnEnd H₀ Base₁ (blockEnv scope (cl) L env) [] ps₁ qs₁ (fun m' cm' olds' news' => news' = [(D, lst ys)] ∧ J (i + 1) (ys ++ [y]) olds' ∧ (∀ p ∈ olds', p ∈ olds₁ ∨ s₁.heap.get? p.1 = none) ∧ ∀ n, cm' n = cm n) s₁ s₄) No s₃
          else TurnEnd H₀ Base₁ (blockEnv scope (cl) L env) [] ps₁ qs₁ (fun m' cm' olds' news' => news' = [(D, lst ys)] ∧ J (i + 1) ys olds' ∧ (∀ p ∈ olds', p ∈ olds₁ ∨ s₁.heap.get? p.1 = none) ∧ ∀ n, cm' n = cm n) s₁ s₃) No s₂) No { s₁ with heap := h₁, toks := tk₁ }) ∧
      (∀ D ys h' tk' olds', s₁.toks ≤ tk' → Cx H₀ Base env oc ps qs m cm (olds' ++ (D, lst ys) :: olds) news h' → Fresh s₁.heap D → J n ys olds' → CompOut prog w A use Q s₁ D (lst ys) olds' h' tk')) No s)
    (hs : ∀ x, foldedSetIterable iter env x = pure x := by intro _; rfl) :
    wpAny (model prog w) A (comprehension (.ListComp elt [⟨target, iter, ifs, 0⟩] scope pos) scope env p₀ (newList []) false (eval iter env) use) Q No s := by
  refine comp_core0 (H₀ := H₀) (Base := Base) (oc := oc) (ps := ps) (qs := qs) (emit := fun c D => do let _ ← call (.builtin "list.append") [.ref D, ← eval elt c]) (o₀ := lst []) (rest := []) (fun _ _ _ => rfl) (fun _ _ _ => rfl) (fun _ _ _ => rfl)
    (fun it acc c R s h0 h => codeAny_compStart_list h0 h) (fun s Q E h => wpAny_newObj_type h) rfl rfl hclos hlk hkind hnames hf hp (wpAny_mono h (fun xv s₁ h₁ => ?_) fun _ _ e => e) hs
  obtain ⟨n, P, cont, m, cm, olds, news, J, hn, C, hcont, hit, h0, step, done⟩ := h₁
  refine ⟨n, P, cont, m, cm, olds, news, fun i o olds' => ∃ ys, o = lst ys ∧ ys.length ≤ i ∧ J i ys olds', C, hcont, hit, ⟨[], rfl, Nat.le_refl _, h0⟩, ?_, ?_⟩
  · rintro i v D o L olds₁ h₁ tk₁ Base₁ m₁ cm₁ ps₁ qs₁ hi htk hP ⟨ys, rfl, hl, hJ⟩ hB ho hcm hB2 C₁
    refine wpAny_mono (step i v D ys L olds₁ h₁ tk₁ Base₁ m₁ cm₁ ps₁ qs₁ hi htk hP hJ hB ho hcm hB2 C₁) (fun _ s₂ h₂ => wpAny_mono h₂ (fun ok s₃ h₃ => ?_) fun _ _ e => e) fun _ _ e => e
    cases ok with
    | false =>
      simp only [Bool.false_eq_true, if_false] at h₃ ⊢
      obtain ⟨h', tk', m', cm', olds', news', rfl, C', rfl, j', f', c'⟩ := h₃
      exact ⟨h', tk', m', cm', olds', _, rfl, C', _, rfl, ⟨ys, rfl, Nat.le_succ_of_le hl, j'⟩, f', c'⟩
    | true =>
      simp only [if_true] at h₃ ⊢
      refine wpAny_bind (wpAny_mono h₃ (fun y s₄ h₄ => wpAny_bind ?_) fun _ _ e => e)
      obtain ⟨h', tk', m', cm', olds', news', rfl, C', rfl, j', f', c'⟩ := h₄
      refine append_C (l₁ := []) (l₂ := []) C' (by (first | lia | omega)) fun h'' C'' => wpAny_pure ?_
      exact ⟨h'', tk', m', cm', olds', _, rfl, C'', _, rfl, ⟨_, rfl, by rw [List.length_append, List.length_singleton]; (first | lia | omega), j'⟩, f', c'⟩
  · rintro D o h' tk' olds' htk C' hD0 ⟨ys, rfl, hl, hJ⟩
    exact done D ys h' tk' olds' htk C' hD0 hJ

theorem listComp1 {elt target iter : Expr} {ifs : List Expr} {scope : Scope} {cl : List (Str × Addr)} {pos p₀ : Pos} {x : Str} {use : Option (Value → Sem Unit)} {Q : Value → Shared → Prop} {s : Shared}
    (hclos : closureFor scope env = pure cl) (hlk : ∀ n c, cl.lookup n = some c → env.cells.lookup n = some c)
    (hkind : scope.kind = .function) (hnames : ∀ x ∈ scope.names, x.2 = .local → scope.names.lookup x.1 = some .local)
    (hf : ∀ n acc, cellsFrom n scope.names acc = (x, n) :: acc) (hp : ∀ h, pushCells h scope.names = h.push { cls := .type "cell", data := .cell none })
    (h : wpAny (model prog w) A (eval iter env) (fun xv s₁ => ∃ (n : Nat) (P : Nat → Value → Heap → Prop) (cont : List Addr) (m cm : Str → Option Value) (olds news : List (Addr × Obj)) (J : Nat → List Value → List (Addr × Obj) → Prop),
      n ≤ sizeLine ∧ Cx H₀ Base env oc ps qs m cm olds news s₁.heap ∧ (∀ b ∈ cont, ∃ o, s₁.heap.get? b = some o) ∧ wpAny (model prog w) A (pyIter xv) (Iter prog w A target n P cont s₁) No s₁ ∧ J 0 [] [] ∧
      (∀ i v D ys L c₀ olds₁ h₁ tk₁ Base₁ m₁ cm₁ ps₁ qs₁, i < n → s₁.toks ≤ tk₁ → P i v h₁ → J i ys olds₁ → (∀ b o, s₁.heap.get? b = some o → Base₁ b o) → (∀ p ∈ olds₁, s₁.heap.get? p.1 = none) →
        (∀ n, n ≠ x → cm₁ n = cm n) → (∀ b ob, OffBase (blockEnv scope ((x, c₀) :: cl) L env) [x] [(D, lst ys)] h₁ b ob → Base₁ b ob) →
        Cx H₀ Base₁ (blockEnv scope ((x, c₀) :: cl) L env) [x] ps₁ qs₁ m₁ cm₁ olds₁ [(D, lst ys)] h₁ →
        wpAny (model prog w) A (assign target (blockEnv scope ((x, c₀) :: cl) L env) v) (fun _ s₂ => wpAny (model prog w) A (testsOf ifs (blockEnv scope ((x, c₀) :: cl) L env)) (fun ok s₃ =>
          if ok = true then wpAny (model prog w) A (eval elt (blockEnv scope ((x, c₀) :: cl) L env)) (fun y s₄ => TurnEnd H₀ Base₁ (blockEnv scope ((x, c₀) :: cl) L env) [x] ps₁ qs₁ (fun m' cm' olds' news' => news' = [(D, lst ys)] ∧ J (i + 1) (ys ++ [y]) olds' ∧ (∀ p ∈ olds', p ∈ olds₁ ∨ s₁.heap.get? p.1 = none) ∧ ∀ n, n ≠ x → cm' n = cm n) s₁ s₄) No s₃
          else TurnEnd H₀ Base₁ (blockEnv scope ((x, c₀) :: cl) L env) [x] ps₁ qs₁ (fun m' cm' olds' news' => news' = [(D, lst ys)] ∧ J (i + 1) ys olds' ∧ (∀ p ∈ olds', p ∈ olds₁ ∨ s₁.heap.get? p.1 = none) ∧ ∀ n, n ≠ x → cm' n = cm n) s₁ s₃) No s₂) No { s₁ with heap := h₁, toks := tk₁ }) ∧
      (∀ D ys h' tk' olds', s₁.toks ≤ tk' → Cx H₀ Base env oc ps qs m cm (olds' ++ (D, lst ys) :: olds) news h' → Fresh s₁.heap D → J n ys olds' → CompOut prog w A use Q s₁ D (lst ys) olds' h' tk')) No s)
    (hs : ∀ x, foldedSetIterable iter env x = pure x := by intro _; rfl) :
    wpAny (model prog w) A (comprehension (.ListComp elt [⟨target, iter, ifs, 0⟩] scope pos) scope env p₀ (newList []) false (eval iter env) use) Q No s := by
  refine comp_core1 (H₀ := H₀) (Base := Base) (oc := oc) (ps := ps) (qs := qs) (emit := fun c D => do let _ ← call (.builtin "list.append") [.ref D, ← eval elt c]) (o₀ := lst []) (rest := []) (fun _ _ _ => rfl) (fun _ _ _ => rfl) (fun _ _ _ => rfl)
    (fun it acc c R s h0 h => codeAny_compStart_list h0 h) (fun s Q E h => wpAny_newObj_type h) rfl rfl hclos hlk hkind hnames hf hp (wpAny_mono h (fun xv s₁ h₁ => ?_) fun _ _ e => e) hs
  obtain ⟨n, P, cont, m, cm, olds, news, J, hn, C, hcont, hit, h0, step, done⟩ := h₁
  refine ⟨n, P, cont, m, cm, olds, news, fun i o olds' => ∃ ys, o = lst ys ∧ ys.length ≤ i ∧ J i ys olds', C, hcont, hit, ⟨[], rfl, Nat.le_refl _, h0⟩, ?_, ?_⟩
  · rintro i v D o L c₀ olds₁ h₁ tk₁ Base₁ m₁ cm₁ ps₁ qs₁ hi htk hP ⟨ys, rfl, hl, hJ⟩ hB ho hcm hB2 C₁
    refine wpAny_mono (step i v D ys L c₀ olds₁ h₁ tk₁ Base₁ m₁ cm₁ ps₁ qs₁ hi htk hP hJ hB ho hcm hB2 C₁) (fun _ s₂ h₂ => wpAny_mono h₂ (fun ok s₃ h₃ => ?_) fun _ _ e => e) fun _ _ e => e
    cases ok with
    | false =>
      simp only [Bool.false_eq_true, if_false] at h₃ ⊢
      obtain ⟨h', tk', m', cm', olds', news', rfl, C', rfl, j', f', c'⟩ := h₃
      exact ⟨h', tk', m', cm', olds', _, rfl, C', _, rfl, ⟨ys, rfl, Nat.le_succ_of_le hl, j'⟩, f', c'⟩
    | true =>
      simp only [if_true] at h₃ ⊢
      refine wpAny_bind (wpAny_mono h₃ (fun y s₄ h₄ => wpAny_bind ?_) fun _ _ e => e)
      obtain ⟨h', tk', m', cm', olds', news', rfl, C', rfl, j', f', c'⟩ := h₄
      refine append_C (l₁ := []) (l₂ := []) C' (by (first | lia | omega)) fun h'' C'' => wpAny_pure ?_
      exact ⟨h'', tk', m', cm', olds', _, rfl, C'', _, rfl, ⟨_, rfl, by rw [List.length_append, List.length_singleton]; (first | lia | omega), j'⟩, f', c'⟩
  · rintro D o h' tk' olds' htk C' hD0 ⟨ys, rfl, hl, hJ⟩
    exact done D ys h' tk' olds' htk C' hD0 hJ

theorem dictComp0 {kx vx target iter : Expr} {ifs : List Expr} {scope : Scope} {cl : List (Str × Addr)} {pos p₀ : Pos} {use : Option (Value → Sem Unit)} {Q : Value → Shared → Prop} {s : Shared}
    (hclos : closureFor scope env = pure cl) (hlk : ∀ n c, cl.lookup n = some c → env.cells.lookup n = some c)
    (hkind : scope.kind = .function) (hnames : ∀ x ∈ scope.names, x.2 = .local → scope.names.lookup x.1 = some .local)
    (hf : ∀ n acc, cellsFrom n scope.names acc = acc) (hp : ∀ h, pushCells h scope.names = h)
    (h : wpAny (model prog w) A (eval iter env) (fun xv s₁ => ∃ (n : Nat) (P : Nat → Value → Heap → Prop) (cont : List Addr) (m cm : Str → Option Value) (olds news : List (Addr × Obj)) (J : Nat → List (Str × Value) → Prop),
      Cx H₀ Base env oc ps qs m cm olds news s₁.heap ∧ (∀ b ∈ cont, ∃ o, s₁.heap.get? b = some o) ∧ wpAny (model prog w) A (pyIter xv) (Iter prog w A target n P cont s₁) No s₁ ∧ J 0 [] ∧
      (∀ i v D o kvs L h₁ tk₁ Base₁ m₁ cm₁ ps₁ qs₁, i < n → s₁.toks ≤ tk₁ → P i v h₁ → J i kvs → o.IsDictOf (strKind prog w) kvs → (∀ b o, s₁.heap.get? b = some o → Base₁ b o) →
        (∀ n, cm₁ n = cm n) →
        Cx H₀ Base₁ (blockEnv scope cl L env) [] ps₁ qs₁ m₁ cm₁ [] [(D, o)] h₁ →
        wpAny (model prog w) A (assign target (blockEnv scope cl L env) v) (fun _ s₂ => wpAny (model prog w) A (testsOf ifs (blockEnv scope cl L env)) (fun ok s₃ =>
          if ok = true then wpAny (model prog w) A (eval kx (blockEnv scope cl L env)) (fun kv s₄ => wpAny (model prog w) A (eval vx (blockEnv scope cl L env)) (fun vv s₅ =>
            ∃ k t, kv = .str k t ∧ kvs.length ≤ sizeLine ∧ TurnEnd H₀ Base₁ (blockEnv scope cl L env) [] ps₁ qs₁ (fun m' cm' olds' news' => news' = [(D, o)] ∧ J (i + 1) (stored kvs k vv) ∧ ∀ n, cm' n = cm n) s₁ s₅) No s₄) No s₃
          else TurnEnd H₀ Base₁ (blockEnv scope cl L env) [] ps₁ qs₁ (fun m' cm' olds' news' => news' = [(D, o)] ∧ J (i + 1) kvs ∧ ∀ n, cm' n = cm n) s₁ s₃) No s₂) No { s₁ with heap := h₁, toks := tk₁ }) ∧
      (∀ D o kvs h' tk', s₁.toks ≤ tk' → Cx H₀ Base env oc ps qs m cm ((D, o) :: olds) news h' → Fresh s₁.heap D → o.IsDictOf (strKind prog w) kvs → J n kvs → CompOut prog w A use Q s₁ D o [] h' tk')) No s)
    (hs : ∀ x, foldedSetIterable iter env x = pure x := by intro _; rfl) :
    wpAny (model prog w) A (comprehension (.DictComp kx vx [⟨target, iter, ifs, 0⟩] scope pos) scope env p₀ newDict false (eval iter env) use) Q No s := by
  refine comp_core0 (H₀ := H₀) (Base := Base) (oc := oc) (ps := ps) (qs := qs) (emit := fun c D => do
            let kv ← eval kx c
            let vv ← holding [kv] (eval vx c)
            standAt { kx.pos with endLine := vx.pos.endLine, endCol := vx.pos.endCol }
            holding [kv, vv] (dictSet D kv vv)) (o₀ := { cls := .type "dict", data := .dict #[] }) (rest := []) (fun _ _ _ => rfl) (fun _ _ _ => rfl) (fun _ _ _ => rfl)
    (fun it acc c R s h0 h => codeAny_compStart_dict h0 h) (fun s Q E h => wpAny_newObj_type h) rfl rfl hclos hlk hkind hnames hf hp (wpAny_mono h (fun xv s₁ h₁ => ?_) fun _ _ e => e) hs
  obtain ⟨n, P, cont, m, cm, olds, news, J, C, hcont, hit, h0, step, done⟩ := h₁
  refine ⟨n, P, cont, m, cm, olds, news, fun i o olds' => olds' = [] ∧ ∃ kvs, o.IsDictOf (strKind prog w) kvs ∧ J i kvs, C, hcont, hit, ⟨rfl, [], ⟨#[], 0, ⟨rfl, rfl, rfl⟩, rfl, fun _ he => by simp at he, Pairs.nil, List.nodup_nil⟩, h0⟩, ?_, ?_⟩
  · rintro i v D o L olds₁ h₁ tk₁ Base₁ m₁ cm₁ ps₁ qs₁ hi htk hP ⟨rfl, kvs, ho, hJ⟩ hB ho' hcm hB2 C₁
    refine wpAny_mono (step i v D o kvs L h₁ tk₁ Base₁ m₁ cm₁ ps₁ qs₁ hi htk hP hJ ho hB hcm C₁) (fun _ s₂ h₂ => wpAny_mono h₂ (fun ok s₃ h₃ => ?_) fun _ _ e => e) fun _ _ e => e
    cases ok with
    | false =>
      simp only [Bool.false_eq_true, if_false] at h₃ ⊢
      obtain ⟨h', tk', m', cm', olds', news', rfl, C', rfl, j', c'⟩ := h₃
      exact ⟨h', tk', m', cm', [], _, rfl, C'.sub (fun p hp => nomatch hp) (List.Sublist.refl _), _, rfl, ⟨rfl, kvs, ho, j'⟩, fun p hp => (nomatch hp), c'⟩
    | true =>
      simp only [if_true] at h₃ ⊢
      refine wpAny_bind (wpAny_mono h₃ (fun kv s₄ h₄ => wpAny_bind (wpAny_holding (wpAny_mono h₄ (fun vv s₅ h₅ => wpAny_bind (wpAny_standAt (wpAny_holding ?_))) fun _ _ e => e))) fun _ _ e => e)
      obtain ⟨k, t, rfl, hz, h', tk', m', cm', olds', news', rfl, C', rfl, j', c'⟩ := h₅
      refine wpAny_dictSet_pairs (knd := strKind prog w) (strKind_is prog w k t) (Heap.dictOf_iff.mpr ⟨o, C'.get_new (List.mem_singleton.mpr rfl), ho⟩) (fun h'' hd hs'' => ?_) hz
      obtain ⟨o', ho', hd'⟩ := Heap.dictOf_iff.mp hd
      exact ⟨h'', _, m', cm', [], _, rfl, (C'.upd (l₁ := []) (l₂ := []) hs''.extBut ho').sub (fun p hp => nomatch hp) (List.Sublist.refl _), _, rfl, ⟨rfl, _, hd', j'⟩, fun p hp => (nomatch hp), c'⟩
  · rintro D o h' tk' olds' htk C' hD0 ⟨rfl, kvs, ho, hJ⟩
    exact done D o kvs h' tk' htk C' hD0 ho hJ

theorem Cx.keepsOn {h h' : Heap} {S : Addr → Obj → Prop} (C : Cx H₀ Base env oc ps qs m cm olds news h) (k : ∀ b o, S b o → h.get? b = some o → h'.get? b = some o) (hL : ∀ o, S env.locals o) (hB : ∀ b o, Base b o → S b o)
    (hc : ∀ n c o, env.cells.lookup n = some c → S c o) (ho : ∀ p ∈ olds, S p.1 p.2) (hn : ∀ p ∈ news, S p.1 p.2) (hp : ∀ b ∈ ps, ∀ o, S b o) : Cx H₀ Base env oc ps qs m cm olds news h' where
  top := C.top
  ns := C.ns.at' fun o e => k _ o (hL o) e
  base := fun b o e => k b o (hB b o e) (C.base b o e)
  baseL := C.baseL
  cell := fun n c e => IsCell_at (C.cell n c e) fun o x => k c o (hc n c o e) x
  cellL := C.cellL
  apart := C.apart
  ownc := C.ownc
  old := fun p hp => ⟨k _ _ (ho p hp) (C.old p hp).1, (C.old p hp).2⟩
  new := fun p hp => ⟨k _ _ (hn p hp) (C.new p hp).1, (C.new p hp).2⟩
  sep := C.sep
  nodup := C.nodup
  psLive := fun b hb => ⟨let ⟨o, e⟩ := (C.psLive b hb).1; ⟨o, k _ _ (hp b hb o) e⟩, (C.psLive b hb).2⟩
  qsPs := C.qsPs

/-- the name is bound behind a comprehension -/
theorem compOut_assign {y : Str} {py : Pos} {Q : Value → Shared → Prop} {s₁ : Shared} {D : Addr} {o : Obj} {olds' : List (Addr × Obj)} {h' : Heap} {tk' : Nat}
    (hy : env.kindOf y = some .local) (hp : (env.scope.kind == .class || (env.scope.kind == .module && env.locals != env.globals)) = false)
    (C : Cx H₀ Base env oc ps qs m cm olds news s₁.heap) (C' : Cx H₀ Base env oc ps qs m cm (olds' ++ (D, o) :: olds) news h')
    (hQ : ∀ h'' tk'', Cx H₀ Base env oc ps qs (fun z => if z = y then some (.ref D) else m z) cm (olds' ++ (D, o) :: olds) news h'' → Q .none { s₁ with heap := h'', toks := tk'' }) :
    CompOut prog w A (some (assign (.Name y py) env)) Q s₁ D o olds' h' tk' := by
  show wpAny _ A (assign (.Name y py) env (.ref D)) _ _ _
  have lin : ∃ o', s₁.heap.get? env.locals = some o' := let ⟨ob, _, _, e, _⟩ := C.ns; ⟨ob, e⟩
  refine wpAny_assign_Name (wpAny_storeName_local hy C'.ns (fun h₂ hn₂ hs₂ => ?_) hp)
  refine ⟨h₂, _, rfl, fun b ob hb e => hs₂.extBut b ob (fun q => ?_) e, fun h₃ k₃ => hQ h₃ _ ?_⟩
  · obtain ⟨o', e'⟩ := lin
    exact hb o' (q ▸ e')
  · refine (C'.setLoc hn₂ hs₂).keepsOn k₃ (fun _ => .inl lin) (fun b ob e => .inl ⟨ob, C.base b ob e⟩) (fun n c ob e => .inl (let ⟨x, ex, _⟩ := C.cell n c e; ⟨x, ex⟩)) (fun p hp => ?_) (fun p hp => .inl ⟨_, (C.new p hp).1⟩) (fun b hb _ => .inl (C.psLive b hb).1)
    rcases List.mem_append.mp hp with hp | hp
    · exact .inr (List.mem_append_left _ hp)
    · rcases List.mem_cons.mp hp with rfl | hp
      · exact .inr (List.mem_append_right _ List.mem_cons_self)
      · exact .inl ⟨_, (C.old p hp).1⟩

theorem exec_comp_list {elt : Expr} {g : Comprehension} {gs : List Comprehension} {scope : Scope} {pos spos py : Pos} {y : Str} {Q : Flow → Shared → Prop} {s : Shared}
    (hsw : swapsWith (.ListComp elt (g :: gs) scope pos) (some (.Name y py)) spos.line env = pure true) (ha : firstAsync (g :: gs) = false)
    (h : wpAny (model prog w) A (comprehension (.ListComp elt (g :: gs) scope pos) scope env (firstIterPos (g :: gs) pos) (newList []) false (firstIter (g :: gs) env) (some (assign (.Name y py) env))) (fun _ s' => Q .next s') No s) :
    wpAny (model prog w) A (exec (.Assign [.Name y py] (.ListComp elt (g :: gs) scope pos) spos) env) Q No s := by
  rw [exec_Assign_Name_used _ _ _ _ hsw]
  refine wpAny_bind (wpAny_standAt (wpAny_bind ?_))
  show wpAny _ A (do let _ ← comprehension (.ListComp elt (g :: gs) scope pos) scope env _ (newList []) (firstAsync (g :: gs)) (firstIter (g :: gs) env) (some (assign (.Name y py) env))) _ _ s
  rw [ha]
  exact wpAny_bind (wpAny_mono h (fun _ s' hq => wpAny_pure (wpAny_pure hq)) fun _ _ e => e)
theorem exec_comp_dict {kx vx : Expr} {g : Comprehension} {gs : List Comprehension} {scope : Scope} {pos spos py : Pos} {y : Str} {Q : Flow → Shared → Prop} {s : Shared}
    (hsw : swapsWith (.DictComp kx vx (g :: gs) scope pos) (some (.Name y py)) spos.line env = pure true) (ha : firstAsync (g :: gs) = false)
    (h : wpAny (model prog w) A (comprehension (.DictComp kx vx (g :: gs) scope pos) scope env (firstIterPos (g :: gs) pos) newDict false (firstIter (g :: gs) env) (some (assign (.Name y py) env))) (fun _ s' => Q .next s') No s) :
    wpAny (model prog w) A (exec (.Assign [.Name y py] (.DictComp kx vx (g :: gs) scope pos) spos) env) Q No s := by
  rw [exec_Assign_Name_used _ _ _ _ hsw]
  refine wpAny_bind (wpAny_standAt (wpAny_bind ?_))
  show wpAny _ A (do let _ ← comprehension (.DictComp kx vx (g :: gs) scope pos) scope env _ newDict (firstAsync (g :: gs)) (firstIter (g :: gs) env) (some (assign (.Name y py) env))) _ _ s
  rw [ha]
  exact wpAny_bind (wpAny_mono h (fun _ s' hq => wpAny_pure (wpAny_pure hq)) fun _ _ e => e)
end

end
-- part F5

section
section
variable {prog : Program} {w : World} {A : Around} {E : Value → Shared → Prop} {s : Shared} {target : Expr}

theorem key_str {k : Str} {v : Value} (hk : (PySem.strKind prog w).is k v = true) : ∃ t, v = .str k t := by
  cases v with
  | str y t => exact ⟨t, by
      have : y = k := by simpa [PySem.strKind, Value.isStrOf] using hk
      rw [this]⟩
  | _ => simp [PySem.strKind, Value.isStrOf] at hk
theorem push_live {h : Heap} {o : Obj} (hf : o.isFreed = false) : (h.push o).get? h.objs.size = some o := Heap.get?_push_size _ hf
theorem ex_push (h : Heap) (o : Obj) : Ex h (h.push o) := fun b o' e => Heap.get?_push_of_some _ e

theorem iter_list {l : Addr} {items : Array Value} (hh : A.handled = none) (hl : s.heap.IsList l items) :
    wpAny (model prog w) A (pyIter (.ref l)) (Iter prog w A target items.size (fun i v _ => items[i]? = some v) [l] s) E s := by
  obtain ⟨ol, hol, _⟩ := id hl
  have hne : l ≠ s.heap.objs.size := Nat.ne_of_lt (Heap.lt_size hol)
  refine wpAny_pyIter_list hl ⟨s.heap.objs.size, [s.heap.objs.size], _, _, _, s.toks, rfl, rfl,
    ⟨KTurns.ofWalks (Walks.list hh s.heap.objs.size l hne items) fun i v s Q E st q => letGo_listiter st.1 q, ?_, ⟨⟨_, push_live rfl, rfl, rfl⟩, hl.at fun o e => ex_push _ _ _ _ e⟩, fun s Q E st q => wpAny_pyIter_listiter st.1 q⟩, ex_push _ _, ?_⟩
  · rintro i h ⟨⟨o1, e1, _⟩, ⟨o2, e2, _⟩⟩ b hb
    have hb' : b = s.heap.objs.size ∨ b = l := by simpa using hb
    rcases hb' with e | e
    · exact ⟨o1, e.symm ▸ e1⟩
    · exact ⟨o2, e.symm ▸ e2⟩
  · intro b hb
    rw [List.mem_singleton.mp hb]; exact next_none _

theorem iter_tuple {l : Addr} {items : Array Value} (hh : A.handled = none) (hl : s.heap.IsTuple l items) :
    wpAny (model prog w) A (pyIter (.ref l)) (Iter prog w A target items.size (fun i v _ => items[i]? = some v) [l] s) E s := by
  obtain ⟨ol, hol, _⟩ := id hl
  have hne : l ≠ s.heap.objs.size := Nat.ne_of_lt (Heap.lt_size hol)
  refine wpAny_pyIter_tuple hl ⟨s.heap.objs.size, [s.heap.objs.size], _, _, _, s.toks, rfl, rfl,
    ⟨KTurns.ofWalks (Walks.tuple hh s.heap.objs.size l hne items) fun i v s Q E st q => letGo_tupleiter st.1 q, ?_, ⟨⟨_, push_live rfl, rfl, rfl⟩, hl.at fun o e => ex_push _ _ _ _ e⟩, fun s Q E st q => wpAny_pyIter_tupleiter st.1 q⟩, ex_push _ _, ?_⟩
  · rintro i h ⟨⟨o1, e1, _⟩, ⟨o2, e2, _⟩⟩ b hb
    have hb' : b = s.heap.objs.size ∨ b = l := by simpa using hb
    rcases hb' with e | e
    · exact ⟨o1, e.symm ▸ e1⟩
    · exact ⟨o2, e.symm ▸ e2⟩
  · intro b hb
    rw [List.mem_singleton.mp hb]; exact next_none _

theorem iter_dict {d : Addr} {kvs : List (Str × Value)} (hh : A.handled = none) (lo : (d == sysModules) = false) (hd : s.heap.DictOf (PySem.strKind prog w) d kvs) :
    wpAny (model prog w) A (pyIter (.ref d)) (Iter prog w A target kvs.length (fun i v _ => ∃ k t x, kvs[i]? = some (k, x) ∧ v = .str k t) [d] s) E s := by
  obtain ⟨ep, hat⟩ := hd.dictAt
  have hne : d ≠ s.heap.objs.size := Nat.ne_of_lt hat.lt_size
  have W := KTurns.ofWalks (target := target) (Walks.dictKeys (prog := prog) (w := w) (knd := PySem.strKind prog w) hh s.heap.objs.size d hne kvs ep) fun i v s Q E st q => letGo_keyiter st.1 q
  refine wpAny_pyIter_dict lo hat ⟨s.heap.objs.size, [s.heap.objs.size], _, _, _, s.toks, rfl, rfl,
    ⟨{ sub := W.sub, frame := W.frame, item := W.item, go := fun i v s Q E hm hQ => W.go i v s Q E hm fun h' hP => hQ h' ?_, done := W.done }, ?_, ⟨⟨_, push_live rfl, rfl, rfl⟩, hat.at' fun o e => ex_push _ _ _ _ e⟩, fun s Q E st q => wpAny_pyIter_keyiter st.1 q⟩, ex_push _ _, ?_⟩
  · obtain ⟨k, x, hx, hk⟩ := hP
    obtain ⟨t, e⟩ := key_str hk
    exact ⟨k, t, x, hx, e⟩
  · rintro i h ⟨⟨o1, e1, _⟩, ⟨o2, _, e2, _⟩⟩ b hb
    have hb' : b = s.heap.objs.size ∨ b = d := by simpa using hb
    rcases hb' with e | e
    · exact ⟨o1, e.symm ▸ e1⟩
    · exact ⟨o2, e.symm ▸ e2⟩
  · intro b hb
    rw [List.mem_singleton.mp hb]; exact next_none _

theorem iter_values {d v : Addr} {kvs : List (Str × Value)} (hh : A.handled = none) (hv : s.heap.IsValuesView v d) (hd : s.heap.DictOf (PySem.strKind prog w) d kvs) :
    wpAny (model prog w) A (pyIter (.ref v)) (Iter prog w A target kvs.length (fun i x _ => ∃ k, kvs[i]? = some (k, x)) [d] s) E s := by
  obtain ⟨ep, hat⟩ := hd.dictAt
  have hne : d ≠ s.heap.objs.size := Nat.ne_of_lt hat.lt_size
  refine wpAny_pyIter_values hv hat ⟨s.heap.objs.size, [s.heap.objs.size], _, _, _, s.toks, rfl, rfl,
    ⟨KTurns.ofWalks (Walks.dictValues (knd := PySem.strKind prog w) hh s.heap.objs.size d hne kvs ep) fun i v s Q E st q => letGo_valiter st.1 q, ?_, ⟨⟨_, push_live rfl, rfl, rfl⟩, hat.at' fun o e => ex_push _ _ _ _ e⟩, fun s Q E st q => wpAny_pyIter_valiter st.1 q⟩, ex_push _ _, ?_⟩
  · rintro i h ⟨⟨o1, e1, _⟩, ⟨o2, _, e2, _⟩⟩ b hb
    have hb' : b = s.heap.objs.size ∨ b = d := by simpa using hb
    rcases hb' with e | e
    · exact ⟨o1, e.symm ▸ e1⟩
    · exact ⟨o2, e.symm ▸ e2⟩
  · intro b hb
    rw [List.mem_singleton.mp hb]; exact next_none _

theorem iter_range {r : Addr} {n : Nat} {t u v : Tok} (hh : A.handled = none) {x : Str} {px : Pos} (hr : IsRange s.heap r 0 (n : Int) 1 t u v) (hsm : Builtin.Range.small 0 (n : Int) 1 = true) (hn : Builtin.Range.rangeSize 0 (n : Int) 1 = ((n : Nat) : Int)) :
    wpAny (model prog w) A (pyIter (.ref r)) (Iter prog w A (.Name x px) n (fun i v _ => ∃ t, v = .int (i : Int) t) [] s) E s := by
  have W := KTurns.ofWalks (target := .Name x px) (LCg.range_walks (prog := prog) (w := w) (I := s.heap.objs.size) hh 0 n) fun i v s Q E st q => wpAny_pure q
  refine wpAny_pyIter_range hr hsm ⟨s.heap.objs.size, [s.heap.objs.size], _, _, _, s.toks, rfl, rfl,
    ⟨{ sub := W.sub, frame := W.frame, item := W.item, go := fun i v s Q E hm hQ => W.go i v s Q E hm fun h' hP => hQ h' ?_, done := W.done }, ?_, ?_, fun s Q E st q => wpAny_pyIter_rangeiter st q⟩, ex_push _ _, ?_⟩
  · obtain ⟨t, e⟩ := hP
    exact ⟨t, by rw [e, Int.zero_add]⟩
  · intro i h st b hb
    have hb' : b = s.heap.objs.size := by simpa using hb
    exact ⟨_, hb'.symm ▸ st⟩
  · rw [hn]
    have := push_live (h := s.heap) (o := { cls := .type "range_iterator", data := .fields #[rawInt 0, rawInt (n : Int), rawInt 1] }) rfl
    simpa using this
  · intro b hb
    rw [List.mem_singleton.mp hb]; exact next_none _

theorem iter_str {x : Str} {t : Tok} {y : Str} {py : Pos} (hh : A.handled = none) :
    wpAny (model prog w) A (pyIter (.str x t)) (Iter prog w A (.Name y py) x.cps.size (fun i v _ => ∃ c u, x.cps[i]? = some c ∧ v = .str ⟨#[c]⟩ u) [] s) E s := by
  cases ha : x.cps.all (· < 128)
  · refine wpAny_pyIter_wide ha ⟨s.heap.objs.size, [s.heap.objs.size], _, _, _, s.toks, rfl, rfl,
      ⟨KTurns.ofWalks (Walks.strWide hh s.heap.objs.size x t) fun i v s Q E st q => wpAny_pure q, ?_, ⟨_, push_live rfl, rfl, rfl⟩, fun s Q E st q => wpAny_pyIter_striter_wide st q⟩, ex_push _ _, ?_⟩
    · rintro i h ⟨o1, e1, _⟩ b hb
      have hb' : b = s.heap.objs.size := by simpa using hb
      exact ⟨o1, hb'.symm ▸ e1⟩
    · intro b hb
      rw [List.mem_singleton.mp hb]; exact next_none _
  · refine wpAny_pyIter_ascii ha ⟨s.heap.objs.size, [s.heap.objs.size], _, _, _, s.toks, rfl, rfl,
      ⟨KTurns.ofWalks (Walks.strAscii hh s.heap.objs.size x t) fun i v s Q E st q => wpAny_pure q, ?_, ⟨_, push_live rfl, rfl, rfl⟩, fun s Q E st q => wpAny_pyIter_striter_ascii st q⟩, ex_push _ _, ?_⟩
    · rintro i h ⟨o1, e1, _⟩ b hb
      have hb' : b = s.heap.objs.size := by simpa using hb
      exact ⟨o1, hb'.symm ▸ e1⟩
    · intro b hb
      rw [List.mem_singleton.mp hb]; exact next_none _

theorem iter_items {d v : Addr} {kvs : List (Str × Value)} {elts : List Expr} {kk : Nat} {pos : Pos} (hh : A.handled = none) (hv : s.heap.IsItemsView v d) (hd : s.heap.DictOf (PySem.strKind prog w) d kvs) :
    wpAny (model prog w) A (pyIter (.ref v)) (Iter prog w A (.Tuple elts kk pos) kvs.length (fun i x h => ∃ T k t y, x = .ref T ∧ kvs[i]? = some (k, y) ∧ h.IsTuple T #[.str k t, y]) [d] s) E s := by
  obtain ⟨ep, hat⟩ := hd.dictAt
  have hne : d ≠ s.heap.objs.size := Nat.ne_of_lt hat.lt_size
  have W := kti_itemsTurns (prog := prog) (w := w) (knd := PySem.strKind prog w) (elts := elts) (kk := kk) (pos := pos) hh s.heap.objs.size d hne kvs ep
  refine wpAny_pyIter_items hv hat ⟨s.heap.objs.size, [s.heap.objs.size], _, _, _, s.toks, rfl, rfl,
    ⟨{ sub := W.sub, frame := W.frame, item := W.item, go := fun i v s Q E hm hQ => W.go i v s Q E hm fun h' hP => hQ h' ?_, done := W.done }, ?_, ⟨⟨.none, .none, push_live rfl⟩, hat.at' fun o e => ex_push _ _ _ _ e⟩, fun s Q E st q => ?_⟩, ex_push _ _, ?_⟩
  · obtain ⟨T, key, k, x, rfl, hx, hk, hT⟩ := hP
    obtain ⟨t, rfl⟩ := key_str hk
    exact ⟨T, k, t, x, rfl, hx, hT⟩
  · rintro i h ⟨⟨ok, ov, e1⟩, ⟨o2, _, e2, _⟩⟩ b hb
    have hb' : b = s.heap.objs.size ∨ b = d := by simpa using hb
    rcases hb' with e | e
    · exact ⟨_, e.symm ▸ e1⟩
    · exact ⟨o2, e.symm ▸ e2⟩
  · obtain ⟨⟨ok, ov, e1⟩, _⟩ := st
    exact kcp_self e1 q
  · intro b hb
    rw [List.mem_singleton.mp hb]; exact next_none _

/-- the walk over enumerate(list): the call made the two iterators -/
theorem iter_enum {l : Addr} {items : Array Value} {elts : List Expr} {kk : Nat} {pos : Pos} (hh : A.handled = none) (hl : s.heap.IsList l items) {Q : Value → Shared → Prop}
    (hQ : ∀ x s₁, wpAny (model prog w) A (pyIter x) (Iter prog w A (.Tuple elts kk pos) items.size (fun i x h => ∃ T t y, x = .ref T ∧ items[i]? = some y ∧ h.IsTuple T #[.int (i : Int) t, y]) [l] s) No s₁ → Q x s₁) :
    wpAny (model prog w) A (call (.type "enumerate") [.ref l]) Q E s := by
  obtain ⟨ol, hol, _⟩ := id hl
  have hlt : l < s.heap.objs.size := Heap.lt_size hol
  refine call_enumerate_list hl fun h' hE hI hsz hk => hQ _ _ ?_
  refine wpAny_pyIter_enum hE ?_
  have W := KTurns.ofWalksU (elts := elts) (k := kk) (pos := pos) (WalksT.enumerate (prog := prog) (w := w) hh (s.heap.objs.size + 1) s.heap.objs.size l (Nat.succ_ne_self _) (Nat.ne_of_lt (Nat.lt_succ_of_lt hlt)) (Nat.ne_of_lt hlt) items).toU
  refine ⟨s.heap.objs.size + 1, [s.heap.objs.size + 1, s.heap.objs.size], _, _, h', s.toks, rfl, rfl,
    ⟨{ sub := W.sub, frame := W.frame, item := W.item, go := fun i v s Q E hm hQ => W.go i v s Q E hm fun h' hP => hQ h' ?_, done := W.done }, ?_, ⟨⟨_, hE⟩, hI, hl.at fun o e => hk _ _ e⟩, fun s Q E st q => ?_⟩, hk, ?_⟩
  · obtain ⟨T, vals, rfl, ⟨t, x, hx, rfl⟩, hT⟩ := hP
    exact ⟨T, t, x, rfl, hx, hT⟩
  · rintro i h ⟨⟨old, e1⟩, ⟨o2, e2, _⟩, ⟨o3, e3, _⟩⟩ b hb
    have hb' : b = s.heap.objs.size + 1 ∨ b = s.heap.objs.size ∨ b = l := by simpa using hb
    rcases hb' with e | e | e
    · exact ⟨_, e.symm ▸ e1⟩
    · exact ⟨o2, e.symm ▸ e2⟩
    · exact ⟨o3, e.symm ▸ e3⟩
  · obtain ⟨⟨old, e1⟩, _⟩ := st
    exact wpAny_pyIter_enum e1 q
  · intro b hb
    have hb' : b = s.heap.objs.size + 1 ∨ b = s.heap.objs.size := by simpa using hb
    rcases hb' with e | e
    · rw [e]
      cases q : s.heap.get? (s.heap.objs.size + 1) with
      | none => rfl
      | some o => exact absurd (Heap.lt_size q) (Nat.not_lt.mpr (Nat.le_succ _))
    · rw [e]; exact next_none _
end

end
-- part F6

section

/-- the statements of the text's top, and a def's parts -/
def stmtAt (i : Nat) : Stmt := PySem.Challenge.pw_wv0009_01.main.body.getD i (.Pass default)
def dName : Stmt → Str
  | .FunctionDef n .. => n
  | _ => Str.empty
def dParams : Stmt → Arguments
  | .FunctionDef _ a .. => a
  | _ => ⟨[], [], none, [], [], none, []⟩
def dBody : Stmt → List Stmt
  | .FunctionDef _ _ b .. => b
  | _ => []
def dScope : Stmt → Scope
  | .FunctionDef _ _ _ _ _ _ sc .. => sc
  | _ => default

/-- a def of the text where it lies -/
def FnAt (H : Heap) (mg : Str → Option Value) (d : Stmt) (a : Addr) : Prop :=
  ∃ o pm code doc, mg (dName d) = some (.ref a) ∧ H.get? a = some o ∧ o.data = .func (docDef (dName d) (dParams d) (dBody d) (dScope d) pm code doc) ∧ H.CodeRec code (dName d)

/-- what the top left: the names, the defs -/
structure Stat (mg mb : Str → Option Value) (fa : Nat → Addr) (H : Heap) : Prop where
  g : H.Ns mainGlobals mg
  b : H.Ns builtinsNs mb
  nolimit : H.NoLimit
  builtins : ∀ x : Str, x ≠ "__name__" → mb x = bootBuiltins x
  free : ∀ x ∈ (["isinstance", "tuple", "zip", "len", "enumerate", "chr", "ord", "sorted", "range", "abs", "sum", "min", "max"] : List Str), mg x = none
  fn : ∀ i ∈ [2, 3, 6, 10, 13, 14, 16, 17, 18, 19, 20, 21], FnAt H mg (stmtAt i) (fa i)
  marker : ∃ t, mg "ELLIPSIS_MARKER" = some (.str "..." t)
  offset : ∃ t, mg "NT_OFFSET" = some (.int 256 t)

section
variable {prog : Program} {w : World} {A : Around} {H₀ : Heap} {Base : Addr → Obj → Prop} {env : Env} {oc : List Str} {ps qs : List Addr} {m cm : Str → Option Value} {olds news : List (Addr × Obj)} {M : Model} {E : Value → Shared → Prop} {s : Shared}
variable {mg mb : Str → Option Value} {fa : Nat → Addr}

theorem nmL {x : Str} {pos : Pos} {v : Value} {Q : Value → Shared → Prop} (C : Cx H₀ Base env oc ps qs m cm olds news s.heap) (hv : m x = some v) (h : Q v s)
    (hk : env.scope.kind = .function := by rfl) (hl : env.kindOf x = some .local := by rfl) (hd : (x == ("__debug__" : Str)) = false := by decide) :
    wpAny M A (eval (.Name x pos) env) Q E s := wpAny_Name (wpAny_loadName_local hk hl C.ns hv h) hd
theorem ldL {x : Str} {v : Value} {Q : Value → Shared → Prop} (C : Cx H₀ Base env oc ps qs m cm olds news s.heap) (hv : m x = some v) (h : Q v s)
    (hk : env.scope.kind = .function := by rfl) (hl : env.kindOf x = some .local := by rfl) : wpAny M A (loadName env x) Q E s := wpAny_loadName_local hk hl C.ns hv h
theorem nmC {x : Str} {pos : Pos} {c : Addr} {v : Value} {Q : Value → Shared → Prop} (C : Cx H₀ Base env oc ps qs m cm olds news s.heap) (hv : cm x = some v) (h : Q v s)
    (hc : env.cells.lookup x = some c := by rfl) (hk : env.scope.kind = .function := by rfl) (hl : env.kindOf x = some .cell := by rfl) (hd : (x == ("__debug__" : Str)) = false := by decide) :
    wpAny M A (eval (.Name x pos) env) Q E s := wpAny_Name (wpAny_loadName_cell hk hl hc (hv ▸ C.cell x c hc) h) hd
theorem nmG {x : Str} {pos : Pos} {v : Value} {Q : Value → Shared → Prop} (S : Stat mg mb fa H₀) (C : Cx H₀ Base env oc ps qs m cm olds news s.heap) (hv : mg x = some v) (h : Q v s)
    (hg : env.globals = mainGlobals := by rfl) (hk : env.scope.kind = .function := by rfl) (hl : env.kindOf x = some .globalImplicit := by rfl) (hd : (x == ("__debug__" : Str)) = false := by decide) :
    wpAny M A (eval (.Name x pos) env) Q E s := Name_function_global hk hl (loadGlobal_global (env := env) (by rw [hg]; exact S.g.keeps C.hTop) hv h) hd
theorem nmB {x : Str} {pos : Pos} {v : Value} {Q : Value → Shared → Prop} (S : Stat mg mb fa H₀) (C : Cx H₀ Base env oc ps qs m cm olds news s.heap) (hx : mg x = none) (hv : bootBuiltins x = some v) (h : Q v s) (hn : x ≠ "__name__" := by decide)
    (hg : env.globals = mainGlobals := by rfl) (hb : env.builtins = builtinsNs := by rfl) (hk : env.scope.kind = .function := by rfl) (hl : env.kindOf x = some .globalImplicit := by rfl) (hd : (x == ("__debug__" : Str)) = false := by decide) :
    wpAny M A (eval (.Name x pos) env) Q E s :=
  Name_function_global hk hl (loadGlobal_builtin (env := env) (by rw [hg]; exact S.g.keeps C.hTop) hx (by rw [hb]; exact S.b.keeps C.hTop) ((S.builtins x hn).trans hv) h) hd

theorem stL {x : Str} {v : Value} {Q : Unit → Shared → Prop} (C : Cx H₀ Base env oc ps qs m cm olds news s.heap)
    (h : ∀ h', Cx H₀ Base env oc ps qs (fun y => if y = x then some v else m y) cm olds news h' → Q () { s with heap := h', toks := s.toks + 1 })
    (hk : env.scope.kind = .function := by rfl) (hl : env.kindOf x = some .local := by rfl) : wpAny M A (storeName env x v) Q E s :=
  wpAny_storeName_local hl C.ns (fun h' hn hs => h h' (C.setLoc hn hs)) (by rw [hk]; rfl)
theorem stC {x : Str} {c : Addr} {v : Value} {Q : Unit → Shared → Prop} (C : Cx H₀ Base env oc ps qs m cm olds news s.heap)
    (h : ∀ h', Cx H₀ Base env oc ps qs m (fun y => if y = x then some v else cm y) olds news h' → Q () { s with heap := h' })
    (ho : x ∈ oc := by decide) (hc : env.cells.lookup x = some c := by rfl) (hk : env.scope.kind = .function := by rfl) (hl : env.kindOf x = some .cell := by rfl) : wpAny M A (storeName env x v) Q E s :=
  wpAny_storeName_cell hk hl hc (C.cell x c hc) fun h' hv hs => h h' (C.setCell ho hc hv hs)

theorem asL {x : Str} {px : Pos} {v : Value} {Q : Unit → Shared → Prop} (C : Cx H₀ Base env oc ps qs m cm olds news s.heap)
    (h : ∀ h', Cx H₀ Base env oc ps qs (fun y => if y = x then some v else m y) cm olds news h' → Q () { s with heap := h', toks := s.toks + 1 })
    (hk : env.scope.kind = .function := by rfl) (hl : env.kindOf x = some .local := by rfl) : wpAny M A (assign (.Name x px) env v) Q E s := wpAny_assign_Name (stL C h hk hl)
theorem asC {x : Str} {px : Pos} {c : Addr} {v : Value} {Q : Unit → Shared → Prop} (C : Cx H₀ Base env oc ps qs m cm olds news s.heap)
    (h : ∀ h', Cx H₀ Base env oc ps qs m (fun y => if y = x then some v else cm y) olds news h' → Q () { s with heap := h' })
    (ho : x ∈ oc := by decide) (hc : env.cells.lookup x = some c := by rfl) (hk : env.scope.kind = .function := by rfl) (hl : env.kindOf x = some .cell := by rfl) : wpAny M A (assign (.Name x px) env v) Q E s := wpAny_assign_Name (stC C h ho hc hk hl)

theorem newList_C {vs : List Value} {Q : Value → Shared → Prop} (C : Cx H₀ Base env oc ps qs m cm olds news s.heap)
    (h : ∀ a h', Fresh s.heap a → Ex s.heap h' → Cx H₀ Base env oc ps qs m cm ((a, { cls := .type "list", data := .seq vs.toArray }) :: olds) news h' → Q (.ref a) { s with heap := h' }) (hsz : vs.length ≤ sizeLine := by size_fits) : wpAny M A (newList vs) Q E s :=
  wpAny_newObj_type (h _ _ (Fresh.size _) (ex_push _ _) (C.addOld (ex_push _ _) (next_none _) (push_live rfl))) (by show vs.toArray.size ≤ sizeLine; rw [List.size_toArray]; exact hsz)
theorem newListN_C {vs : List Value} {Q : Value → Shared → Prop} (C : Cx H₀ Base env oc ps qs m cm olds news s.heap)
    (h : ∀ a h', Fresh s.heap a → Ex s.heap h' → Cx H₀ Base env oc ps qs m cm olds ((a, { cls := .type "list", data := .seq vs.toArray }) :: news) h' → Q (.ref a) { s with heap := h' }) (hsz : vs.length ≤ sizeLine := by size_fits) : wpAny M A (newList vs) Q E s :=
  wpAny_newObj_type (h _ _ (Fresh.size _) (ex_push _ _) (C.addNew (ex_push _ _) (next_none _) (push_live rfl))) (by show vs.toArray.size ≤ sizeLine; rw [List.size_toArray]; exact hsz)
theorem newTuple_C {vs : List Value} {Q : Value → Shared → Prop} (C : Cx H₀ Base env oc ps qs m cm olds news s.heap)
    (h : ∀ a h', Fresh s.heap a → Ex s.heap h' → Cx H₀ Base env oc ps qs m cm ((a, { cls := .type "tuple", data := .seq vs.toArray }) :: olds) news h' → Q (.ref a) { s with heap := h' }) (hsz : vs.length ≤ sizeLine := by size_fits) : wpAny M A (newTuple vs) Q E s :=
  wpAny_newObj_type (h _ _ (Fresh.size _) (ex_push _ _) (C.addOld (ex_push _ _) (next_none _) (push_live rfl))) (by show vs.toArray.size ≤ sizeLine; rw [List.size_toArray]; exact hsz)

theorem lookup_isSome_of_names {l l' : List (Str × Addr)} (h : l.map (·.1) = l'.map (·.1)) (x : Str) : (l.lookup x).isSome = (l'.lookup x).isSome := by
  induction l generalizing l' with
  | nil => cases l' with
    | nil => rfl
    | cons _ _ => cases h
  | cons p l ih => cases l' with
    | nil => cases h
    | cons q l' =>
      simp only [List.map_cons, List.cons.injEq] at h
      obtain ⟨p1, p2⟩ := p
      obtain ⟨q1, q2⟩ := q
      obtain ⟨h1, h2⟩ := h
      simp only at h1
      subst h1
      rw [List.lookup_cons, List.lookup_cons]
      cases x == p1 with
      | true => rfl
      | false => exact ih h2
theorem kinds_of {names : List (Str × NameKind)} {binds : List (Str × Value)} {n : Nat}
    (h : (binds.all fun x => decide (names.lookup x.1 = some .local) || (decide (names.lookup x.1 = some .cell) && ((cellsFrom 0 names []).lookup x.1).isSome)) = true) :
    ∀ x ∈ binds, names.lookup x.1 = some .local ∨ (names.lookup x.1 = some .cell ∧ ((cellsFrom n names []).lookup x.1).isSome = true) := by
  intro x hx
  have := List.all_eq_true.mp h x hx
  rw [Bool.or_eq_true, Bool.and_eq_true, decide_eq_true_eq, decide_eq_true_eq] at this
  rcases this with h1 | ⟨h1, h2⟩
  · exact .inl h1
  · exact .inr ⟨h1, by rw [lookup_isSome_of_names (cellsFrom_names names n 0 [] [] rfl) x.1]; exact h2⟩

/-- into a def of the text -/
theorem enter {d : Stmt} {a : Addr} {args : List Value} {binds : List (Str × Value)} {oc : List Str} {Q : Value → Shared → Prop} (S : Stat mg mb fa H₀) (hf : FnAt H₀ mg d a) (hs : Ex H₀ s.heap) (hroom : A.depth < recursionLimit)
    (hbind : ∀ pm cd doc, bindArgs (docDef (dName d) (dParams d) (dBody d) (dScope d) pm cd doc) ⟨args, []⟩ = pure binds)
    (hkind : ∀ x ∈ binds, (dScope d).names.lookup x.1 = some .local ∨ ((dScope d).names.lookup x.1 = some .cell ∧ ((cellsFrom (s.heap.objs.size + 1) (dScope d).names []).lookup x.1).isSome = true))
    (h : ∀ L cd h₁ tk, Ex s.heap h₁ → Cx H₀ (fun b o => s.heap.get? b = some o) (envOfC (dName d) (dScope d) L a cd) oc [] [] (bindL (envOfC (dName d) (dScope d) L a cd).kindOf binds fun _ => none) (bindC (envOfC (dName d) (dScope d) L a cd).kindOf binds fun _ => none) [] [] h₁ →
      wpAny (model prog w) (A.deeper (envOfC (dName d) (dScope d) L a cd)) (execs (dBody d) (envOfC (dName d) (dScope d) L a cd)) (fun f s' => Q (match f with | .ret v => v | _ => .none) s') No { s with heap := h₁, toks := tk })
    (hco : (dScope d).isCoroutine = false := by rfl) (hgen : (dScope d).isGenerator = false := by rfl) (hk : (dScope d).kind = .function := by rfl) :
    wpAny (model prog w) A (call (.ref a) args) Q E s := by
  obtain ⟨o, pm, cd, doc, h1, h2, h3, h4⟩ := hf
  refine wpAny_call (codeAny_mono (R := fun r s' => match r with | .ok (.ret v) => Q v s' | .ok _ => False | .error e => False) ?_ fun r s' hr => ?_)
  · refine call_cells_ret hroom (hs _ _ h2) h3 (S.nolimit.keeps hs) (h4.keeps hs) (hbind pm cd doc) hkind (fun h₁ tk F X => ?_) hco hgen hk
    refine wpAny_mono (h s.heap.objs.size cd h₁ tk F.keep ?_) (fun f s' hq => hq) fun _ _ e => e
    have big : ∀ n c, (cellsFrom (s.heap.objs.size + 1) (dScope d).names []).lookup n = some c → s.heap.objs.size < c := fun n c e => X.above n c (mem_of_lookup e)
    have nob : ∀ b, s.heap.objs.size ≤ b → ∀ o, ¬ (s.heap.get? b = some o) := fun b hb o e => absurd (Heap.lt_size e) (Nat.not_lt.mpr hb)
    exact ⟨fun b o e => hs b o e, F.ns, F.keep, fun o e => nob _ (Nat.le_refl _) o e, X.cell, fun n c e => Nat.ne_of_gt (big n c e), fun n c n' e e' => name_of_addr X.apart (mem_of_lookup e) (mem_of_lookup e'),
      fun n c _ e o eo => nob c (Nat.le_of_lt (big n c e)) o eo, fun p hp => (nomatch hp), fun p hp => (nomatch hp), fun p hp => (nomatch hp), List.nodup_nil, fun b hb => (nomatch hb), fun b hb => (nomatch hb)⟩
  · cases r with
    | ok f => cases f <;> exact hr
    | error e => exact hr.elim
end

end
-- part F7

section

/-- room for n more calls -/
structure Room (n : Nat) (A : Around) : Prop where
  hh : A.handled = none
  depth : A.depth + n < recursionLimit
  units : A.units + 3 * n + 20 < cLine
theorem Room.deeper {n : Nat} {A : Around} {env : Env} (r : Room (n + 1) A) : Room n (A.deeper env) :=
  ⟨r.hh, by have := r.depth; show A.depth + 1 + n < recursionLimit; (first | lia | omega), by have := r.units; show A.units + 3 + 3 * n + 20 < cLine; (first | lia | omega)⟩
theorem Room.le {n k : Nat} {A : Around} (r : Room n A) (h : k ≤ n) : Room k A := ⟨r.hh, by have := r.depth; (first | lia | omega), by have := r.units; (first | lia | omega)⟩
theorem Room.lt {n : Nat} {A : Around} (r : Room n A) : A.units < cLine := by have := r.units; (first | lia | omega)
theorem Room.lt64 {n : Nat} {A : Around} (r : Room n A) : A.units + 3 * n + 20 < cLine := r.units
theorem Room.room {n : Nat} {A : Around} (r : Room n A) : A.depth < recursionLimit := by have := r.depth; (first | lia | omega)

/-- a dict of counts by texts -/
def strip (vals : List (Str × Int × Tok)) : List (Str × Int) := vals.map fun x => (x.1, x.2.1)
def IsD (prog : Program) (w : World) (o : Obj) (D : List (Str × Int)) : Prop := ∃ vals, o.IsDictOf (PySem.strKind prog w) (intPairs vals) ∧ D = strip vals
theorem IsD.dictOf {prog : Program} {w : World} {o : Obj} {D : List (Str × Int)} (x : IsD prog w o D) {h : Heap} {d : Addr} (e : h.get? d = some o) : ∃ vals, h.DictOf (PySem.strKind prog w) d (intPairs vals) ∧ D = strip vals :=
  let ⟨vals, h1, h2⟩ := x; ⟨vals, Heap.dictOf_iff.mpr ⟨o, e, h1⟩, h2⟩

def vsum (D : List (Str × Int)) : Int := (D.map (·.2)).sum

section
variable {prog : Program} {w : World} {A : Around} {E : Value → Shared → Prop} {s : Shared}
theorem gm_dict {d : Addr} {kvs : List (Str × Value)} {name : Str} {id : String} {pl : Sem Bool} {Q : Value × List Value → Shared → Prop} (hd : s.heap.DictOf (PySem.strKind prog w) d kvs) (slot : Slot "dict" name id)
    (hty : typeOf (.builtin id) = pure (.type "method_descriptor")) (h : Q (.builtin id, [.ref d]) s) : wpAny (model prog w) A (getMethod (.ref d) name pl) Q E s :=
  getMethod_builtin hd.typeIs PySem.F.plainAttrs_dict slot hty hd.mapOf.noDict h
theorem gm_values {d : Addr} {kvs : List (Str × Value)} {pl : Sem Bool} {Q : Value × List Value → Shared → Prop} (hd : s.heap.DictOf (PySem.strKind prog w) d kvs) (h : Q (.builtin "dict.values", [.ref d]) s) :
    wpAny (model prog w) A (getMethod (.ref d) "values" pl) Q E s := gm_dict hd PySem.F.slot_dict_values PySem.F.type_dict_values h
theorem gm_items {d : Addr} {kvs : List (Str × Value)} {pl : Sem Bool} {Q : Value × List Value → Shared → Prop} (hd : s.heap.DictOf (PySem.strKind prog w) d kvs) (h : Q (.builtin "dict.items", [.ref d]) s) :
    wpAny (model prog w) A (getMethod (.ref d) "items" pl) Q E s := gm_dict hd PySem.F.slot_dict_items PySem.F.type_dict_items h
theorem gm_get {d : Addr} {kvs : List (Str × Value)} {pl : Sem Bool} {Q : Value × List Value → Shared → Prop} (hd : s.heap.DictOf (PySem.strKind prog w) d kvs) (h : Q (.builtin "dict.get", [.ref d]) s) :
    wpAny (model prog w) A (getMethod (.ref d) "get" pl) Q E s := gm_dict hd PySem.F.slot_dict_get PySem.F.type_dict_get h
theorem call_values {d : Addr} {kvs : List (Str × Value)} {Q : Value → Shared → Prop} (hd : s.heap.DictOf (PySem.strKind prog w) d kvs) (lo : (d == sysModules) = false)
    (h : ∀ v h', Fresh s.heap v → Ex s.heap h' → h'.IsValuesView v d → Q (.ref v) { s with heap := h' }) : wpAny (model prog w) A (call (.builtin "dict.values") [.ref d]) Q E s :=
  call_meetsIn PySem.F.slot_dict_values hd.typeIs PySem.F.entry_dict_values (PySem.F.args_dict_values_1 _) (meets_dict_values (PySem.strKind prog w) d lo)
    ⟨⟨kvs, hd⟩, h _ _ (Fresh.size _) (ex_push _ _) ⟨_, Heap.get?_push_size _ rfl, rfl, rfl⟩⟩
theorem call_items {d : Addr} {kvs : List (Str × Value)} {Q : Value → Shared → Prop} (hd : s.heap.DictOf (PySem.strKind prog w) d kvs) (lo : (d == sysModules) = false)
    (h : ∀ v h', Fresh s.heap v → Ex s.heap h' → h'.IsItemsView v d → Q (.ref v) { s with heap := h' }) : wpAny (model prog w) A (call (.builtin "dict.items") [.ref d]) Q E s :=
  call_meetsIn PySem.F.slot_dict_items hd.typeIs PySem.F.entry_dict_items (PySem.F.args_dict_items_1 _) (meets_dict_items (PySem.strKind prog w) d lo)
    ⟨⟨kvs, hd⟩, h _ _ (Fresh.size _) (ex_push _ _) ⟨_, Heap.get?_push_size _ rfl, rfl, rfl⟩⟩
end


section
variable {prog : Program} {w : World} {A : Around} {H₀ : Heap} {Base : Addr → Obj → Prop} {env : Env} {oc : List Str} {ps qs : List Addr} {m cm : Str → Option Value} {olds news : List (Addr × Obj)} {M : Model} {E : Value → Shared → Prop} {s : Shared}
variable {mg mb : Str → Option Value} {fa : Nat → Addr}

theorem evL {x : Str} {pos : Pos} {v : Value} {Q : Value → Shared → Prop} (hl : env.kindOf x = some .local) (C : Cx H₀ Base env oc ps qs m cm olds news s.heap) (hv : m x = some v) (h : Q v s)
    (hk : env.scope.kind = .function) (hd : (x == ("__debug__" : Str)) = false) : wpAny M A (eval (.Name x pos) env) Q E s := nmL C hv h hk hl hd
theorem evC {x : Str} {pos : Pos} {c : Addr} {v : Value} {Q : Value → Shared → Prop} (hl : env.kindOf x = some .cell) (C : Cx H₀ Base env oc ps qs m cm olds news s.heap) (hv : cm x = some v) (h : Q v s)
    (hc : env.cells.lookup x = some c) (hk : env.scope.kind = .function) (hd : (x == ("__debug__" : Str)) = false) : wpAny M A (eval (.Name x pos) env) Q E s := nmC C hv h hc hk hl hd
theorem evNT {pos : Pos} {Q : Value → Shared → Prop} (S : Stat mg mb fa H₀) (hl : env.kindOf "NT_OFFSET" = some .globalImplicit) (C : Cx H₀ Base env oc ps qs m cm olds news s.heap) (h : ∀ t, Q (.int 256 t) s)
    (hg : env.globals = mainGlobals) (hk : env.scope.kind = .function) : wpAny M A (eval (.Name "NT_OFFSET" pos) env) Q E s :=
  let ⟨t, e⟩ := S.offset; nmG S C e (h t) hg hk hl
theorem evEM {pos : Pos} {Q : Value → Shared → Prop} (S : Stat mg mb fa H₀) (hl : env.kindOf "ELLIPSIS_MARKER" = some .globalImplicit) (C : Cx H₀ Base env oc ps qs m cm olds news s.heap) (h : ∀ t, Q (.str "..." t) s)
    (hg : env.globals = mainGlobals) (hk : env.scope.kind = .function) : wpAny M A (eval (.Name "ELLIPSIS_MARKER" pos) env) Q E s :=
  let ⟨t, e⟩ := S.marker; nmG S C e (h t) hg hk hl

/-- a call of a def of the text by its name -/
theorem evF (i : Nat) {x : Str} {p pos : Pos} {e : Expr} {rest : List Expr} {Q : Value → Shared → Prop} (S : Stat mg mb fa H₀) (hi : i ∈ [2, 3, 6, 10, 13, 14, 16, 17, 18, 19, 20, 21]) (hx : dName (stmtAt i) = x) (hl : env.kindOf x = some .globalImplicit)
    (C : Cx H₀ Base env oc ps qs m cm olds news s.heap)
    (h : wpAny M A (spliced (backTo pos (starEach (e :: rest) env))) (fun vs s₁ => Ex H₀ s₁.heap ∧ wpAny M A (call (.ref (fa i)) vs) Q E s₁) E s)
    (hg : env.globals = mainGlobals) (hk : env.scope.kind = .function) (hd : (x == ("__debug__" : Str)) = false)
    (he : starEach (e :: rest) env = (false, eval e env) :: starEach rest env) (hp : ((backTo pos (starEach rest env)).any (·.1)) = false)
    (hc : eval (.Call (.Name x p) (e :: rest) [] pos) env = (do callWith pos (← eval (.Name x p) env) [] (backTo pos (starEach (e :: rest) env)) (backToKw pos (keywordEach [] env)))) :
    wpAny M A (eval (.Call (.Name x p) (e :: rest) [] pos) env) Q E s := by
  obtain ⟨o, pm, cd, doc, h1, h2, h3, h4⟩ := S.fn i hi
  rw [hx] at h1
  refine Call_ (nmG S C h1 ?_ hg hk hl hd) hc
  exact callWith_def h3 (wpAny_mono h (fun vs s₁ q => ⟨q.1 _ _ h2, q.2⟩) fun _ _ e => e) he
/-- a call of a built-in function by its name -/
theorem evB {id : String} {x : Str} {p pos : Pos} {e : Expr} {rest : List Expr} {Q : Value → Shared → Prop} (S : Stat mg mb fa H₀) (hv : bootBuiltins x = some (.builtin id)) (hf : x ∈ (["isinstance", "tuple", "zip", "len", "enumerate", "chr", "ord", "sorted", "range", "abs", "sum", "min", "max"] : List Str))
    (hl : env.kindOf x = some .globalImplicit) (C : Cx H₀ Base env oc ps qs m cm olds news s.heap)
    (h : wpAny M A (spliced (backTo pos (starEach (e :: rest) env))) (fun vs s₁ => wpAny M A (call (.builtin id) vs) Q E s₁) E s)
    (hn : x ≠ "__name__") (hg : env.globals = mainGlobals) (hb : env.builtins = builtinsNs) (hk : env.scope.kind = .function) (hd : (x == ("__debug__" : Str)) = false)
    (he : starEach (e :: rest) env = (false, eval e env) :: starEach rest env) (hp : ((backTo pos (starEach rest env)).any (·.1)) = false)
    (hc : eval (.Call (.Name x p) (e :: rest) [] pos) env = (do callWith pos (← eval (.Name x p) env) [] (backTo pos (starEach (e :: rest) env)) (backToKw pos (keywordEach [] env)))) :
    wpAny M A (eval (.Call (.Name x p) (e :: rest) [] pos) env) Q E s :=
  Call_ (nmB S C (S.free x hf) hv (PyProof.Rows.callWith_builtin1 h he hp) hn hg hb hk hl hd) hc
theorem evT {T : String} {x : Str} {p pos : Pos} {e : Expr} {rest : List Expr} {Q : Value → Shared → Prop} (S : Stat mg mb fa H₀) (hv : bootBuiltins x = some (.type T)) (hf : x ∈ (["isinstance", "tuple", "zip", "len", "enumerate", "chr", "ord", "sorted", "range", "abs", "sum", "min", "max"] : List Str))
    (hl : env.kindOf x = some .globalImplicit) (C : Cx H₀ Base env oc ps qs m cm olds news s.heap)
    (h : wpAny M A (spliced (backTo pos (starEach (e :: rest) env))) (fun vs s₁ => wpAny M A (call (.type T) vs) Q E s₁) E s)
    (hn : x ≠ "__name__") (hg : env.globals = mainGlobals) (hb : env.builtins = builtinsNs) (hk : env.scope.kind = .function) (hd : (x == ("__debug__" : Str)) = false)
    (he : starEach (e :: rest) env = (false, eval e env) :: starEach rest env) (hp : ((backTo pos (starEach rest env)).any (·.1)) = false)
    (hc : eval (.Call (.Name x p) (e :: rest) [] pos) env = (do callWith pos (← eval (.Name x p) env) [] (backTo pos (starEach (e :: rest) env)) (backToKw pos (keywordEach [] env)))) :
    wpAny M A (eval (.Call (.Name x p) (e :: rest) [] pos) env) Q E s :=
  Call_ (nmB S C (S.free x hf) hv (PyProof.Rows.callWith_type1 h he hp) hn hg hb hk hl hd) hc

/-- a slice of a text -/
theorem keptEx {h₀ : Heap} : KeptH (fun h => Ex h₀ h) := fun _ ob k => k.push ob
theorem sliceNS {value slice : Expr} {x : Str} {t : Tok} {j : Int} {uj : Tok} {Q : Value → Shared → Prop} (h : ∀ h' t' k, Ex s.heap h' → Q (.str (Txt.slice x none (some j)) t') { s with heap := h', toks := k }) (hsz : x.length ≤ sizeLine)
    (hs : subscripted slice false (.str x t) (.ref s.heap.objs.size) = operate [.ref s.heap.objs.size, .str x t] (getItem (.str x t) (.ref s.heap.objs.size))) (ht : ∀ r, letTemporaryGo value (.str x t) r = pure ()) :
    wpAny (model prog w) A (subscriptTail value slice (.str x t) (.ref s.heap.objs.size)) Q E { s with heap := s.heap.push { cls := .type "slice", data := .fields #[.none, .int j uj, .none] } } :=
  tail_of_ItemOn (SBH.sliceItem_ns keptEx Ex.rfl h hsz) hs ht
theorem sliceSN {value slice : Expr} {x : Str} {t : Tok} {i : Int} {ui : Tok} {Q : Value → Shared → Prop} (h : ∀ h' t' k, Ex s.heap h' → Q (.str (Txt.slice x (some i) none) t') { s with heap := h', toks := k }) (hsz : x.length ≤ sizeLine)
    (hs : subscripted slice false (.str x t) (.ref s.heap.objs.size) = operate [.ref s.heap.objs.size, .str x t] (getItem (.str x t) (.ref s.heap.objs.size))) (ht : ∀ r, letTemporaryGo value (.str x t) r = pure ()) :
    wpAny (model prog w) A (subscriptTail value slice (.str x t) (.ref s.heap.objs.size)) Q E { s with heap := s.heap.push { cls := .type "slice", data := .fields #[.int i ui, .none, .none] } } :=
  tail_of_ItemOn (SBH.sliceItem_sn keptEx Ex.rfl h hsz) hs ht
theorem sliceSS {value slice : Expr} {x : Str} {t : Tok} {i j : Int} {ui uj : Tok} {Q : Value → Shared → Prop} (h : ∀ h' t' k, Ex s.heap h' → Q (.str (Txt.slice x (some i) (some j)) t') { s with heap := h', toks := k }) (hsz : x.length ≤ sizeLine)
    (hs : subscripted slice false (.str x t) (.ref s.heap.objs.size) = operate [.ref s.heap.objs.size, .str x t] (getItem (.str x t) (.ref s.heap.objs.size))) (ht : ∀ r, letTemporaryGo value (.str x t) r = pure ()) :
    wpAny (model prog w) A (subscriptTail value slice (.str x t) (.ref s.heap.objs.size)) Q E { s with heap := s.heap.push { cls := .type "slice", data := .fields #[.int i ui, .int j uj, .none] } } :=
  tail_of_ItemOn (SBH.sliceItem_ss keptEx Ex.rfl h hsz) hs ht

theorem vsum_snoc (D : List (Str × Int)) (k : Str) (n : Int) : vsum (D ++ [(k, n)]) = vsum D + n := by simp [vsum]
theorem vsum_take {D : List (Str × Int)} {i : Nat} {k : Str} {n : Int} (h : D[i]? = some (k, n)) : vsum (D.take (i + 1)) = vsum (D.take i) + n := by
  rw [List.take_add_one, h]; exact vsum_snoc _ _ _
theorem strip_at {vals : List (Str × Int × Tok)} {i : Nat} {k : Str} {v : Value} (h : (intPairs vals)[i]? = some (k, v)) : ∃ n t, v = .int n t ∧ (strip vals)[i]? = some (k, n) := by
  unfold intPairs at h
  rw [List.getElem?_map] at h
  cases hv : vals[i]? with
  | none => rw [hv] at h; cases h
  | some x =>
    rw [hv] at h
    obtain ⟨k', n, t⟩ := x
    simp only [Option.map_some, Option.some.injEq, Prod.mk.injEq] at h
    obtain ⟨rfl, rfl⟩ := h
    exact ⟨n, t, rfl, by unfold strip; rw [List.getElem?_map, hv]; rfl⟩
theorem strip_len (vals : List (Str × Int × Tok)) : (strip vals).length = (intPairs vals).length := by simp [strip, intPairs]
end

end
-- part F8

section

theorem iteT {b : Bool} (hb : b = true) {p q : Prop} (h : p) : if b = true then p else q := by rw [if_pos hb]; exact h
theorem iteF {b : Bool} (hb : b = false) {p q : Prop} (h : q) : if b = true then p else q := by rw [if_neg (by rw [hb]; exact Bool.false_ne_true)]; exact h
/-- dicts of counts, plain -/
def dget (D : List (Str × Int)) (k : Str) : Option Int := (D.find? fun x => decide (x.1 = k)).map (·.2)
def dput (D : List (Str × Int)) (k : Str) (v : Int) : List (Str × Int) := if D.any (fun x => decide (x.1 = k)) then D.map (fun x => if x.1 = k then (x.1, v) else x) else D ++ [(k, v)]
def dsame (D₁ D₂ : List (Str × Int)) : Bool := D₁.all fun x => dget D₂ x.1 == some x.2

theorem strip_find (vals : List (Str × Int × Tok)) (k : Str) : dget (strip vals) k = (vals.find? fun x => decide (x.1 = k)).map (·.2.1) := by
  unfold dget strip
  rw [List.find?_map, Option.map_map]
  rfl
theorem valueAt_strip {vals : List (Str × Int × Tok)} {k : Str} {n : Int} (h : dget (strip vals) k = some n) : ∃ t, valueAt (intPairs vals) k = some (.int n t) := by
  rw [strip_find] at h
  rw [valueAt_intPairs]
  cases hf : vals.find? (fun x => decide (x.1 = k)) with
  | none => rw [hf] at h; cases h
  | some x => rw [hf] at h; cases h; exact ⟨_, rfl⟩
theorem valueAt_none {vals : List (Str × Int × Tok)} {k : Str} (h : dget (strip vals) k = none) : valueAt (intPairs vals) k = none := by
  rw [strip_find] at h
  rw [valueAt_intPairs]
  cases hf : vals.find? (fun x => decide (x.1 = k)) with
  | none => rfl
  | some x => rw [hf] at h; cases h
theorem valueAt_isSome (vals : List (Str × Int × Tok)) (k : Str) : (valueAt (intPairs vals) k).isSome = (dget (strip vals) k).isSome := by
  rw [strip_find, valueAt_intPairs, Option.isSome_map, Option.isSome_map]

theorem stored_strip (vals : List (Str × Int × Tok)) (k : Str) (v : Int) (t : Tok) : ∃ vals', stored (intPairs vals) k (.int v t) = intPairs vals' ∧ strip vals' = dput (strip vals) k v := by
  refine ⟨if vals.any (fun x => decide (x.1 = k)) then vals.map (fun x => if x.1 = k then (x.1, v, t) else x) else vals ++ [(k, v, t)], ?_, ?_⟩
  · unfold stored intPairs
    rw [List.any_map]
    show (if vals.any (fun x => decide (x.1 = k)) = true then _ else _) = _
    by_cases h : vals.any (fun x => decide (x.1 = k)) = true
    · rw [if_pos h, if_pos h, List.map_map, List.map_map]
      refine List.map_congr_left fun x _ => ?_
      show (if x.1 = k then _ else _) = _
      by_cases hx : x.1 = k
      · simp [hx]
      · simp [hx]
    · rw [if_neg h, if_neg h, List.map_append]; rfl
  · unfold strip dput
    rw [List.any_map]
    show _ = (if vals.any (fun x => decide (x.1 = k)) = true then _ else _)
    by_cases h : vals.any (fun x => decide (x.1 = k)) = true
    · rw [if_pos h, if_pos h, List.map_map, List.map_map]
      refine List.map_congr_left fun x _ => ?_
      by_cases hx : x.1 = k <;> simp [hx]
    · rw [if_neg h, if_neg h, List.map_append]; rfl

section
variable {prog : Program} {w : World} {A : Around} {H₀ : Heap} {Base : Addr → Obj → Prop} {env : Env} {oc : List Str} {ps qs : List Addr} {m cm : Str → Option Value} {olds news : List (Addr × Obj)} {E : Value → Shared → Prop} {s : Shared}

theorem IsD.nodup {o : Obj} {D : List (Str × Int)} (x : IsD prog w o D) : (D.map (·.1)).Nodup := by
  obtain ⟨vals, ⟨es, ep, _, _, _, _, hn⟩, rfl⟩ := x
  unfold intPairs at hn
  unfold strip
  rw [List.map_map] at hn ⊢
  exact hn

theorem setD_C {d : Addr} {o : Obj} {D : List (Str × Int)} {k : Str} {tk : Tok} {v : Int} {tv : Tok} {l₁ l₂ : List (Addr × Obj)} {Q : Unit → Shared → Prop} (C : Cx H₀ Base env oc ps qs m cm olds (l₁ ++ (d, o) :: l₂) s.heap) (hD : IsD prog w o D)
    (hsz : D.length ≤ sizeLine) (h : ∀ h' o', Cx H₀ Base env oc ps qs m cm olds (l₁ ++ (d, o') :: l₂) h' → IsD prog w o' (dput D k v) → Q () { s with heap := h', toks := s.toks + 1 }) :
    wpAny (model prog w) A (setItem (.ref d) (.str k tk) (.int v tv)) Q E s := by
  obtain ⟨vals, hd, rfl⟩ := hD
  have hda : s.heap.DictOf (PySem.strKind prog w) d (intPairs vals) := Heap.dictOf_iff.mpr ⟨o, C.get_new (List.mem_append_right _ List.mem_cons_self), hd⟩
  refine wpAny_setItem_pairs (k := k) (key := .str k tk) (beq_self_eq_true k) hda (fun h' hd' hs => ?_) (by rw [← strip_len]; exact hsz)
  obtain ⟨o', ho', hd''⟩ := Heap.dictOf_iff.mp hd'
  obtain ⟨vals', e1, e2⟩ := stored_strip vals k v tv
  exact h h' o' (C.upd hs.extBut ho') ⟨vals', e1 ▸ hd'', e2.symm⟩

theorem getD {d : Addr} {o : Obj} {D : List (Str × Int)} {k : Str} {tk : Tok} {n : Int} {Q : Value → Shared → Prop} (ho : s.heap.get? d = some o) (hD : IsD prog w o D) (hk : dget D k = some n)
    (h : ∀ t, Q (.int n t) { s with toks := s.toks + 1 }) : wpAny (model prog w) A (getItem (.ref d) (.str k tk)) Q E s := by
  obtain ⟨vals, hd, rfl⟩ := hD
  obtain ⟨t, e⟩ := valueAt_strip hk
  exact wpAny_getItem_of (k := k) (beq_self_eq_true k) (Heap.DictOf.mapOf (Heap.dictOf_iff.mpr ⟨o, ho, hd⟩)) e (h t)
theorem inD {d : Addr} {o : Obj} {D : List (Str × Int)} {k : Str} {tk : Tok} {Q : Value → Shared → Prop} (ho : s.heap.get? d = some o) (hD : IsD prog w o D) (lo : (d == sysModules) = false)
    (h : Q (.bool (dget D k).isSome) { s with toks := s.toks + 1 }) : wpAny (model prog w) A (compareOp .In (.str k tk) (.ref d)) Q E s := by
  obtain ⟨vals, hd, rfl⟩ := hD
  refine wpAny_in_of (k := k) (beq_self_eq_true k) lo (Heap.DictOf.mapOf (Heap.dictOf_iff.mpr ⟨o, ho, hd⟩)) ?_
  rw [valueAt_isSome]; exact h
theorem get2D {d : Addr} {o : Obj} {D : List (Str × Int)} {pos : Pos} {x y : Sem Value} {Q : Value → Shared → Prop} (hD : IsD prog w o D) (lo : (d == sysModules) = false)
    (h : wpAny (model prog w) A x (fun key s₁ => wpAny (model prog w) A y (fun dflt s₂ => ∃ k tk n t, key = .str k tk ∧ dflt = .int n t ∧ s₂.heap.get? d = some o ∧ ∀ t', Q (.int ((dget D k).getD n) t') { s₂ with toks := s₂.toks + 1 }) E s₁) E s) :
    wpAny (model prog w) A (callWith pos (.builtin "dict.get") [.ref d] [(false, x), (false, y)] []) Q E s := by
  obtain ⟨vals, hd, rfl⟩ := hD
  refine wpAny_dict_get2 (knd := PySem.strKind prog w) lo (wpAny_mono h (fun key s₁ h₁ => wpAny_mono h₁ (fun dflt s₂ h₂ => ?_) fun _ _ e => e) fun _ _ e => e)
  obtain ⟨k, tk, n, t, rfl, rfl, ho, hq⟩ := h₂
  refine ⟨k, _, beq_self_eq_true k, Heap.DictOf.mapOf (Heap.dictOf_iff.mpr ⟨o, ho, hd⟩), ?_⟩
  cases hk : dget (strip vals) k with
  | none => rw [valueAt_none hk]; rw [hk] at hq; exact hq _
  | some n' => obtain ⟨t', e⟩ := valueAt_strip hk; rw [e]; rw [hk] at hq; exact hq _

theorem hitsD (kb : List (Str × Int × Tok)) : ∀ ka : List (Str × Int × Tok), KeqHits A s (intPairs kb) (intPairs ka) (dsame (strip ka) (strip kb))
  | [] => .nil
  | (k, n, t) :: ka => by
    have ih := hitsD kb ka
    show KeqHits A s (intPairs kb) ((k, .int n t) :: intPairs ka) ((dget (strip kb) k == some n) && dsame (strip ka) (strip kb))
    cases hk : dget (strip kb) k with
    | none => exact .miss (valueAt_none hk)
    | some n' =>
      obtain ⟨t', e⟩ := valueAt_strip hk
      refine .hit e (fun prog w E Q hq => ?_) ih
      have := keq_flat (A := A) (s := s) (PyProof.V.Flat.int n t) (PyProof.V.Flat.int n' t') prog w E Q
      refine this ?_
      have he : PyData.eqv (.int n) (.int n') = (some n' == some n) := by
        by_cases hn : n = n'
        · subst hn; simp [PyData.eqv]
        · have h1 : (some n' == some n) = false := by simp [Ne.symm hn]
          rw [h1]; simp [PyData.eqv, hn]
      rw [he]; exact hq
theorem eqD {a b : Addr} {oa ob : Obj} {Da Db : List (Str × Int)} {Q : Value → Shared → Prop} (ha : s.heap.get? a = some oa) (hb : s.heap.get? b = some ob) (hDa : IsD prog w oa Da) (hDb : IsD prog w ob Db)
    (la : (a == sysModules) = false) (lb : (b == sysModules) = false) (hu : A.units < cLine) (h : Q (.bool (Da.length == Db.length && dsame Da Db)) s) : wpAny (model prog w) A (compareOp .Eq (.ref a) (.ref b)) Q E s := by
  obtain ⟨va, hda, rfl⟩ := hDa
  obtain ⟨vb, hdb, rfl⟩ := hDb
  refine keq_eq la lb (Heap.dictOf_iff.mpr ⟨oa, ha, hda⟩) (Heap.dictOf_iff.mpr ⟨ob, hb, hdb⟩) hu (fun _ => hitsD vb va) ?_
  rw [← strip_len, ← strip_len]; exact h
theorem neD {a b : Addr} {oa ob : Obj} {Da Db : List (Str × Int)} {Q : Value → Shared → Prop} (ha : s.heap.get? a = some oa) (hb : s.heap.get? b = some ob) (hDa : IsD prog w oa Da) (hDb : IsD prog w ob Db)
    (la : (a == sysModules) = false) (lb : (b == sysModules) = false) (hu : A.units < cLine) (h : Q (.bool (!(Da.length == Db.length && dsame Da Db))) s) : wpAny (model prog w) A (compareOp .NotEq (.ref a) (.ref b)) Q E s := by
  obtain ⟨va, hda, rfl⟩ := hDa
  obtain ⟨vb, hdb, rfl⟩ := hDb
  refine keq_ne la lb (Heap.dictOf_iff.mpr ⟨oa, ha, hda⟩) (Heap.dictOf_iff.mpr ⟨ob, hb, hdb⟩) hu (fun _ => hitsD vb va) ?_
  rw [← strip_len, ← strip_len]; exact h

theorem newD0_is (prog : Program) (w : World) : IsD prog w { cls := .type "dict", data := .dict #[] } [] := by
  have h := Heap.dictOf_iff.mp (Heap.DictOf.new (knd := PySem.strKind prog w) {})
  obtain ⟨o, ho, hd⟩ := h
  have he := Heap.get?_push_size (h := ({} : Heap)) (o := { cls := .type "dict", data := .dict #[] }) rfl
  rw [he] at ho
  cases ho
  exact ⟨[], hd, rfl⟩
theorem Dict0_C {pos : Pos} {Q : Value → Shared → Prop} (C : Cx H₀ Base env oc ps qs m cm olds news s.heap)
    (h : ∀ a o h', Fresh s.heap a → Ex s.heap h' → Cx H₀ Base env oc ps qs m cm olds ((a, o) :: news) h' → IsD prog w o [] → Q (.ref a) { s with heap := h' }) : wpAny (model prog w) A (eval (.Dict [] [] pos) env) Q E s :=
  wpAny_Dict_empty (h _ _ _ (Fresh.size _) (ex_push _ _) (C.addNew (ex_push _ _) (next_none _) (push_live rfl)) (newD0_is prog w))

theorem Ex_sameBut {h h₁ h' : Heap} {a : Addr} (k : Ex h h₁) (hn : h.get? a = none) (hs : Heap.SameBut a h₁ h') : Ex h h' :=
  fun b o e => hs.extBut b o (fun q => by rw [q, hn] at e; cases e) (k b o e)
/-- a dict display of one pair -/
theorem Dict1_C {ke ve : Expr} {pos : Pos} {Q : Value → Shared → Prop} (C : Cx H₀ Base env oc ps qs m cm olds news s.heap)
    (h : ∀ h₁, Ex s.heap h₁ → Cx H₀ Base env oc ps qs m cm olds news h₁ → wpAny (model prog w) A (eval ke env) (fun kv s₁ => ∃ k tk, kv = .str k tk ∧
      wpAny (model prog w) A (eval ve env) (fun vv s₂ => ∃ v tv, vv = .int v tv ∧ Ex h₁ s₂.heap ∧ ∀ a o h', Fresh s.heap a → Ex s.heap h' → Cx H₀ Base env oc ps qs m cm olds ((a, o) :: news) h' → IsD prog w o [(k, v)] → Q (.ref a) { s₂ with heap := h', toks := s₂.toks + 1 }) E s₁) E { s with heap := h₁ })
    (hshape : (evalEachOpt [some ke] env).zip ((evalEach [ve] env).map fun v => do let x ← v; standAt pos; pure x) = [(some (eval ke env), (do let x ← eval ve env; standAt pos; pure x))]) :
    wpAny (model prog w) A (eval (.Dict [some ke] [ve] pos) env) Q E s := by
  refine wpAny_Dict_pairs (knd := PySem.strKind prog w) (pairs := [(eval ke env, (do let x ← eval ve env; standAt pos; pure x))]) hshape (by intro e; cases e) (Nat.le_of_ble_eq_true rfl) ?_
  refine evalPairs_cons (wpAny_mono (h _ (ex_push _ _) (C.keeps (ex_push _ _))) (fun kv s₁ h₁ => ?_) fun _ _ e => e)
  obtain ⟨k, tk, rfl, h₁⟩ := h₁
  refine wpAny_bind (wpAny_mono h₁ (fun vv s₂ h₂ => wpAny_bind (wpAny_standAt (wpAny_pure ?_))) fun _ _ e => e)
  obtain ⟨v, tv, rfl, k2, hq⟩ := h₂
  refine evalPairs_nil ⟨[(k, .int v tv)], ⟨beq_self_eq_true k, rfl, trivial⟩, ?_, fun h' hd hs => ?_⟩
  · have := Heap.DictOf.new (knd := PySem.strKind prog w) s.heap
    obtain ⟨o, ho, hd⟩ := Heap.dictOf_iff.mp this
    exact Heap.dictOf_iff.mpr ⟨o, k2 _ _ ho, hd⟩
  · obtain ⟨o, ho, hd'⟩ := Heap.dictOf_iff.mp hd
    have kk : Ex s.heap h' := Ex_sameBut ((ex_push _ _).trans k2) (next_none _) hs
    exact hq _ o h' (Fresh.size _) kk (C.addNew kk (next_none _) ho) ⟨[(k, v, tv)], hd', rfl⟩
theorem truthyD {d : Addr} {o : Obj} {D : List (Str × Int)} {Q : Bool → Shared → Prop} (ho : s.heap.get? d = some o) (hD : IsD prog w o D) (lo : (d == sysModules) = false) (hfit : D.length < 2 ^ 63)
    (h : Q (!D.isEmpty) { s with toks := s.toks + 1 + 1 }) : wpAny (model prog w) A (truthy (.ref d)) Q E s := by
  obtain ⟨vals, hd, rfl⟩ := hD
  refine wpAny_truthy_dict lo (Heap.dictOf_iff.mpr ⟨o, ho, hd⟩) (by rw [← strip_len]; (first | lia | omega)) ?_
  have : (intPairs vals).isEmpty = (strip vals).isEmpty := by cases vals <;> rfl
  rw [this]; exact h
end
section
variable {prog : Program} {w : World} {A : Around} {H₀ : Heap} {mg mb : Str → Option Value} {fa : Nat → Addr} {E : Value → Shared → Prop} {s : Shared}
theorem Stat.main (S : Stat mg mb fa H₀) {h : Heap} (k : Ex H₀ h) : ∃ o, h.get? mainGlobals = some o := let ⟨o, _, _, e, _⟩ := S.g; ⟨o, k _ _ e⟩
section
variable {Base : Addr → Obj → Prop} {env : Env} {oc : List Str} {ps qs : List Addr} {m cm : Str → Option Value} {olds news : List (Addr × Obj)}
theorem Ex_extBut {h h' : Heap} (hx : Heap.ExtBut h.objs.size h h') : Ex h h' := fun b o e => hx b o (fun q => by rw [q, next_none] at e; cases e) e
theorem asT2 {x y : Str} {px py pos : Pos} {kk : Nat} {T : Addr} {v₁ v₂ : Value} {Q : Unit → Shared → Prop} (hh : A.handled = none) (C : Cx H₀ Base env oc ps qs m cm olds news s.heap) (hT : s.heap.IsTuple T #[v₁, v₂])
    (h : ∀ h', Cx H₀ Base env oc ps qs (fun z => if z = y then some v₂ else if z = x then some v₁ else m z) cm olds news h' → Q () { s with heap := h', toks := s.toks + 1 + 1 })
    (hk : env.scope.kind = .function := by rfl) (hx : env.kindOf x = some .local := by rfl) (hy : env.kindOf y = some .local := by rfl) :
    wpAny (model prog w) A (assign (.Tuple [.Name x px, .Name y py] kk pos) env (.ref T)) Q E s := by
  refine wpAny_assign_Tuple hh hT rfl rfl fun h₁ hx₁ => ?_
  have C₁ := C.keeps (Ex_extBut hx₁)
  refine wpAny_assignInOrder_more ?_
  refine asL C₁ (fun h₂ C₂ => ?_) hk hx
  refine wpAny_assignInOrder_more ?_
  refine asL C₂ (fun h₃ C₃ => ?_) hk hy
  exact wpAny_assignInOrder_none (h _ C₃)
theorem evTY {T : String} {x : Str} {p : Pos} {Q : Value → Shared → Prop} {M : Model} (S : Stat mg mb fa H₀) (hv : bootBuiltins x = some (.type T)) (hf : x ∈ (["isinstance", "tuple", "zip", "len", "enumerate", "chr", "ord", "sorted", "range", "abs", "sum", "min", "max"] : List Str))
    (hl : env.kindOf x = some .globalImplicit) (C : Cx H₀ Base env oc ps qs m cm olds news s.heap) (h : Q (.type T) s)
    (hn : x ≠ "__name__") (hg : env.globals = mainGlobals) (hb : env.builtins = builtinsNs) (hk : env.scope.kind = .function) (hd : (x == ("__debug__" : Str)) = false) :
    wpAny M A (eval (.Name x p) env) Q E s := nmB S C (S.free x hf) hv h hn hg hb hk hl hd
end

theorem While_C {env : Env} {test : Expr} {body : List Stmt} {pos : Pos} {Q : Flow → Shared → Prop} (I : Nat → Shared → Prop)
    (turn : ∀ n s, I n s → wpAny (model prog w) A (PySem.isTrue test env (eval test env)) (fun b s₂ => if b = true then
      wpAny (model prog w) A (execs body env) (fun f s₃ => match f with | .next => ∃ m, m < n ∧ I m s₃ | .cont => ∃ m, m < n ∧ I m s₃ | .brk => Q .next s₃ | .ret v => Q (.ret v) s₃) No s₂
      else Q .next s₂) No s) {n : Nat} (h : I n s) : wpAny (model prog w) A (exec (.While test body [] pos) env) Q No s := by
  refine wpAny_While (codeAny_mono (R := fun r s' => match r with | .ok f => Q f s' | .error _ => False) (codeAny_whileLoop I (fun n s hI => ?_) n h) fun r s' hr => ?_)
  · refine wpAny_mono (turn n s hI) (fun b s₂ h₂ => ?_) fun _ _ e => e.elim
    cases b with
    | true =>
      simp only [if_true] at h₂ ⊢
      exact wpAny_mono h₂ (fun f s₃ h₃ => by cases f <;> exact h₃) fun _ _ e => e.elim
    | false =>
      simp only [Bool.false_eq_true, if_false] at h₂ ⊢
      exact wpAny_execs_nil h₂
  · cases r with
    | ok f => exact hr
    | error e => exact hr.elim
end

end
-- part P1

section
open PySem.Builtin.Str

/-- texts as lists of signs -/
def tx (l : List Nat) : Str := ⟨l.toArray⟩
theorem tx_ext {x : Str} {l : List Nat} (h : x.cps.toList = l) : x = tx l := by subst h; rfl
theorem tx_append (a b : List Nat) : tx a ++ tx b = tx (a ++ b) := tx_ext (by show (a.toArray ++ b.toArray).toList = a ++ b; simp)
theorem tx_len (a : List Nat) : (tx a).length = a.length := by show a.toArray.size = _; rw [List.size_toArray]
theorem tx_inj {a b : List Nat} (h : tx a = tx b) : a = b := by
  have : (tx a).cps.toList = (tx b).cps.toList := by rw [h]
  exact this
theorem tx_sub (a : List Nat) (i j : Nat) : strSub (tx a) i j = tx ((a.drop i).take (j - i)) := tx_ext (StrLaws.strSub_toList _ _ _)
theorem tx_at (a y : List Nat) (i : Nat) : subAt (tx a) (tx y) i = decide ((a.drop i).take y.length = y) := by
  rw [StrLaws.subAt_eq, tx_len]; show ((a.drop i).take y.length == y) = _; by_cases h : (a.drop i).take y.length = y <;> simp [h]

/-- a sign between the parts -/
def joinL (g : List Nat) : List (List Nat) → List Nat
  | [] => []
  | [p] => p
  | p :: q :: r => p ++ g ++ joinL g (q :: r)
theorem join_tx (g : List Nat) : ∀ ps : List Str, Str.join (tx g) ps = tx (joinL g (ps.map (·.cps.toList)))
  | [] => rfl
  | [p] => tx_ext rfl
  | p :: q :: r => by
    show p ++ tx g ++ Str.join (tx g) (q :: r) = _
    rw [join_tx g (q :: r)]
    show tx p.cps.toList ++ _ ++ _ = _
    rw [tx_append, tx_append]; rfl
theorem cut_eq {c : Nat} : ∀ {p r a b : List Nat}, c ∉ p → c ∉ r → p ++ c :: a = r ++ c :: b → p = r ∧ a = b
  | [], [], a, b, _, _, h => by simpa using h
  | [], x :: r, a, b, _, hr, h => by
    simp only [List.nil_append, List.cons_append, List.cons.injEq] at h
    exact absurd (h.1 ▸ List.mem_cons_self) hr
  | x :: p, [], a, b, hp, _, h => by
    simp only [List.nil_append, List.cons_append, List.cons.injEq] at h
    exact absurd (h.1 ▸ List.mem_cons_self) hp
  | x :: p, y :: r, a, b, hp, hr, h => by
    simp only [List.cons_append, List.cons.injEq] at h
    obtain ⟨h1, h2⟩ := cut_eq (List.not_mem_of_not_mem_cons hp) (List.not_mem_of_not_mem_cons hr) h.2
    exact ⟨by rw [h.1, h1], h2⟩
theorem joinL_two {c : Nat} {r l : List Nat} (hr : c ∉ r) (hl : c ∉ l) : ∀ {ps : List (List Nat)}, (∀ p ∈ ps, c ∉ p) → joinL [c] ps = r ++ c :: l → ps = [r, l]
  | [], _, h => by simp [joinL] at h
  | [p], hp, h => by
    have : c ∈ p := by
      show c ∈ joinL [c] [p]
      rw [h]; simp
    exact absurd this (hp p List.mem_cons_self)
  | p :: q :: t, hp, h => by
    have h' : p ++ c :: joinL [c] (q :: t) = r ++ c :: l := by simpa [joinL] using h
    obtain ⟨h1, h2⟩ := cut_eq (hp p List.mem_cons_self) hr h'
    cases t with
    | nil => rw [h1, show q = l from h2]
    | cons u t =>
      have : c ∈ joinL [c] (q :: u :: t) := by simp [joinL]
      rw [h2] at this
      exact absurd this hl
theorem split_two {c : Nat} {r l : List Nat} (hr : c ∉ r) (hl : c ∉ l) : Txt.split (tx (r ++ c :: l)) (tx [c]) = [tx r, tx l] := by
  have h1 := StrLaws.join_split (tx (r ++ c :: l)) (tx [c])
  rw [join_tx] at h1
  have h2 := joinL_two hr hl (ps := (Txt.split (tx (r ++ c :: l)) (tx [c])).map (·.cps.toList)) (fun p hp => by
    obtain ⟨q, hq, rfl⟩ := List.mem_map.mp hp
    exact StrLaws.split_free _ c q hq) (tx_inj h1)
  match hs : Txt.split (tx (r ++ c :: l)) (tx [c]), h2 with
  | [a, b], h2 =>
    simp only [hs, List.map_cons, List.map_nil, List.cons.injEq, and_true] at h2
    rw [tx_ext h2.1, tx_ext h2.2]
  | [], h2 => simp [hs] at h2
  | [_], h2 => simp [hs] at h2
  | _ :: _ :: _ :: _, h2 => simp [hs] at h2

/-- each mark doubled -/
def dbl (c : Nat) (l : List Nat) : List Nat := l.flatMap fun a => if a = c then [c, c] else [a]
theorem dbl_append (c : Nat) (a b : List Nat) : dbl c (a ++ b) = dbl c a ++ dbl c b := by unfold dbl; rw [List.flatMap_append]
theorem dbl_free {c : Nat} : ∀ {l : List Nat}, c ∉ l → dbl c l = l
  | [], _ => rfl
  | a :: l, h => by
    show (if a = c then [c, c] else [a]) ++ dbl c l = _
    rw [if_neg (fun e : a = c => h (e ▸ List.mem_cons_self)), dbl_free (List.not_mem_of_not_mem_cons h)]; rfl
theorem dbl_join {c : Nat} : ∀ {ps : List (List Nat)}, (∀ p ∈ ps, c ∉ p) → joinL [c, c] ps = dbl c (joinL [c] ps)
  | [], _ => rfl
  | [p], h => (dbl_free (h p List.mem_cons_self)).symm
  | p :: q :: r, h => by
    show p ++ [c, c] ++ joinL [c, c] (q :: r) = dbl c (p ++ [c] ++ joinL [c] (q :: r))
    rw [dbl_append, dbl_append, dbl_free (h p List.mem_cons_self), dbl_join fun p' hp => h p' (List.mem_cons_of_mem _ hp)]
    simp [dbl]
theorem dbl_len (c : Nat) : ∀ l : List Nat, (dbl c l).length ≤ 2 * l.length
  | [] => Nat.le_refl _
  | a :: l => by
    have := dbl_len c l
    show ((if a = c then [c, c] else [a]) ++ dbl c l).length ≤ _
    rw [List.length_append, List.length_cons]
    by_cases h : a = c
    · rw [if_pos h]; show 2 + _ ≤ _; (first | lia | omega)
    · rw [if_neg h]; show 1 + _ ≤ _; (first | lia | omega)
theorem found_tx (l : List Nat) (c : Nat) : (!(occurrences (tx l) (tx [c]) 0 (tx l).length 1).isEmpty) = decide (c ∈ l) := StrLaws.found_one (tx l) c
theorem occ_of_mem {l : List Nat} {c : Nat} (hc : c ∈ l) : (occurrences (tx l) (tx [c]) 0 (tx l).length ((tx l).length + 1)).isEmpty = false := by
  obtain ⟨f, h1, h2⟩ := StrLaws.occ_tight (tx l) (tx [c]) (Nat.le_refl _)
  cases ho : occurrences (tx l) (tx [c]) 0 (tx l).length ((tx l).length + 1) with
  | cons => rfl
  | nil =>
    exfalso
    rw [ho] at h1
    obtain ⟨i, hi, he⟩ := List.getElem_of_mem hc
    have hf : f = 0 := by cases h1; rfl
    refine h2 i (by (first | lia | omega)) ?_
    exact (StrLaws.subAt_one (tx l) c i).mpr (by show l[i]? = some c; rw [List.getElem?_eq_getElem hi, he])
theorem replace_tx (l : List Nat) (c : Nat) : Txt.replace (tx l) (tx [c]) (tx [c, c]) = tx (dbl c l) := by
  by_cases hc : c ∈ l
  · have ho := occ_of_mem hc
    have h1 := StrLaws.join_split (tx l) (tx [c])
    have hs : Txt.split (tx l) (tx [c]) = partsBetween (tx l) (occurrences (tx l) (tx [c]) 0 (tx l).length ((tx l).length + 1)) (tx [c]).length := by
      unfold Txt.split
      rw [if_neg, if_neg (by rw [ho]; exact Bool.false_ne_true)]
      intro h
      rcases Bool.or_eq_true_iff.mp h with h | h
      · have := of_decide_eq_true h
        rw [tx_len, tx_len] at this
        have h3 := List.length_pos_of_mem hc
        have h4 : [c].length = 1 := rfl
        (first | lia | omega)
      · exact StrLaws.kind_free (tx l) c (of_decide_eq_true h) hc
    unfold Txt.replace
    rw [if_neg (by rw [ho]; simp [tx_len]), StrLaws.glued_eq_join, ← hs, join_tx]
    rw [join_tx] at h1
    rw [dbl_join (c := c) (fun p hp => by
      obtain ⟨q, hq, rfl⟩ := List.mem_map.mp hp
      exact StrLaws.split_free _ c q hq), tx_inj h1]
  · rw [dbl_free hc]
    unfold Txt.replace
    have ho : (occurrences (tx l) (tx [c]) 0 (tx l).length ((tx l).length + 1)) = [] := by
      refine List.eq_nil_iff_forall_not_mem.mpr fun i hi => ?_
      obtain ⟨h1, h2⟩ := PySem.StrLaws.occ_spec _ _ _ _ _ i hi
      have := (StrLaws.subAt_one (tx l) c i).mp ⟨h1, h2⟩
      exact hc (List.mem_of_getElem? this)
    rw [if_pos (by rw [ho]; rfl)]

end
-- part P2

section
open PySem.Builtin.Str

theorem ssi_none_lo (u : Option Int) (n : Nat) : strSliceIndices none u 1 n = strSliceIndices (some ((0 : Nat) : Int)) u 1 n := by
  unfold strSliceIndices
  have h : max (0 : Int) (min (if ((0 : Nat) : Int) < 0 then ((0 : Nat) : Int) + n else ((0 : Nat) : Int)) (n : Int)) = 0 := by rw [if_neg (by (first | lia | omega))]; (first | lia | omega)
  simp only [show (1 : Int) > 0 from by decide, if_true, h]
theorem ssi_none_hi (l : Option Int) (n : Nat) : strSliceIndices l none 1 n = strSliceIndices l (some (n : Int)) 1 n := by
  unfold strSliceIndices
  have h : max (0 : Int) (min (if (n : Int) < 0 then (n : Int) + n else (n : Int)) (n : Int)) = n := by rw [if_neg (by (first | lia | omega))]; (first | lia | omega)
  simp only [show (1 : Int) > 0 from by decide, if_true, h]
theorem ssi_nat (a b n : Nat) : strSliceIndices (some (a : Int)) (some (b : Int)) 1 n = (List.range (min b n - min a n)).map (fun k => min a n + k) := by
  have h1 : ¬ ((a : Int) < 0) := by (first | lia | omega)
  have h2 : ¬ ((b : Int) < 0) := by (first | lia | omega)
  have e1 : max (0 : Int) (min (a : Int) (n : Int)) = ((min a n : Nat) : Int) := by (first | lia | omega)
  have e2 : max (0 : Int) (min (b : Int) (n : Int)) = ((min b n : Nat) : Int) := by (first | lia | omega)
  simp only [strSliceIndices, sliceRange, h1, h2, if_false, e1, e2, show ((1 : Int) > 0) = True from by simp, if_true]
  by_cases hlt : ((min a n : Nat) : Int) < ((min b n : Nat) : Int)
  · have e3 : ((((min b n : Nat) : Int) - ((min a n : Nat) : Int) + 1 - 1) / 1).toNat = min b n - min a n := by (first | lia | omega)
    simp only [hlt, if_true, e3]
    refine List.map_congr_left fun k _ => ?_
    (first | lia | omega)
  · have : min b n - min a n = 0 := by (first | lia | omega)
    simp only [hlt, if_false, this]; rfl
theorem slice_of {l : List Nat} {lo hi : Option Int} {a b : Nat} (h : strSliceIndices lo hi 1 l.length = (List.range (b - a)).map (fun k => a + k)) (ha : a ≤ l.length) (hb : b ≤ l.length) :
    Txt.slice (tx l) lo hi = tx ((l.drop a).take (b - a)) := by
  have hp : ((List.range (b - a)).map (fun k => a + k)).filterMap (l[·]?) = (l.drop a).take (b - a) := by
    by_cases hab : a ≤ b
    · exact StrLaws.picks l (b - a) a (by (first | lia | omega))
    · rw [show b - a = 0 by (first | lia | omega)]; simp
  unfold Txt.slice
  rw [tx_len, h]
  by_cases hl : ((1 : Int) == 1 && (List.map (fun k => a + k) (List.range (b - a))).length == l.length) = true
  · rw [if_pos hl]
    have hl' : b - a = l.length := by simpa using hl
    have : a = 0 := by (first | lia | omega)
    subst this
    rw [hl', List.drop_zero, List.take_length]
  · rw [if_neg hl]
    refine tx_ext ?_
    show (List.filterMap (fun x => (tx l).cps[x]?) _) = _
    rw [← hp]
    have : (fun x => (tx l).cps[x]?) = (fun x => l[x]?) := funext fun x => List.getElem?_toArray
    rw [this]
theorem slice_ns (l : List Nat) (b : Nat) : Txt.slice (tx l) none (some (b : Int)) = tx (l.take b) := by
  rw [slice_of (a := 0) (b := min b l.length) (by rw [ssi_none_lo, ssi_nat, Nat.zero_min]) (Nat.zero_le _) (Nat.min_le_right _ _), List.drop_zero, Nat.sub_zero]
  by_cases h : b ≤ l.length
  · rw [Nat.min_eq_left h]
  · rw [Nat.min_eq_right (by (first | lia | omega)), List.take_length, List.take_of_length_le (by (first | lia | omega))]
theorem slice_sn (l : List Nat) (a : Nat) : Txt.slice (tx l) (some (a : Int)) none = tx (l.drop a) := by
  rw [slice_of (a := min a l.length) (b := l.length) (by rw [ssi_none_hi, ssi_nat, Nat.min_self]) (Nat.min_le_right _ _) (Nat.le_refl _)]
  by_cases h : a ≤ l.length
  · rw [Nat.min_eq_left h, List.take_of_length_le (by rw [List.length_drop]; exact Nat.le_refl _)]
  · rw [Nat.min_eq_right (by (first | lia | omega)), List.drop_length, List.drop_of_length_le (by (first | lia | omega)), List.take_nil]
theorem slice_ss (l : List Nat) (a b : Nat) (ha : a ≤ l.length) (hb : b ≤ l.length) : Txt.slice (tx l) (some (a : Int)) (some (b : Int)) = tx ((l.drop a).take (b - a)) :=
  slice_of (by rw [ssi_nat, Nat.min_eq_left ha, Nat.min_eq_left hb]) ha hb
theorem item_tx {l : List Nat} {i : Nat} {c : Nat} (h : l[i]? = some c) : Txt.item (tx l) (i : Int) = tx [c] := by
  have hi : i < l.length := (List.getElem?_eq_some_iff.mp h).1
  unfold Txt.item Txt.charAt seqIndex?
  rw [tx_len]
  have h1 : ¬ ((i : Int) < 0) := by (first | lia | omega)
  simp only [h1, if_false]
  rw [if_pos (by simp; (first | lia | omega))]
  show (⟨#[(l.toArray[((i : Int)).toNat]?).getD 0]⟩ : Str) = _
  rw [Int.toNat_natCast, List.getElem?_toArray, h]; rfl

/-- where a text lies in another -/
theorem found_at {l y : List Nat} : (!(occurrences (tx l) (tx y) 0 (tx l).length 1).isEmpty) = true ↔ ∃ i, i + y.length ≤ l.length ∧ (l.drop i).take y.length = y := by
  rw [StrLaws.found_iff]
  refine exists_congr fun i => ?_
  rw [tx_len, tx_len, tx_at, decide_eq_true_eq]
theorem find_at {l y : List Nat} (h : (!(occurrences (tx l) (tx y) 0 (tx l).length 1).isEmpty) = true) : ∃ i : Nat, Txt.find (tx l) (tx y) = (i : Int) ∧ i + y.length ≤ l.length ∧ (l.drop i).take y.length = y := by
  unfold Txt.find
  cases ho : occurrences (tx l) (tx y) 0 (tx l).length 1 with
  | nil => rw [ho] at h; cases h
  | cons i r =>
    obtain ⟨h1, h2⟩ := StrLaws.occ_spec (tx l) (tx y) 0 (tx l).length 1 i (by rw [ho]; exact List.mem_cons_self)
    rw [tx_len, tx_len] at h1
    rw [tx_at, decide_eq_true_eq] at h2
    exact ⟨i, rfl, h1, h2⟩

end
-- part P3

section

/-- what a sorting tree comes to under a fixed order -/
def Holds {α : Type} (lt : Nat → Nat → Bool) (n : Nat) (P : α → Prop) : KasT α → Prop
  | .ret a => P a
  | .ask i j k => i < n ∧ j < n ∧ Holds lt n P (k (lt i j))
theorem holds_bind {α β : Type} {lt : Nat → Nat → Bool} {n : Nat} {P : α → Prop} {Q : β → Prop} {f : α → KasT β} (hf : ∀ a, P a → Holds lt n Q (f a)) : ∀ {t : KasT α}, Holds lt n P t → Holds lt n Q (t.bind f)
  | .ret a, h => hf a h
  | .ask i j k, h => ⟨h.1, h.2.1, holds_bind hf (t := k (lt i j)) h.2.2⟩
theorem holds_mono {α : Type} {lt : Nat → Nat → Bool} {n : Nat} {P Q : α → Prop} (hf : ∀ a, P a → Q a) : ∀ {t : KasT α}, Holds lt n P t → Holds lt n Q t
  | .ret a, h => hf a h
  | .ask i j k, h => ⟨h.1, h.2.1, holds_mono hf (t := k (lt i j)) h.2.2⟩
theorem holds_wp {α : Type} {lt : Nat → Nat → Bool} {n : Nat} {P : α → Prop} {cmp : Nat → Nat → (Bool → Shared → Prop) → Shared → Prop} {Q : α → Shared → Prop} {G : Shared → Prop}
    (hc : ∀ i j C s, G s → i < n → j < n → (∀ s', G s' → C (lt i j) s') → cmp i j C s) (hq : ∀ a s, G s → P a → Q a s) : ∀ {t : KasT α} {s : Shared}, G s → Holds lt n P t → t.kasWp cmp Q s
  | .ret a, s, g, h => hq a s g h
  | .ask i j k, s, g, h => hc i j _ s g h.1 h.2.1 fun s' g' => holds_wp hc hq (t := k (lt i j)) g' h.2.2

section
variable {lt : Nat → Nat → Bool} {n : Nat}
/-- a strict order on the first n -/
structure Ord (lt : Nat → Nat → Bool) (n : Nat) : Prop where
  trans : ∀ i j k, lt i j = true → lt j k = true → lt i k = true
  tot : ∀ i j, i < n → j < n → i ≠ j → lt i j = false → lt j i = true
  irr : ∀ i, lt i i = false
theorem Ord.asym (O : Ord lt n) {i j : Nat} (h : lt i j = true) : lt j i = false := by
  cases e : lt j i with
  | false => rfl
  | true => have := O.trans i j i h e; rw [O.irr] at this; cases this

/-- an array of the places -/
structure Arr (n : Nat) (p : Array Nat) : Prop where
  size : p.size = n
  lt : ∀ i, i < n → p.getD i 0 < n
  inj : ∀ i j, i < n → j < n → p.getD i 0 = p.getD j 0 → i = j
def Up (lt : Nat → Nat → Bool) (p : Array Nat) (k : Nat) : Prop := ∀ i j, i < j → j < k → lt (p.getD i 0) (p.getD j 0) = true
theorem getD_of {p : Array Nat} {i : Nat} {x : Nat} (h : p[i]? = some x) : p.getD i 0 = x := by
  rw [Array.getD_eq_getD_getElem?, h]; rfl
theorem getD_congr {p q : Array Nat} {i j : Nat} (h : p[i]? = q[j]?) : p.getD i 0 = q.getD j 0 := by
  rw [Array.getD_eq_getD_getElem?, Array.getD_eq_getD_getElem?, h]
theorem arr_range (n : Nat) : Arr n (List.toArray (List.range n)) := by
  have g : ∀ i, i < n → (List.toArray (List.range n)).getD i 0 = i := fun i hi => getD_of (by simp [hi])
  exact ⟨by simp, fun i hi => by rw [g i hi]; exact hi, fun i j hi hj e => by rw [g i hi, g j hj] at e; exact e⟩
theorem Up.snoc (O : Ord lt n) {p : Array Nat} {k : Nat} (h : Up lt p k) (hk : 1 ≤ k) (hl : lt (p.getD (k - 1) 0) (p.getD k 0) = true) : Up lt p (k + 1) := by
  intro i j hij hj
  rcases Nat.lt_or_eq_of_le (Nat.le_of_lt_succ hj) with hj' | rfl
  · exact h i j hij hj'
  · rcases Nat.lt_or_eq_of_le (Nat.le_sub_one_of_lt hij) with hi | hi
    · exact O.trans _ _ _ (h i (j - 1) hi (by omega)) hl
    · rw [hi]; exact hl

theorem asc_holds (O : Ord lt n) {p : Array Nat} (a : Arr n p) : ∀ (f k : Nat), 1 ≤ k → k + f = n → Up lt p k → Holds lt n (fun m => k ≤ m ∧ m ≤ n ∧ Up lt p m ∧ (m = n ∨ lt (p.getD m 0) (p.getD (m - 1) 0) = true)) (kas_asc p f k)
  | 0, k, h1, hk, h => ⟨Nat.le_refl _, by omega, h, .inl (by omega)⟩
  | f + 1, k, h1, hk, h => by
    refine ⟨a.lt k (by omega), a.lt (k - 1) (by omega), ?_⟩
    cases e : lt (p.getD k 0) (p.getD (k - 1) 0) with
    | true => exact ⟨Nat.le_refl _, by omega, h, .inr e⟩
    | false =>
      have hl : lt (p.getD (k - 1) 0) (p.getD k 0) = true := O.tot _ _ (a.lt k (by omega)) (a.lt (k - 1) (by omega)) (fun q => by have := a.inj k (k - 1) (by omega) (by omega) q; omega) e
      exact holds_mono (fun m hm => ⟨by omega, hm.2.1, hm.2.2⟩) (asc_holds O a f (k + 1) (by omega) (by omega) (h.snoc O h1 hl))

/-- the reverse of the first k -/
theorem rev_get {p : Array Nat} {k : Nat} (hk : k ≤ p.size) (i : Nat) (hi : i < k) : (kas_rev p 0 k).getD i 0 = p.getD (k - 1 - i) 0 := by
  unfold kas_rev
  refine getD_congr ?_
  rw [getElem?_mirror_all hk, if_pos ⟨Nat.zero_le _, hi⟩, Nat.zero_add]
theorem rev_get' {p : Array Nat} {k : Nat} (hk : k ≤ p.size) (i : Nat) (hi : k ≤ i) : (kas_rev p 0 k).getD i 0 = p.getD i 0 := by
  unfold kas_rev
  refine getD_congr ?_
  rw [getElem?_mirror_all hk, if_neg (by omega)]
theorem rev_arr {p : Array Nat} {k : Nat} (a : Arr n p) (hk : k ≤ n) : Arr n (kas_rev p 0 k) := by
  have hs : k ≤ p.size := by rw [a.size]; exact hk
  have hi : ∀ i, i < n → ∃ i', i' < n ∧ (kas_rev p 0 k).getD i 0 = p.getD i' 0 ∧ i' = if i < k then k - 1 - i else i := fun i hi => by
    by_cases h : i < k
    · exact ⟨k - 1 - i, by omega, rev_get hs i h, by rw [if_pos h]⟩
    · exact ⟨i, hi, rev_get' hs i (by omega), by rw [if_neg h]⟩
  refine ⟨by rw [show (kas_rev p 0 k).size = p.size from mirror_size _ _ _ _]; exact a.size, fun i h => ?_, fun i j h1 h2 e => ?_⟩
  · obtain ⟨i', h', e, _⟩ := hi i h
    rw [e]; exact a.lt i' h'
  · obtain ⟨i', h1', e1, q1⟩ := hi i h1
    obtain ⟨j', h2', e2, q2⟩ := hi j h2
    rw [e1, e2] at e
    have := a.inj i' j' h1' h2' e
    rw [q1, q2] at this
    split at this <;> split at this <;> omega
def Dn (lt : Nat → Nat → Bool) (p : Array Nat) (k : Nat) : Prop := ∀ i j, i < j → j < k → lt (p.getD j 0) (p.getD i 0) = true
theorem Dn.snoc (O : Ord lt n) {p : Array Nat} {k : Nat} (h : Dn lt p k) (hk : 1 ≤ k) (hl : lt (p.getD k 0) (p.getD (k - 1) 0) = true) : Dn lt p (k + 1) := by
  intro i j hij hj
  rcases Nat.lt_or_eq_of_le (Nat.le_of_lt_succ hj) with hj' | rfl
  · exact h i j hij hj'
  · rcases Nat.lt_or_eq_of_le (Nat.le_sub_one_of_lt hij) with hi | hi
    · exact O.trans _ _ _ hl (h i (j - 1) hi (by omega))
    · rw [hi]; exact hl
theorem desc_holds (O : Ord lt n) {p : Array Nat} (a : Arr n p) : ∀ (f k : Nat), 1 ≤ k → k + f = n → Dn lt p k → Holds lt n (fun r => r.1 = p ∧ r.2.2 = 0 ∧ 1 ≤ r.2.1 ∧ r.2.1 ≤ n ∧ Dn lt p r.2.1) (kas_desc f p k 0)
  | 0, k, h1, hk, h => ⟨rfl, rfl, h1, (by omega : k ≤ n), h⟩
  | f + 1, k, h1, hk, h => by
    refine ⟨a.lt k (by omega), a.lt (k - 1) (by omega), ?_⟩
    cases e : lt (p.getD k 0) (p.getD (k - 1) 0) with
    | true =>
      show Holds lt n _ (kas_desc f p (k + 1) 0)
      exact desc_holds O a f (k + 1) (by omega) (by omega) (h.snoc O h1 e)
    | false =>
      have hl : lt (p.getD (k - 1) 0) (p.getD k 0) = true := O.tot _ _ (a.lt k (by omega)) (a.lt (k - 1) (by omega)) (fun q => by have := a.inj k (k - 1) (by omega) (by omega) q; omega) e
      show Holds lt n _ (KasT.ask (p.getD (k - 1) 0) (p.getD k 0) fun d => if d = true then KasT.ret (p, k, 0) else kas_desc f p (k + 1) (0 + 1))
      refine ⟨a.lt (k - 1) (by omega), a.lt k (by omega), ?_⟩
      rw [hl]
      exact ⟨rfl, rfl, h1, (by omega : k ≤ n), h⟩
theorem rev_up {p : Array Nat} {k : Nat} (a : Arr n p) (hk : k ≤ n) (h : Dn lt p k) : Up lt (kas_rev p 0 k) k := by
  have hs : k ≤ p.size := by rw [a.size]; exact hk
  intro i j hij hj
  rw [rev_get hs i (by omega), rev_get hs j hj]
  exact h (k - 1 - j) (k - 1 - i) (by omega) (by omega)
theorem count_holds (O : Ord lt n) {p : Array Nat} (a : Arr n p) (hn : 1 ≤ n) : Holds lt n (fun r => 1 ≤ r.1 ∧ r.1 ≤ n ∧ Arr n r.2 ∧ Up lt r.2 r.1) (kas_count n p) := by
  unfold kas_count
  refine holds_bind (fun m hm => ?_) (asc_holds O a (n - 1) 1 (Nat.le_refl _) (by omega) (fun i j hij hj => by omega))
  obtain ⟨h1, h2, h3, h5⟩ := hm
  by_cases he : (m == n) = true
  · rw [if_pos he]; exact ⟨h1, h2, a, h3⟩
  · rw [if_neg he]
    have hmn : m < n := by have : m ≠ n := by simpa using he
                           omega
    have dp : m = 1 → Holds lt n (fun r => 1 ≤ r.1 ∧ r.1 ≤ n ∧ Arr n r.2 ∧ Up lt r.2 r.1) (kas_descPart m n p) := by
      rintro rfl
      have hd : lt (p.getD 1 0) (p.getD 0 0) = true := h5.resolve_left (by omega)
      have d2 : Dn lt p 2 := fun i j hij hj => by
        have e1 : i = 0 := by omega
        have e2 : j = 1 := by omega
        rw [e1, e2]; exact hd
      unfold kas_descPart
      refine holds_bind (fun r hr => ?_) (desc_holds O a (n - 2) 2 (by decide) (by omega) d2)
      obtain ⟨p', k, q⟩ := r
      obtain ⟨rfl, hq, hk1, hk2, hk3⟩ := hr
      have hq' : q = 0 := hq
      subst hq'
      show Holds lt n _ (kas_tail3 k n p')
      unfold kas_tail3
      refine holds_bind (fun m hm => ?_) (asc_holds O (rev_arr a hk2) (n - k) k hk1 (by have : k ≤ n := hk2; omega) (rev_up a hk2 hk3))
      exact ⟨Nat.le_trans hk1 hm.1, hm.2.1, rev_arr a hk2, hm.2.2.1⟩
    by_cases h4 : m > 1
    · rw [if_pos h4]
      refine ⟨a.lt 0 (by omega), a.lt (m - 1) (by omega), ?_⟩
      rw [h3 0 (m - 1) (by omega) (by omega)]
      exact ⟨h1, h2, a, h3⟩
    · rw [if_neg h4]
      exact dp (by omega)

/-- where the k-th goes among the first k -/
theorem place_holds (O : Ord lt n) {p : Array Nat} (a : Arr n p) {k : Nat} (hk : k < n) (h : Up lt p k) : ∀ (f l r : Nat), l ≤ r → r ≤ k → r - l ≤ f → (∀ i, i < l → lt (p.getD i 0) (p.getD k 0) = true) → (∀ i, r ≤ i → i < k → lt (p.getD k 0) (p.getD i 0) = true) →
    Holds lt n (fun m => m ≤ k ∧ (∀ i, i < m → lt (p.getD i 0) (p.getD k 0) = true) ∧ ∀ i, m ≤ i → i < k → lt (p.getD k 0) (p.getD i 0) = true) (kas_place p k f l r)
  | 0, l, r, hlr, hr, hf, h1, h2 => ⟨by omega, h1, fun i hi hi' => h2 i (by omega) hi'⟩
  | f + 1, l, r, hlr, hr, hf, h1, h2 => by
    unfold kas_place
    by_cases he : l ≥ r
    · rw [if_pos he]; exact ⟨by omega, h1, fun i hi hi' => h2 i (by omega) hi'⟩
    · rw [if_neg he]
      have hm : (l + r) / 2 < k := by omega
      refine ⟨a.lt k hk, a.lt _ (by omega), ?_⟩
      cases e : lt (p.getD k 0) (p.getD ((l + r) / 2) 0) with
      | true =>
        show Holds lt n _ (kas_place p k f l ((l + r) / 2))
        refine place_holds O a hk h f l _ (by omega) (by omega) (by omega) h1 fun i hi hi' => ?_
        rcases Nat.lt_or_eq_of_le hi with hi | hi
        · exact O.trans _ _ _ e (h _ i hi hi')
        · rw [← hi]; exact e
      | false =>
        show Holds lt n _ (kas_place p k f ((l + r) / 2 + 1) r)
        have hl : lt (p.getD ((l + r) / 2) 0) (p.getD k 0) = true := O.tot _ _ (a.lt k hk) (a.lt _ (by omega)) (fun q => by have := a.inj k ((l + r) / 2) hk (by omega) q; omega) e
        refine place_holds O a hk h f _ r (by omega) hr (by omega) (fun i hi => ?_) h2
        rcases Nat.lt_or_eq_of_le (Nat.le_of_lt_succ hi) with hi | hi
        · exact O.trans _ _ _ (h i _ hi hm) hl
        · rw [hi]; exact hl
theorem bub_get {p : Array Nat} {k m : Nat} (hk : k < p.size) (hm : m ≤ k) (i : Nat) : (bubble p k (k - m)).getD i 0 = if i = m then p.getD k 0 else if m < i ∧ i ≤ k then p.getD (i - 1) 0 else p.getD i 0 := by
  have e := getElem?_bubble hk (k - m) (by omega) i
  rw [show k - (k - m) = m by omega] at e
  by_cases h1 : i = m
  · rw [if_pos h1] at e ⊢; exact getD_congr e
  · rw [if_neg h1] at e ⊢
    by_cases h2 : m < i ∧ i ≤ k
    · rw [if_pos h2] at e ⊢; exact getD_congr e
    · rw [if_neg h2] at e ⊢; exact getD_congr e
theorem bub_arr {p : Array Nat} {k m : Nat} (a : Arr n p) (hk : k < n) (hm : m ≤ k) : Arr n (bubble p k (k - m)) := by
  have hs : k < p.size := by rw [a.size]; exact hk
  have hi : ∀ i, i < n → ∃ i', i' < n ∧ (bubble p k (k - m)).getD i 0 = p.getD i' 0 ∧ i' = if i = m then k else if m < i ∧ i ≤ k then i - 1 else i := fun i hi => by
    rw [bub_get hs hm i]
    by_cases h1 : i = m
    · rw [if_pos h1, if_pos h1]; exact ⟨k, hk, rfl, rfl⟩
    · rw [if_neg h1, if_neg h1]
      by_cases h2 : m < i ∧ i ≤ k
      · rw [if_pos h2, if_pos h2]; exact ⟨i - 1, by omega, rfl, rfl⟩
      · rw [if_neg h2, if_neg h2]; exact ⟨i, hi, rfl, rfl⟩
  refine ⟨by rw [bubble_size]; exact a.size, fun i h => ?_, fun i j h1 h2 e => ?_⟩
  · obtain ⟨i', h', e, _⟩ := hi i h
    rw [e]; exact a.lt i' h'
  · obtain ⟨i', h1', e1, q1⟩ := hi i h1
    obtain ⟨j', h2', e2, q2⟩ := hi j h2
    rw [e1, e2] at e
    have := a.inj i' j' h1' h2' e
    rw [q1, q2] at this
    split at this <;> split at this <;> (try split at this) <;> (try split at this) <;> omega
theorem bub_up (O : Ord lt n) {p : Array Nat} {k m : Nat} (a : Arr n p) (hk : k < n) (hm : m ≤ k) (h : Up lt p k) (h1 : ∀ i, i < m → lt (p.getD i 0) (p.getD k 0) = true) (h2 : ∀ i, m ≤ i → i < k → lt (p.getD k 0) (p.getD i 0) = true) : Up lt (bubble p k (k - m)) (k + 1) := by
  have hs : k < p.size := by rw [a.size]; exact hk
  intro i j hij hj
  rw [bub_get hs hm i, bub_get hs hm j]
  by_cases hi : i = m
  · rw [if_pos hi, if_neg (by omega), if_pos (by omega)]
    exact h2 (j - 1) (by omega) (by omega)
  · rw [if_neg hi]
    by_cases hjm : j = m
    · rw [if_pos hjm, if_neg (by omega)]
      exact h1 i (by omega)
    · rw [if_neg hjm]
      by_cases hi' : m < i ∧ i ≤ k
      · rw [if_pos hi', if_pos (by omega)]
        exact h (i - 1) (j - 1) (by omega) (by omega)
      · rw [if_neg hi']
        by_cases hj' : m < j ∧ j ≤ k
        · rw [if_pos hj']
          rcases Nat.lt_or_ge i (j - 1) with q | q
          · exact h i (j - 1) q (by omega)
          · omega
        · rw [if_neg hj']
          exact h i j hij (by omega)
theorem bin_holds (O : Ord lt n) : ∀ (f : Nat) {p : Array Nat} (k : Nat), Arr n p → k + f = n → Up lt p k → Holds lt n (fun q => Arr n q ∧ Up lt q n) (kas_bin f p k)
  | 0, p, k, a, hk, h => ⟨a, by rw [← hk]; exact h⟩
  | f + 1, p, k, a, hk, h => by
    unfold kas_bin
    refine holds_bind (fun m hm => ?_) (place_holds O a (by omega) h k 0 k (Nat.zero_le _) (Nat.le_refl _) (by omega) (fun i hi => by omega) fun i hi hi' => by omega)
    exact bin_holds O f (k + 1) (bub_arr a (by omega) hm.1) (by omega) (bub_up O a (by omega) hm.1 h hm.2.1 hm.2.2)
/-- the sorting tree sorts -/
theorem sort_holds (O : Ord lt n) (hn : 1 ≤ n) : Holds lt n (fun q => Arr n q ∧ Up lt q n) (kas_sort n) := by
  unfold kas_sort
  refine holds_bind (fun r hr => ?_) (count_holds O (arr_range n) hn)
  obtain ⟨m, p⟩ := r
  obtain ⟨h1, h2, h3, h4⟩ := hr
  replace h1 : 1 ≤ m := h1
  replace h2 : m ≤ n := h2
  by_cases he : m < n
  · rw [if_pos he]
    have hm : max m 1 = m := by omega
    show Holds lt n _ (kas_bin (n - max m 1) p (max m 1))
    rw [hm]
    exact bin_holds O (n - m) m h3 (by omega) h4
  · rw [if_neg he]
    have : m = n := by omega
    subst this
    exact ⟨h3, h4⟩
end

end
-- part F9

section
open PySem.Builtin PySem.Builtin.Str

/-- find with two places -/
def seekIn (x y : Str) (i j : Int) : Int := match occurrences x y (fromIndex x.length i) (min (fromIndex x.length j) x.length) 1 with | k :: _ => (k : Int) | [] => -1
theorem gives_seekIn (x y : Str) (i j : Int) (t u v v' : Tok) : Gives («str.find» ⟨[.str x t, .str y u, .int i v, .int j v'], []⟩) (.int (seekIn x y i j)) := by
  show Gives (match occurrences x y (fromIndex x.length i) (min (fromIndex x.length j) x.length) 1 with | k :: _ => retInt k | [] => (do rule "str.find.not-found"; retInt (-1))) _
  unfold seekIn
  cases occurrences x y (fromIndex x.length i) (min (fromIndex x.length j) x.length) 1 with
  | nil => exact .rule (.of_eq rfl)
  | cons k _ => exact .of_eq rfl
section
variable {prog : Program} {w : World} {A : Around} {H₀ : Heap} {mg mb : Str → Option Value} {fa : Nat → Addr} {E : Value → Shared → Prop} {s : Shared}
variable {Base : Addr → Obj → Prop} {env : Env} {oc : List Str} {ps qs : List Addr} {m cm : Str → Option Value} {olds news : List (Addr × Obj)}
theorem call_seekIn {x y : Str} {i j : Int} {t u v v' : Tok} {Q : Value → Shared → Prop} (hq : Q (.int (seekIn x y i j) s.toks) { s with toks := s.toks + 1 }) :
    wpAny (model prog w) A (call (.builtin "str.find") [.str x t, .str y u, .int i v, .int j v']) Q E s :=
  call_gives F.slot_str_find (typeIs_str _ _ _) F.entry_str_find (F.args_str_find_4 _ _ _ _) (gives_seekIn x y i j t u v v') hq

theorem fromIndex_nat (n k : Nat) : fromIndex n (k : Int) = k := by unfold fromIndex; rw [if_neg (by (first | lia | omega))]; (first | lia | omega)
theorem seekIn_to (x y : Str) (k : Nat) : seekIn x y (k : Int) (x.length : Int) = match occurrences x y k x.length 1 with | k :: _ => (k : Int) | [] => -1 := by
  unfold seekIn; rw [fromIndex_nat, fromIndex_nat, Nat.min_self]
theorem seekIn_nil (l : List Nat) (k : Nat) (hk : k ≤ l.length) : seekIn (tx l) (tx []) (k : Int) ((tx l).length : Int) = (k : Int) := by
  rw [seekIn_to]
  have hat : StrLaws.At (tx l) (tx []) (tx l).length k := ⟨by rw [tx_len, tx_len]; exact hk, by rw [tx_at]; simp⟩
  rcases StrLaws.occ_head_from (tx l) (tx []) k 1 (Nat.le_refl 1) with ⟨_, hn⟩ | ⟨i, r, h0, hlo, _, hn⟩
  · exact absurd hat (hn k (Nat.le_refl _))
  · rw [h0]
    rcases Nat.lt_or_eq_of_le hlo with h | h
    · exact absurd hat (hn k (Nat.le_refl _) h)
    · rw [h]
theorem seekIn_found {l y : List Nat} (h : (!(occurrences (tx l) (tx y) 0 (tx l).length 1).isEmpty) = true) : ∃ i : Nat, seekIn (tx l) (tx y) 0 ((tx l).length : Int) = (i : Int) ∧ i + y.length ≤ l.length := by
  obtain ⟨i, h1, h2, _⟩ := find_at h
  exact ⟨i, (seekIn_to (tx l) (tx y) 0).trans h1, h2⟩
theorem seekIn_none {l y : List Nat} (h : (!(occurrences (tx l) (tx y) 0 (tx l).length 1).isEmpty) = false) : seekIn (tx l) (tx y) 0 ((tx l).length : Int) = -1 := by
  refine (seekIn_to (tx l) (tx y) 0).trans ?_
  cases ho : occurrences (tx l) (tx y) 0 (tx l).length 1 with
  | nil => rfl
  | cons i r => rw [ho] at h; cases h

/-- split at a text: the new list -/
theorem split_new {x y : Str} {t u : Tok} {Q : Value → Shared → Prop} (hy : (y.length == 0) = false) (hsz : x.length + 2 ≤ sizeLine)
    (h : ∀ l k, l.map (·.1) = Txt.split x y → Q (.ref s.heap.objs.size) { s with heap := s.heap.push { cls := .type "list", data := .seq (strValues l).toArray }, toks := k }) :
    wpAny (model prog w) A (call (.builtin "str.split") [.str x t, .str y u]) Q E s := by
  have hn : (partsBetween x (occurrences x y 0 x.length (x.length + 1)) y.length).length ≤ sizeLine := by
    have := StrLaws.occ_length_le x y 0 x.length (x.length + 1)
    rw [length_partsBetween]; (first | lia | omega)
  by_cases h1 : (decide (x.length < y.length) || decide (PySem.Builtin.Str.strKind x < PySem.Builtin.Str.strKind y)) = true
  · exact call_meets F.slot_str_split (typeIs_str _ _ _) F.entry_str_split (F.args_str_split_2 _ _) (meets_str_split_cannot_occur x y t u h1) (h [(x, t)] s.toks (if_pos h1).symm)
  · have h1' := Bool.eq_false_iff.mpr h1
    by_cases hf : (occurrences x y 0 x.length (x.length + 1)).isEmpty = true
    · exact call_meets F.slot_str_split (typeIs_str _ _ _) F.entry_str_split (F.args_str_split_2 _ _) (meets_str_split_not_found x y t u h1' hy hf) (h [(x, t)] s.toks ((if_neg h1).trans (if_pos hf)).symm)
    · refine call_meets F.slot_str_split (typeIs_str _ _ _) F.entry_str_split (F.args_str_split_2 _ _) (meets_str_split_sep x y t u h1' hy (Bool.eq_false_iff.mpr hf) (by (first | lia | omega)) hn) ?_
      show wants Q E _ { s with toks := _, heap := s.heap.push { cls := .type "list", data := .seq (strsFrom s.toks (partsBetween x (occurrences x y 0 x.length (x.length + 1)) y.length)).toArray } }
      rw [strsFrom_eq]
      exact h (numbered s.toks _) _ ((numbered_texts _ _).trans ((if_neg h1).trans (if_neg hf)).symm)
theorem split_C {x y : Str} {t u : Tok} {Q : Value → Shared → Prop} (C : Cx H₀ Base env oc ps qs m cm olds news s.heap) (hy : (y.length == 0) = false) (hsz : x.length + 2 ≤ sizeLine)
    (h : ∀ D l h' k, l.map (·.1) = Txt.split x y → Fresh s.heap D → Ex s.heap h' → Cx H₀ Base env oc ps qs m cm ((D, { cls := .type "list", data := .seq (strValues l).toArray }) :: olds) news h' → Q (.ref D) { s with heap := h', toks := k }) :
    wpAny (model prog w) A (call (.builtin "str.split") [.str x t, .str y u]) Q E s :=
  split_new hy hsz fun l k hl => h _ l _ k hl (Fresh.size _) (ex_push _ _) (C.addOld (ex_push _ _) (next_none _) (push_live rfl))
theorem item_list_neg {value slice : Expr} {l : Addr} {items : Array Value} {k : Int} {u : Tok} {x : Value} {Q : Value → Shared → Prop} (hl : s.heap.IsList l items)
    (h0 : k < 0) (h1 : -(items.size : Int) ≤ k) (hfit : -(2 ^ 63) ≤ k) (hx : items[(k + items.size).toNat]? = some x) (h : Q x s)
    (hs : subscripted slice false (.ref l) (.int k u) = operate [.ref l, .int k u] (getItem (.ref l) (.int k u))) (hg : ∀ r, letTemporaryGo value (.ref l) r = pure ()) :
    wpAny (model prog w) A (subscriptTail value slice (.ref l) (.int k u)) Q E s :=
  subscriptTail_builtin hl.typeIs slot_list_getitem.lookup (wpAny_getItem_list_neg hl h0 h1 hfit hx h) hs hg
abbrev tup (vs : List Value) : Obj := { cls := .type "tuple", data := .seq vs.toArray }
theorem tup_is {h : Heap} {a : Addr} {vs : List Value} (e : h.get? a = some (tup vs)) : h.IsTuple a vs.toArray := ⟨_, e, rfl, _, rfl⟩
theorem tup_is' {h : Heap} {a : Addr} {vs : List Value} (e : h.get? a = some (tup vs)) : IsTup h a vs.toArray := ⟨_, e, rfl, _, rfl⟩
theorem swap2 {x y : Str} {T : Addr} {v₁ v₂ : Value} {Q : Unit → Shared → Prop} (hh : A.handled = none) (C : Cx H₀ Base env oc ps qs m cm olds news s.heap) (hT : s.heap.get? T = some (tup [v₁, v₂]))
    (h : ∀ h', Cx H₀ Base env oc ps qs (fun z => if z = x then some v₁ else if z = y then some v₂ else m z) cm olds news h' → Q () { s with heap := h', toks := s.toks + 1 + 1 })
    (hk : env.scope.kind = .function) (hx : env.kindOf x = some .local) (hy : env.kindOf y = some .local) :
    wpAny (model prog w) A (unpackItems (.ref T) 2 none) (fun items s₂ => wpAny (model prog w) A (assignInOrder ([x, y].reverse.map fun n => bindName env n) items.reverse) Q E s₂) E s := by
  have hT' : s.heap.IsTuple T #[v₁, v₂] := ⟨_, hT, rfl, _, rfl⟩
  have e2 : (2 : Nat) = (#[v₁, v₂] : Array Value).size := rfl
  rw [e2]
  refine wpAny_unpackItems_tuple (items := #[v₁, v₂]) hh hT' fun h₁ hx₁ => ?_
  show wpAny (model prog w) A (assignInOrder [bindName env y, bindName env x] [v₂, v₁]) Q E _
  have C₁ := C.keeps (Ex_extBut hx₁)
  refine wpAny_assignInOrder_more ?_
  refine bindName_ (stL C₁ (fun h₂ C₂ => ?_) hk hy)
  refine wpAny_assignInOrder_more ?_
  refine bindName_ (stL C₂ (fun h₃ C₃ => ?_) hk hx)
  exact wpAny_assignInOrder_none (h _ C₃)
theorem ord_C {c : Nat} {t : Tok} {Q : Value → Shared → Prop} (h : Q (.int (c : Int) s.toks) { s with toks := s.toks + 1 }) : wpAny (model prog w) A (call (.builtin "ord") [.str (tx [c]) t]) Q E s := PySem.P.ord_of_char h
theorem chr_C (n : Nat) {t : Tok} {Q : Value → Shared → Prop} (hn : n ≤ 1114111) (h : Q (.str (tx [n]) s.toks) { s with toks := s.toks + 1 }) : wpAny (model prog w) A (call (.builtin "chr") [.int (n : Int) t]) Q E s :=
  PySem.P.chr_of_int (by simp; (first | lia | omega)) h
end

end
-- part F10

section
section
variable {prog : Program} {w : World} {A : Around} {H₀ : Heap} {Base : Addr → Obj → Prop} {env : Env} {oc : List Str} {ps qs : List Addr} {m cm : Str → Option Value} {olds news : List (Addr × Obj)}

theorem compStart1 {elt t1 i1 t2 i2 : Expr} {scope : Scope} {pos : Pos} {it acc : Value} {c : Env} {R : Result → Shared → Prop} {s : Shared}
    (h0 : codeAny (model prog w) A (.compLoop (.ListComp elt [⟨t1, i1, [], 0⟩, ⟨t2, i2, [], 0⟩] scope pos) 1 it acc c) R s)
    (h : wpAny (model prog w) A (pyIter it) (fun it' s' => codeAny (model prog w) A (.compLoop (.ListComp elt [⟨t1, i1, [], 0⟩, ⟨t2, i2, [], 0⟩] scope pos) 1 it' acc c) R s') (notedBy (model prog w) A c fun x s' => R (.error x) s') s) :
    codeAny (model prog w) A (.compStart (.ListComp elt [⟨t1, i1, [], 0⟩, ⟨t2, i2, [], 0⟩] scope pos) 1 it acc c) R s := by
  refine codeAny_of_tree ?_
  show wpAny _ _ ((compStart (.ListComp elt [⟨t1, i1, [], 0⟩, ⟨t2, i2, [], 0⟩] scope pos) 1 it acc c).onRaise (fun x => do noteFrame x c; standAt theWindowsPlace)) _ _ s
  refine wpAny_notedAt ?_
  unfold compStart
  show wpAny _ _ (ask >>= _) _ _ s
  refine wpAny_bind (wpAny_askSetting (wpAny_ite ?_))
  split
  · first
      | exact wpAny_bind (wpAny_pure (wpAny_pure (And.intro rfl h0)))
      | exact wpAny_pure (And.intro rfl h0)
  · first
      | exact wpAny_bind (wpAny_rule (wpAny_bind (wpAny_standAt (wpAny_bind (wpAny_mono h (fun it' s' h' => wpAny_pure (And.intro rfl h')) fun _ _ x => x)))))
      | (refine wpAny_bind (wpAny_rule ?_); show wpAny _ _ (standAt i2.pos >>= _) _ _ s; exact wpAny_bind (wpAny_standAt (wpAny_bind (wpAny_mono h (fun it' s' h' => wpAny_pure (And.intro rfl h')) fun _ _ x => x))))

theorem turn2 (elt t1 i1 t2 i2 : Expr) (scope : Scope) (pos : Pos) (it acc : Value) (c : Env) :
    compTurn (.ListComp elt [⟨t1, i1, [], 0⟩, ⟨t2, i2, [], 0⟩] scope pos) 0 it acc c = compT t1 i1 [] (do
      let x ← eval i2 c
      standAt i2.pos
      let x ← foldedSetIterable i2 c x
      let _ ← runOwn (.compStart (.ListComp elt [⟨t1, i1, [], 0⟩, ⟨t2, i2, [], 0⟩] scope pos) 1 (← holding [x] (pyIter x)) acc c) c) it c (.compLoop (.ListComp elt [⟨t1, i1, [], 0⟩, ⟨t2, i2, [], 0⟩] scope pos) 0 it acc c) := by
  unfold compTurn compT
  simp only [List.getElem?_cons_zero, List.getElem?_cons_succ, Nat.zero_add, bne_self_eq_false, Bool.false_eq_true, if_false, bind_assoc, pure_bind, List.forIn_nil, if_true]
  rfl

/-- a list comprehension over two lists, the second within the first -/
theorem listComp2 {elt t1 i1 t2 i2 : Expr} {scope : Scope} {cl : List (Str × Addr)} {pos p₀ : Pos} {use : Option (Value → Sem Unit)} {Q : Value → Shared → Prop} {s : Shared}
    (hclos : closureFor scope env = pure cl) (hlk : ∀ n c, cl.lookup n = some c → env.cells.lookup n = some c)
    (hkind : scope.kind = .function) (hnames : ∀ x ∈ scope.names, x.2 = .local → scope.names.lookup x.1 = some .local)
    (hf : ∀ n acc, cellsFrom n scope.names acc = acc) (hp : ∀ h, pushCells h scope.names = h)
    (h : wpAny (model prog w) A (eval i1 env) (fun xv s₁ => ∃ (n : Nat) (P : Nat → Value → Heap → Prop) (cont : List Addr) (m cm : Str → Option Value) (olds news : List (Addr × Obj)) (J : Nat → List Value → Prop),
      Cx H₀ Base env oc ps qs m cm olds news s₁.heap ∧ (∀ b ∈ cont, ∃ o, s₁.heap.get? b = some o) ∧ wpAny (model prog w) A (pyIter xv) (Iter prog w A t1 n P cont s₁) No s₁ ∧ J 0 [] ∧ (∀ i ys, J i ys → ys.length ≤ sizeLine) ∧
      (∀ i v D ys L h₁ tk₁ Base₁ m₁ cm₁ ps₁ qs₁, i < n → P i v h₁ → J i ys → (∀ b o, s₁.heap.get? b = some o → Base₁ b o) → (∀ n, cm₁ n = cm n) →
        Cx H₀ Base₁ (blockEnv scope cl L env) [] ps₁ qs₁ m₁ cm₁ [] [(D, lst ys)] h₁ →
        wpAny (model prog w) A (assign t1 (blockEnv scope cl L env) v) (fun _ s₂ => wpAny (model prog w) A (eval i2 (blockEnv scope cl L env)) (fun yv s₃ =>
          ∃ (n2 : Nat) (P2 : Nat → Value → Heap → Prop) (cont2 : List Addr) (m₂ : Str → Option Value) (h₂ : Heap) (tk₂ : Nat) (J2 : Nat → List Value → (Str → Option Value) → Prop),
            s₃ = { s₁ with heap := h₂, toks := tk₂ } ∧ Cx H₀ Base₁ (blockEnv scope cl L env) [] ps₁ qs₁ m₂ cm₁ [] [(D, lst ys)] h₂ ∧ (∀ b ∈ cont2, Off (blockEnv scope cl L env) [] [(D, lst ys)] b) ∧
            wpAny (model prog w) A (pyIter yv) (Iter prog w A t2 n2 P2 cont2 s₃) No s₃ ∧ J2 0 ys m₂ ∧ (∀ k ys m, J2 k ys m → ys.length ≤ sizeLine) ∧
            (∀ k v ys m₃ h₃ tk₃ Base₃ ps₃ qs₃, k < n2 → P2 k v h₃ → J2 k ys m₃ → (∀ b o, Base₁ b o → Base₃ b o) → Cx H₀ Base₃ (blockEnv scope cl L env) [] ps₃ qs₃ m₃ cm₁ [] [(D, lst ys)] h₃ →
              wpAny (model prog w) A (assign t2 (blockEnv scope cl L env) v) (fun _ s₄ => wpAny (model prog w) A (eval elt (blockEnv scope cl L env)) (fun y s₅ =>
                TurnEnd H₀ Base₃ (blockEnv scope cl L env) [] ps₃ qs₃ (fun m' cm' olds' news' => olds' = [] ∧ news' = [(D, lst ys)] ∧ (∀ n, cm' n = cm₁ n) ∧ J2 (k + 1) (ys ++ [y]) m') s₁ s₅) No s₄) No { s₁ with heap := h₃, toks := tk₃ }) ∧
            (∀ ys' m', J2 n2 ys' m' → J (i + 1) ys')) No s₂) No { s₁ with heap := h₁, toks := tk₁ }) ∧
      (∀ D ys h' tk', s₁.toks ≤ tk' → Cx H₀ Base env oc ps qs m cm ((D, lst ys) :: olds) news h' → Fresh s₁.heap D → J n ys → CompOut prog w A use Q s₁ D (lst ys) [] h' tk')) No s)
    (hs : ∀ x, foldedSetIterable i1 env x = pure x := by intro _; rfl) (hs2 : ∀ c x, foldedSetIterable i2 c x = pure x := by intro _ _; rfl) :
    wpAny (model prog w) A (comprehension (.ListComp elt [⟨t1, i1, [], 0⟩, ⟨t2, i2, [], 0⟩] scope pos) scope env p₀ (newList []) false (eval i1 env) use) Q No s := by
  refine comp_core0 (H₀ := H₀) (Base := Base) (oc := oc) (ps := ps) (qs := qs)
    (emit := fun c D => do
      let x ← eval i2 c
      standAt i2.pos
      let x ← foldedSetIterable i2 c x
      let _ ← runOwn (.compStart (.ListComp elt [⟨t1, i1, [], 0⟩, ⟨t2, i2, [], 0⟩] scope pos) 1 (← holding [x] (pyIter x)) (.ref D) c) c) (o₀ := lst []) (rest := [⟨t2, i2, [], 0⟩]) (fun I D c => congrArg (fun x => Sem.onRaise x _) (turn2 elt t1 i1 t2 i2 scope pos (.ref I) (.ref D) c)) (fun _ _ _ => rfl) (fun _ _ _ => rfl)
    (fun it acc c R s h0 h => codeAny_compStart_list h0 h) (fun s Q E h => wpAny_newObj_type h) rfl rfl hclos hlk hkind hnames hf hp (wpAny_mono h (fun xv s₁ h₁ => ?_) fun _ _ e => e) hs
  obtain ⟨n, P, cont, m, cm, olds, news, J, C, hcont, hit, h0, hszJ, step, done⟩ := h₁
  refine ⟨n, P, cont, m, cm, olds, news, fun i o olds' => olds' = [] ∧ ∃ ys, o = lst ys ∧ J i ys, C, hcont, hit, ⟨rfl, [], rfl, h0⟩, ?_, ?_⟩
  · rintro i v D o L olds₁ h₁ tk₁ Base₁ m₁ cm₁ ps₁ qs₁ hi htk hP ⟨rfl, ys, rfl, hJ⟩ hB ho hcm hB2 C₁
    refine wpAny_mono (step i v D ys L h₁ tk₁ Base₁ m₁ cm₁ ps₁ qs₁ hi hP hJ hB hcm C₁) (fun _ s₂ h₂ => ?_) fun _ _ e => e
    show wpAny _ A (pure true) _ _ _
    refine wpAny_pure ?_
    rw [if_pos rfl]
    refine wpAny_bind (wpAny_mono h₂ (fun yv s₃ h₃ => wpAny_bind (wpAny_standAt (wpAny_bind ?_))) fun _ _ e => e)
    obtain ⟨n2, P2, cont2, m₂, h₂', tk₂, J2, rfl, C₂, hcont2, hit2, hJ2, hsz2, step2, done2⟩ := h₃
    rw [hs2]
    refine wpAny_pure (wpAny_bind (wpAny_holding (wpAny_mono hit2 (fun it s₄ h₄ => ?_) fun _ _ e => e)))
    obtain ⟨I, wr, Md, St, h₄', tk₄, rfl, rfl, T, k₄, hfresh⟩ := h₄
    have C₄ := C₂.keeps k₄
    refine wpAny_bind (wpAny_runOwn (A := A) (h := none) (Q := fun _ s' => wpAny (model prog w) A (pure ()) _ No s') ?_)
    have loop : codeAny (model prog w) A (.compLoop (.ListComp elt [⟨t1, i1, [], 0⟩, ⟨t2, i2, [], 0⟩] scope pos) 1 (.ref I) (.ref D) (blockEnv scope cl L env)) (fun r s' => match r with | .ok _ => TurnEnd H₀ Base₁ (blockEnv scope cl L env) [] ps₁ qs₁ (fun m' cm' olds' news' => ∃ o', news' = [(D, o')] ∧ (olds' = [] ∧ ∃ ys, o' = lst ys ∧ J (i + 1) ys) ∧ (∀ p ∈ olds', p ∈ ([] : List (Addr × Obj)) ∨ s₁.heap.get? p.1 = none) ∧ ∀ n, cm' n = cm n) s₁ s' | .error _ => False) { s₁ with heap := h₄', toks := tk₄ } := by
      have free := fun b hb => C₂.free (hfresh b hb)
      refine comp_turns (ifs := []) (emit := do let _ ← call (.builtin "list.append") [.ref D, ← eval elt (blockEnv scope cl L env)]) rfl rfl rfl T.W T.live T.st C₄ (fun b hb => ?_) (fun b hb => ?_)
        (fun k m' cm' olds' news' => olds' = [] ∧ ∃ ys, news' = [(D, lst ys)] ∧ (∀ n, cm' n = cm₁ n) ∧ J2 k ys m') ⟨rfl, ys, rfl, fun _ => rfl, hJ2⟩ ?_ ?_
      · rcases List.mem_append.mp hb with hb | hb
        · obtain ⟨f1, f2, f3, f4, f5, f6⟩ := free b hb
          exact ⟨f1, fun n c _ e => f2 n c e, f6⟩
        · exact hcont2 b hb
      · obtain ⟨f1, f2, f3, f4, f5, f6⟩ := free b hb
        exact ⟨f2, f3, f5, f4⟩
      · rintro k v' m₃ cm₃ olds₃ news₃ h₃ tk₃ Base₃ hk htk₃ hP2 ⟨rfl, ys₃, rfl, hcm₃, hJ3⟩ hB3 hB3' C₃
        have C₃' : Cx H₀ Base₃ (blockEnv scope cl L env) [] ((wr ++ cont2) ++ ps₁) (wr ++ qs₁) m₃ cm₁ [] [(D, lst ys₃)] h₃ := { C₃ with cell := fun n c e => by rw [← hcm₃]; exact C₃.cell n c e }
        refine wpAny_mono (step2 k v' ys₃ m₃ h₃ tk₃ Base₃ _ _ hk hP2 hJ3 hB3 C₃') (fun _ s₄ h₄ => ?_) fun _ _ e => e
        show wpAny _ A (pure true) _ _ _
        refine wpAny_pure ?_
        rw [if_pos rfl]
        refine wpAny_bind (wpAny_mono h₄ (fun y s₅ h₅ => wpAny_bind ?_) fun _ _ e => e)
        obtain ⟨h₅', tk₅, m₅, cm₅, olds₅, news₅, rfl, C₅, rfl, rfl, hcm₅, hJ5⟩ := h₅
        refine append_C (l₁ := []) (l₂ := []) C₅ (hsz2 _ _ _ hJ3) fun h₆ C₆ => wpAny_pure ?_
        exact ⟨h₆, tk₅, m₅, cm₅, [], _, rfl, C₆, rfl, _, rfl, hcm₅, hJ5⟩
      · rintro h' tk' m' cm' olds' news' htk' C' ⟨rfl, ys', rfl, hcm', hJ'⟩
        exact ⟨h', tk', m', cm', [], _, rfl, C', lst ys', rfl, ⟨rfl, ys', rfl, done2 _ _ hJ'⟩, fun p hp => (nomatch hp), fun n => (hcm' n).trans (hcm n)⟩
    have start := compStart1 loop (wpAny_mono (E := No) (T.self _ _ _ T.st loop) (fun _ _ q => q) fun _ _ e => e.elim)
    refine codeAny_mono start fun r s' hr => ?_
    cases r with
    | ok f => exact wpAny_pure hr
    | error e => exact hr.elim
  · rintro D o h' tk' olds' htk C' hD0 ⟨rfl, ys, rfl, hJ⟩
    exact done D ys h' tk' htk C' hD0 hJ
end

end
-- part F11

section
theorem lk_nil {env : Env} : ∀ n c, ([] : List (Str × Addr)).lookup n = some c → env.cells.lookup n = some c := fun n c e => (nomatch e)
theorem lk_one {env : Env} {x : Str} {a : Addr} (h : env.cells.lookup x = some a) : ∀ n c, [(x, a)].lookup n = some c → env.cells.lookup n = some c := fun n c e => by
  rw [lookup_cons_str] at e
  split at e
  · rename_i hn; rw [hn, ← e]; exact h
  · cases e
theorem lk_cons {env : Env} {x : Str} {a : Addr} {cl : List (Str × Addr)} (h : env.cells.lookup x = some a) (hc : ∀ n c, cl.lookup n = some c → env.cells.lookup n = some c) : ∀ n c, ((x, a) :: cl).lookup n = some c → env.cells.lookup n = some c := fun n c e => by
  rw [lookup_cons_str] at e
  split at e
  · rename_i hn; rw [hn, ← e]; exact h
  · exact hc n c e

/-- values that are texts -/
inductive strsAre : List Value → List (List Nat) → Prop
  | nil : strsAre [] []
  | cons (w : List Nat) (t : Tok) {vs ws} : strsAre vs ws → strsAre (.str (tx w) t :: vs) (w :: ws)
theorem strsAre.length {vs ws} (h : strsAre vs ws) : vs.length = ws.length := by induction h <;> simp_all
theorem strsAre.snoc {vs ws} (h : strsAre vs ws) (w : List Nat) (t : Tok) : strsAre (vs ++ [.str (tx w) t]) (ws ++ [w]) := by
  induction h with
  | nil => exact .cons w t .nil
  | cons w' t' _ ih => exact .cons w' t' ih
theorem strsAre.at {vs ws} (h : strsAre vs ws) : ∀ {i : Nat} {v : Value}, vs[i]? = some v → ∃ w t, v = .str (tx w) t ∧ ws[i]? = some w := by
  induction h with
  | nil => intro i v e; simp at e
  | cons w t _ ih =>
    intro i v e
    cases i with
    | zero => exact ⟨w, t, (Option.some.inj e).symm, rfl⟩
    | succ i => exact ih e
theorem strsAre.at' {vs ws} (h : strsAre vs ws) : ∀ {i : Nat} {w : List Nat}, ws[i]? = some w → ∃ t, vs[i]? = some (.str (tx w) t) := by
  induction h with
  | nil => intro i v e; simp at e
  | cons w t _ ih =>
    intro i v e
    cases i with
    | zero => exact ⟨t, by rw [← (Option.some.inj e)]; rfl⟩
    | succ i => exact ih e
theorem filter_take {α : Type} {p : α → Bool} {l : List α} {i : Nat} {a : α} (h : l[i]? = some a) : (l.take (i + 1)).filter p = (l.take i).filter p ++ if p a then [a] else [] := by
  rw [List.take_add_one, h, List.filter_append]
  cases hp : p a <;> simp [hp]

section
variable {prog : Program} {w : World} {A : Around} {H₀ : Heap} {Base : Addr → Obj → Prop} {env : Env} {oc : List Str} {ps qs : List Addr} {m cm : Str → Option Value} {olds news : List (Addr × Obj)}

/-- [x for x in texts if test] -/
theorem filter_C {x : Str} {px py : Pos} {test iter : Expr} {scope : Scope} {cl : List (Str × Addr)} {pos p₀ : Pos} {use : Option (Value → Sem Unit)} {Q : Value → Shared → Prop} {s : Shared} {p : List Nat → Bool} {m₀ cm₀ : Str → Option Value} {olds₀ news₀ : List (Addr × Obj)} {hp₀ : Heap} (_C : Cx H₀ Base env oc ps qs m₀ cm₀ olds₀ news₀ hp₀) (hh : A.handled = none)
    (hclos : closureFor scope env = pure cl) (hlk : ∀ n c, cl.lookup n = some c → env.cells.lookup n = some c)
    (hkind : scope.kind = .function) (hnames : ∀ x ∈ scope.names, x.2 = .local → scope.names.lookup x.1 = some .local)
    (hf : ∀ n acc, cellsFrom n scope.names acc = acc) (hp : ∀ h, pushCells h scope.names = h)
    (hx : ∀ L, (blockEnv scope cl L env).kindOf x = some .local) (hkb : ∀ L, (blockEnv scope cl L env).scope.kind = .function) (hxd : (x == ("__debug__" : Str)) = false)
    (h : wpAny (model prog w) A (eval iter env) (fun xv s₁ => ∃ l vs ws m cm olds news, xv = .ref l ∧ Cx H₀ Base env oc ps qs m cm olds news s₁.heap ∧ s₁.heap.IsList l vs.toArray ∧ strsAre vs ws ∧ ws.length ≤ 100000 ∧
      (∀ L z t h₁ tk₁ Base₁ m₁ cm₁ ps₁ qs₁ news₁, z ∈ ws → (∀ b o, s₁.heap.get? b = some o → Base₁ b o) → (∀ n, cm₁ n = cm n) → Cx H₀ Base₁ (blockEnv scope cl L env) [] ps₁ qs₁ m₁ cm₁ [] news₁ h₁ → m₁ x = some (.str (tx z) t) →
        wpAny (model prog w) A (PySem.isTrue test (blockEnv scope cl L env) (eval test (blockEnv scope cl L env))) (fun b s' => ∃ h' tk', s' = { s₁ with heap := h', toks := tk' } ∧ b = p z ∧ Ex h₁ h') No { s₁ with heap := h₁, toks := tk₁ }) ∧
      (∀ D ys h' tk', Cx H₀ Base env oc ps qs m cm ((D, lst ys) :: olds) news h' → Fresh s₁.heap D → strsAre ys (ws.filter p) → CompOut prog w A use Q s₁ D (lst ys) [] h' tk')) No s)
    (hs : ∀ x, foldedSetIterable iter env x = pure x := by intro _; rfl) :
    wpAny (model prog w) A (comprehension (.ListComp (.Name x py) [⟨.Name x px, iter, [test], 0⟩] scope pos) scope env p₀ (newList []) false (eval iter env) use) Q No s := by
  refine listComp0 (H₀ := H₀) (Base := Base) (oc := oc) (ps := ps) (qs := qs) hclos hlk hkind hnames hf hp (wpAny_mono h (fun xv s₁ h₁ => ?_) fun _ _ e => e) hs
  obtain ⟨l, vs, ws, m, cm, olds, news, rfl, C, hl, hst, hlen, htest, hdone⟩ := h₁
  have hvl : vs.toArray.size = ws.length := by rw [List.size_toArray]; exact hst.length
  refine ⟨_, _, [l], m, cm, olds, news, fun i ys olds' => olds' = [] ∧ strsAre ys ((ws.take i).filter p), ?_, C, ?_, iter_list hh hl, ⟨rfl, .nil⟩, ?_, ?_⟩
  · rw [hvl]; show _ ≤ 16777216; (first | lia | omega)
  · intro b hb
    rw [List.mem_singleton.mp hb]
    obtain ⟨o, e, _⟩ := hl
    exact ⟨o, e⟩
  · rintro i v D ys L olds₁ h₁ tk₁ Base₁ m₁ cm₁ ps₁ qs₁ hi htk hP ⟨rfl, hys⟩ hB ho hcm hB2 C₁
    rw [List.getElem?_toArray] at hP
    obtain ⟨z, t, rfl, hz⟩ := hst.at hP
    refine asL C₁ (fun h₂ C₂ => ?_) (hkb L) (hx L)
    show wpAny _ A (forIn [test] true _) _ _ _
    refine wpAny_tests_one (wpAny_mono (htest L z t h₂ _ Base₁ _ cm₁ ps₁ qs₁ _ (List.mem_of_getElem? hz) hB hcm C₂ (if_pos rfl)) (fun b s' hb => ?_) fun _ _ e => e)
    obtain ⟨h₃, tk₃, rfl, rfl, k₃⟩ := hb
    have C₃ := C₂.keeps k₃
    cases hpz : p z with
    | true =>
      rw [if_pos rfl]
      refine nmL C₃ (if_pos rfl) ?_ (hkb L) (hx L) hxd
      exact ⟨_, _, _, _, _, _, rfl, C₃, rfl, ⟨rfl, by rw [filter_take hz, hpz]; exact hys.snoc z t⟩, fun p hp => (nomatch hp), hcm⟩
    | false =>
      rw [if_neg Bool.false_ne_true]
      exact ⟨_, _, _, _, _, _, rfl, C₃, rfl, ⟨rfl, by rw [filter_take hz, hpz]; simpa using hys⟩, fun p hp => (nomatch hp), hcm⟩
  · rintro D ys h' tk' olds' htk C' hD0 ⟨rfl, hys⟩
    rw [List.take_of_length_le (Nat.le_of_eq hvl.symm)] at hys
    exact hdone D ys h' tk' C' hD0 hys
theorem eval_comp_list {elt : Expr} {g : Comprehension} {gs : List Comprehension} {scope : Scope} {pos : Pos} {Q : Value → Shared → Prop} {E : Value → Shared → Prop} {s : Shared} (ha : firstAsync (g :: gs) = false)
    (h : wpAny (model prog w) A (comprehension (.ListComp elt (g :: gs) scope pos) scope env (firstIterPos (g :: gs) pos) (newList []) false (firstIter (g :: gs) env) none) Q E s) :
    wpAny (model prog w) A (eval (.ListComp elt (g :: gs) scope pos) env) Q E s := by
  show wpAny _ A (comprehension (.ListComp elt (g :: gs) scope pos) scope env _ (newList []) (firstAsync (g :: gs)) (firstIter (g :: gs) env) none) _ _ s
  rw [ha]; exact h
theorem eval_comp_dict {kx vx : Expr} {g : Comprehension} {gs : List Comprehension} {scope : Scope} {pos : Pos} {Q : Value → Shared → Prop} {E : Value → Shared → Prop} {s : Shared} (ha : firstAsync (g :: gs) = false)
    (h : wpAny (model prog w) A (comprehension (.DictComp kx vx (g :: gs) scope pos) scope env (firstIterPos (g :: gs) pos) newDict false (firstIter (g :: gs) env) none) Q E s) :
    wpAny (model prog w) A (eval (.DictComp kx vx (g :: gs) scope pos) env) Q E s := by
  show wpAny _ A (comprehension (.DictComp kx vx (g :: gs) scope pos) scope env _ newDict (firstAsync (g :: gs)) (firstIter (g :: gs) env) none) _ _ s
  rw [ha]; exact h
/-- [x + y for x in texts for y in texts] -/
theorem pairs_C {x y : Str} {px py p1 p2 pb : Pos} {i1 i2 : Expr} {scope : Scope} {cl : List (Str × Addr)} {pos p₀ : Pos} {use : Option (Value → Sem Unit)} {Q : Value → Shared → Prop} {s : Shared} {m₀ cm₀ : Str → Option Value} {olds₀ news₀ : List (Addr × Obj)} {hp₀ : Heap} (_C : Cx H₀ Base env oc ps qs m₀ cm₀ olds₀ news₀ hp₀) (hh : A.handled = none)
    (hclos : closureFor scope env = pure cl) (hlk : ∀ n c, cl.lookup n = some c → env.cells.lookup n = some c)
    (hkind : scope.kind = .function) (hnames : ∀ x ∈ scope.names, x.2 = .local → scope.names.lookup x.1 = some .local)
    (hf : ∀ n acc, cellsFrom n scope.names acc = acc) (hp : ∀ h, pushCells h scope.names = h)
    (hx : ∀ L, (blockEnv scope cl L env).kindOf x = some .local) (hy : ∀ L, (blockEnv scope cl L env).kindOf y = some .local) (hkb : ∀ L, (blockEnv scope cl L env).scope.kind = .function) (hxd : (x == ("__debug__" : Str)) = false) (hyd : (y == ("__debug__" : Str)) = false) (hxy : x ≠ y)
    (h : wpAny (model prog w) A (eval i1 env) (fun xv s₁ => ∃ l vs xs l2 vs2 zs m cm olds news, xv = .ref l ∧ Cx H₀ Base env oc ps qs m cm olds news s₁.heap ∧ s₁.heap.IsList l vs.toArray ∧ strsAre vs xs ∧ xs.length ≤ 100 ∧ s₁.heap.IsList l2 vs2.toArray ∧ strsAre vs2 zs ∧ zs.length ≤ 100 ∧
      (∀ a ∈ xs, a.length ≤ 100) ∧ (∀ a ∈ zs, a.length ≤ 100) ∧
      (∀ L h₁ tk₁ Base₁ m₁ cm₁ ps₁ qs₁ news₁ Q', (∀ n, cm₁ n = cm n) → Cx H₀ Base₁ (blockEnv scope cl L env) [] ps₁ qs₁ m₁ cm₁ [] news₁ h₁ → Q' (.ref l2) { s₁ with heap := h₁, toks := tk₁ } →
        wpAny (model prog w) A (eval i2 (blockEnv scope cl L env)) Q' No { s₁ with heap := h₁, toks := tk₁ }) ∧
      (∀ D ys h' tk', Cx H₀ Base env oc ps qs m cm ((D, lst ys) :: olds) news h' → Fresh s₁.heap D → strsAre ys (xs.flatMap fun a => zs.map fun b => a ++ b) → CompOut prog w A use Q s₁ D (lst ys) [] h' tk')) No s)
    (hs : ∀ x, foldedSetIterable i1 env x = pure x := by intro _; rfl) (hs2 : ∀ c x, foldedSetIterable i2 c x = pure x := by intro _ _; rfl) :
    wpAny (model prog w) A (comprehension (.ListComp (.BinOp (.Name x px) .Add (.Name y py) pb) [⟨.Name x p1, i1, [], 0⟩, ⟨.Name y p2, i2, [], 0⟩] scope pos) scope env p₀ (newList []) false (eval i1 env) use) Q No s := by
  refine listComp2 (H₀ := H₀) (Base := Base) (oc := oc) (ps := ps) (qs := qs) hclos hlk hkind hnames hf hp (wpAny_mono h (fun xv s₁ h₁ => ?_) fun _ _ e => e) hs hs2
  obtain ⟨l, vs, xs, l2, vs2, zs, m, cm, olds, news, rfl, C, hl, hst, hlen, hl2, hst2, hlen2, hxs, hzs, hi2, hdone⟩ := h₁
  have hvl : vs.toArray.size = xs.length := by rw [List.size_toArray]; exact hst.length
  have hvl2 : vs2.toArray.size = zs.length := by rw [List.size_toArray]; exact hst2.length
  have live : ∀ {a : Addr} {vs : Array Value}, s₁.heap.IsList a vs → ∃ o, s₁.heap.get? a = some o := fun h => let ⟨o, e, _⟩ := h; ⟨o, e⟩
  refine ⟨_, _, [l], m, cm, olds, news, fun i ys => i ≤ xs.length ∧ strsAre ys ((xs.take i).flatMap fun a => zs.map fun b => a ++ b), C, ?_, iter_list hh hl, ⟨Nat.zero_le _, .nil⟩, ?_, ?_, ?_⟩
  · intro b hb
    rw [List.mem_singleton.mp hb]
    exact live hl
  · rintro i ys ⟨hi, hys⟩
    have h1 := hys.length
    have h2 : ((xs.take i).flatMap fun a => zs.map fun b => a ++ b).length = i * zs.length := by
      rw [List.length_flatMap]
      simp only [List.length_map]
      rw [List.map_const', List.sum_replicate_nat, List.length_take, Nat.min_eq_left hi]
    rw [h1, h2]
    have : i * zs.length ≤ 100 * 100 := Nat.mul_le_mul (by (first | lia | omega)) hlen2
    show _ ≤ 16777216; (first | lia | omega)
  · rintro i v D ys L h₁ tk₁ Base₁ m₁ cm₁ ps₁ qs₁ hi hP ⟨hi', hys⟩ hB hcm C₁
    rw [List.getElem?_toArray] at hP
    obtain ⟨a, t, rfl, ha⟩ := hst.at hP
    have hal := hxs a (List.mem_of_getElem? ha)
    refine asL C₁ (fun h₂ C₂ => ?_) (hkb L) (hx L)
    refine hi2 L h₂ _ Base₁ _ cm₁ ps₁ qs₁ _ _ hcm C₂ ?_
    refine ⟨_, _, [l2], _, h₂, _, fun k ys' m' => m' x = some (.str (tx a) t) ∧ k ≤ zs.length ∧ strsAre ys' (((xs.take i).flatMap fun a => zs.map fun b => a ++ b) ++ (zs.take k).map fun b => a ++ b), rfl, C₂, ?_, iter_list hh (hl2.at fun o e => C₂.base _ _ (hB _ _ e)), ⟨if_pos rfl, Nat.zero_le _, by simpa using hys⟩, ?_, ?_, ?_⟩
    · intro b hb
      rw [List.mem_singleton.mp hb]
      obtain ⟨o, e⟩ := live hl2
      exact (C₂.baseOff _ _ (hB _ _ e)).2
    · rintro k ys' m' ⟨_, hk, hys'⟩
      have h1 := hys'.length
      have h2 : ((xs.take i).flatMap fun a => zs.map fun b => a ++ b).length = i * zs.length := by
        rw [List.length_flatMap]
        simp only [List.length_map]
        rw [List.map_const', List.sum_replicate_nat, List.length_take, Nat.min_eq_left hi']
      rw [List.length_append, h2, List.length_map, List.length_take, Nat.min_eq_left hk] at h1
      have : i * zs.length ≤ 100 * 100 := Nat.mul_le_mul (by (first | lia | omega)) hlen2
      show _ ≤ 16777216; (first | lia | omega)
    · rintro k v' ys' m₃ h₃ tk₃ Base₃ ps₃ qs₃ hk hP2 ⟨hmx, hk', hys'⟩ hB3 C₃
      rw [List.getElem?_toArray] at hP2
      obtain ⟨b, t', rfl, hb⟩ := hst2.at hP2
      have hbl := hzs b (List.mem_of_getElem? hb)
      refine asL C₃ (fun h₄ C₄ => ?_) (hkb L) (hy L)
      refine wpAny_BinOp ?_
      refine nmL C₄ ((if_neg hxy).trans hmx) ?_ (hkb L) (hx L) hxd
      refine nmL C₄ (if_pos rfl) ?_ (hkb L) (hy L) hyd
      refine add_str (fun t₄ tk₄ => ?_) (by rw [tx_len, tx_len]; show _ ≤ 16777216; (first | lia | omega))
      rw [tx_append]
      refine ⟨_, _, _, _, _, _, rfl, C₄, rfl, rfl, fun _ => rfl, (if_neg hxy).trans hmx, ?_, ?_⟩
      · rw [hvl2] at hk; exact hk
      · rw [List.take_add_one, hb, Option.toList_some, List.map_append, ← List.append_assoc]
        exact hys'.snoc _ _
    · rintro ys' m' ⟨_, _, hys'⟩
      refine ⟨by rw [hvl] at hi; exact hi, ?_⟩
      rw [List.take_of_length_le (Nat.le_of_eq hvl2.symm)] at hys'
      rw [List.take_add_one, ha, Option.toList_some, List.flatMap_append, List.flatMap_singleton]
      exact hys'
  · rintro D ys h' tk' htk C' hD0 ⟨_, hys⟩
    rw [List.take_of_length_le (Nat.le_of_eq hvl.symm)] at hys
    exact hdone D ys h' tk' C' hD0 hys
end

end
local macro_rules | `(tactic| walk_at "ty") => `(tactic| first | with_unfolding_all rfl | with_unfolding_all decide | (intro _; with_unfolding_all rfl))
local macro_rules | `(tactic| walk_at "mem") => `(tactic| first | assumption | exact List.mem_cons_self | (refine List.mem_cons_of_mem _ ?_; walk_at "mem"))
local macro_rules | `(tactic| walk_at "lk") => `(tactic| first | assumption | exact if_pos rfl | (refine (if_neg (by decide)).trans ?_; walk_at "lk") | (with_unfolding_all rfl))
local macro_rules | `(tactic| walk_at "body") => `(tactic| (conv in execs (dBody _) _ => (arg 1; whnf)))
local macro_rules | `(tactic| walk_at "n1") => `(tactic| ((with_reducible show wpAny _ _ (eval (Expr.Name _ _) _) _ _ _); first
  | (refine evL (by walk_at "ty") (by assumption) (by walk_at "lk") ?_ (by walk_at "ty") (by decide))
  | (refine evC (by walk_at "ty") (by assumption) (by walk_at "lk") ?_ (by walk_at "ty") (by walk_at "ty") (by decide))
  | (refine evNT (by assumption) (by walk_at "ty") (by assumption) ?_ (by walk_at "ty") (by walk_at "ty"); intro _)
  | (refine evTY (T := "tuple") (by assumption) PyProof.Rows.Boot.tuple (by decide) (by walk_at "ty") (by assumption) ?_ (by decide) (by walk_at "ty") (by walk_at "ty") (by walk_at "ty") (by decide))
  | (refine evEM (by assumption) (by walk_at "ty") (by assumption) ?_ (by walk_at "ty") (by walk_at "ty"); intro _)))
local macro_rules | `(tactic| walk_at "st") => `(tactic| ((with_reducible show wpAny _ _ (storeName _ _ _) _ _ _); (try dsimp only); first
  | (refine stL (by assumption) ?_ (by walk_at "ty") (by walk_at "ty"); intro _ _)
  | (refine stC (by assumption) ?_ (by decide) (by walk_at "ty") (by walk_at "ty") (by walk_at "ty"); intro _ _)))
local macro_rules | `(tactic| walk_at "bt") => `(tactic| first | exact PyProof.Rows.Boot.len | exact PyProof.Rows.Boot.chr | exact PyProof.Rows.Boot.isinstance | exact PyProof.Rows.Boot.sorted | exact PyProof.Rows.Boot.abs | exact PyProof.Rows.Boot.sum | exact PyProof.Rows.Boot.min | exact PyProof.Rows.Boot.max | exact PyProof.Rows.Boot.enumerate | exact PyProof.Rows.Boot.range | exact PyProof.Rows.Boot.ord)
local macro_rules | `(tactic| walk_at "fn") => `(tactic| ((with_reducible show wpAny _ _ (eval (Expr.Call (Expr.Name _ _) _ _ _) _) _ _ _); first
  | (refine evB (by assumption) (by walk_at "bt") (by decide) (by walk_at "ty") (by assumption) ?_ (by decide) (by walk_at "ty") (by walk_at "ty") (by walk_at "ty") (by decide) (by walk_at "ty") (by walk_at "ty") (by walk_at "ty"))
  | (refine evT (by assumption) (by walk_at "bt") (by decide) (by walk_at "ty") (by assumption) ?_ (by decide) (by walk_at "ty") (by walk_at "ty") (by walk_at "ty") (by decide) (by walk_at "ty") (by walk_at "ty") (by walk_at "ty"))))
local macro_rules | `(tactic| walk_at "ev") => `(tactic| first
  | (with_reducible refine iteT (by with_unfolding_all rfl) ?_)
  | (with_reducible refine iteF (by with_unfolding_all rfl) ?_)
  | (with_reducible first | refine wpAny_execs_cons ?_ | refine wpAny_execs_nil ?_ | refine wpAny_Return_some ?_ | refine wpAny_Constant_int ?_ | refine Constant_str ?_ | refine Constant_bool ?_)
  | walk_at "n1"
  | walk_at "st"
  | (with_reducible refine spliced_more ?_ ?_; rotate_left; walk_at "ty")
  | (with_reducible refine spliced_none ?_)
  | (with_reducible first | refine wpAny_BinOp ?_)
  | (with_reducible refine wpAny_Compare1 ?_ ?_; rotate_left; walk_at "ty")
  | (with_reducible refine wpAny_isTrue_Compare1 ?_ ?_; rotate_left; walk_at "ty")
  | (with_reducible first | refine wpAny_If ?_)
  | (with_reducible refine wpAny_Assign_Name ?_ ?_; rotate_left; walk_at "ty")
  | (with_reducible refine Assign_Tuple_swapped ?_ (by walk_at "ty") (by walk_at "ty"))
  | (with_reducible refine Assign_Tuple ?_ (by walk_at "ty") (by walk_at "ty"))
  | (with_reducible first | refine wpAny_Assert_holds ?_ | refine wpAny_AugAssign_Name ?_)
  | (with_reducible refine ldL (by assumption) (by walk_at "lk") ?_ ?_ ?_; rotate_left; walk_at "ty"; walk_at "ty")
  | walk_at "fn"
  | (with_reducible first | refine UnaryOp_ ?_ | refine Subscript_ ?_ | refine wpAny_Slice ?_ | refine evalPart_none_step ?_ | refine evalPart_some_step ?_)
  | (with_reducible refine MethodCall_ ?_ (by walk_at "ty"))
  | (with_reducible first | refine callWith_method0 ?_)
  | (with_reducible refine callWith_method1 ?_ ?_ ?_; rotate_left; walk_at "ty"; walk_at "ty")
  | (with_reducible first | refine Tuple_ ?_ | refine List_ ?_ | refine add_int ?_ | refine sub_int ?_ | refine iadd_int ?_ | refine isub_int ?_ | refine neg_int ?_ | refine lt_int ?_ | refine gt_int ?_ | refine ge_int ?_ | refine eq_int ?_ | refine ne_int ?_ | refine eq_str ?_ | refine ne_str ?_ | refine wpAny_truthy_bool ?_ | refine wpAny_AugAssign_Subscript ?_)
  | (with_reducible refine wpAny_AugAssign_SubscriptAny ?_ (by intro _ _ _; with_unfolding_all rfl))
  | (with_reducible refine wpAny_Assign_Subscript ?_ (by walk_at "ty"))
  | (with_reducible first | refine GM.replace ?_ | refine GM.find ?_ | refine GM.split ?_ | refine GM.startswith ?_ | refine GM.endswith ?_ | refine GM.join ?_)
  | (with_reducible refine wpAny_Expr ?_ (by walk_at "ty") (by walk_at "ty"))
  | (with_reducible first | refine wpAny_Break ?_ | refine ord_C ?_ | refine in_str ?_ | refine isTrue_or ?_ | refine isTrue_or_nil ?_ | refine wpAny_isTrue_Not ?_)
  | (with_reducible refine isTrue_plain ?_ (by walk_at "ty")))

-- part G1

section
variable {prog : Program} {w : World} {A : Around} {H₀ : Heap} {mg mb : Str → Option Value} {fa : Nat → Addr} {E : Value → Shared → Prop} {s : Shared}
set_option maxHeartbeats 400000 in
theorem count_spec (S : Stat mg mb fa H₀) (R : Room 1 A) (hs : Ex H₀ s.heap) {a : Addr} {o : Obj} {D : List (Str × Int)} (ho : s.heap.get? a = some o) (hD : IsD prog w o D) (lo : (a == sysModules) = false)
    {Q : Value → Shared → Prop} (hQ : ∀ t h' tk', Ex s.heap h' → Q (.int (vsum D) t) { s with heap := h', toks := tk' }) :
    wpAny (model prog w) A (call (.ref (fa 3)) [.ref a]) Q E s := by
  obtain ⟨vals, hd, rfl⟩ := hD
  refine enter (oc := []) (binds := [("callers", .ref a)]) S (S.fn 3 (by decide)) hs R.room (fun _ _ _ => rfl) (kinds_of rfl) ?_
  intro L cd h₁ tk k₁ C
  walk_at "body"
  repeat walk_at "ev"
  rename_i h₂ C₂
  refine For_C C₂ ?_
  repeat walk_at "ev"
  have hdo : ∀ {h : Heap}, h.get? a = some o → h.DictOf (PySem.strKind prog w) a (intPairs vals) := fun e => Heap.dictOf_iff.mpr ⟨o, e, hd⟩
  refine gm_values (hdo (C₂.base _ _ ho)) ?_
  repeat walk_at "ev"
  refine call_values (hdo (C₂.base _ _ ho)) lo fun v h₃ fr k₃ hv => ?_
  have C₃ := C₂.keeps k₃
  refine ⟨_, _, _, [a], _, _, [], [], fun i m _ _ news => ∃ t, m "nc" = some (.int (vsum ((strip vals).take i)) t) ∧ news = [], Nat.le_refl _, C₃, ?_, iter_values (target := .Name "calls" _) R.hh hv (hdo (C₃.base _ _ ho)), ⟨_, by walk_at "lk", rfl⟩, ?_, ?_⟩
  · intro b hb
    rw [List.mem_singleton.mp hb]
    exact (C₃.baseOff _ _ ho).2
  · rintro i v m₁ cm₁ olds₁ news₁ h₄ tk₄ Base₁ ps₁ qs₁ hi htk ⟨k, hP⟩ ⟨t, hnc, rfl⟩ hB hB2 C₄
    obtain ⟨n, t', rfl, hn⟩ := strip_at hP
    refine asL C₄ fun h₅ C₅ => ?_
    repeat walk_at "ev"
    rename_i h₆ C₆
    refine ⟨_, _, _, _, _, _, rfl, C₆, _, by rw [vsum_take hn]; walk_at "lk", rfl⟩
  · rintro h' tk' m' cm' olds' news' htk C' ⟨t, hnc, rfl⟩
    repeat walk_at "ev"
    dsimp only
    rw [List.take_of_length_le (Nat.le_of_eq (strip_len vals))]
    exact hQ _ _ _ fun b o e => C'.base b o e

/-- token.py -/
theorem nonterm_spec (S : Stat mg mb fa H₀) (R : Room 1 A) (hs : Ex H₀ s.heap) {x : Int} {t : Tok}
    {Q : Value → Shared → Prop} (hQ : ∀ h' tk', Ex s.heap h' → Q (.bool (decide (256 ≤ x))) { s with heap := h', toks := tk' }) :
    wpAny (model prog w) A (call (.ref (fa 14)) [.int x t]) Q E s := by
  refine enter (oc := []) (binds := [("x", .int x t)]) S (S.fn 14 (by decide)) hs R.room (fun _ _ _ => rfl) (kinds_of rfl) ?_
  intro L cd h₁ tk k₁ C
  walk_at "body"
  repeat walk_at "ev"
  exact hQ _ _ k₁
theorem term_spec (S : Stat mg mb fa H₀) (R : Room 1 A) (hs : Ex H₀ s.heap) {x : Int} {t : Tok}
    {Q : Value → Shared → Prop} (hQ : ∀ h' tk', Ex s.heap h' → Q (.bool (decide (x < 256))) { s with heap := h', toks := tk' }) :
    wpAny (model prog w) A (call (.ref (fa 13)) [.int x t]) Q E s := by
  refine enter (oc := []) (binds := [("x", .int x t)]) S (S.fn 13 (by decide)) hs R.room (fun _ _ _ => rfl) (kinds_of rfl) ?_
  intro L cd h₁ tk k₁ C
  walk_at "body"
  repeat walk_at "ev"
  exact hQ _ _ k₁

end
-- part G2

section
variable {prog : Program} {w : World} {A : Around} {H₀ : Heap} {mg mb : Str → Option Value} {fa : Nat → Addr} {E : Value → Shared → Prop} {s : Shared}
/-- adding up, plain -/
def dadd (D : List (Str × Int)) (x : Str × Int) : List (Str × Int) := dput D x.1 (match dget D x.1 with | some n => n + x.2 | none => x.2)
def dmerge (D S : List (Str × Int)) : List (Str × Int) := S.foldl dadd D
theorem dput_len (D : List (Str × Int)) (k : Str) (n : Int) : (dput D k n).length ≤ D.length + 1 := by
  unfold dput
  by_cases h : D.any (fun x => decide (x.1 = k)) = true
  · rw [if_pos h, List.length_map]; exact Nat.le_succ _
  · rw [if_neg h, List.length_append]; exact Nat.le_refl _
theorem dmerge_len (S D : List (Str × Int)) : (dmerge D S).length ≤ D.length + S.length := by
  induction S generalizing D with
  | nil => exact Nat.le_refl _
  | cons x S ih =>
    refine Nat.le_trans (ih (dadd D x)) ?_
    have := dput_len D x.1 (match dget D x.1 with | some n => n + x.2 | none => x.2)
    show (dput D x.1 _).length + _ ≤ _
    rw [List.length_cons]; (first | lia | omega)
theorem dput_take {D : List (Str × Int)} (hn : (D.map (·.1)).Nodup) {i : Nat} {k : Str} {n : Int} (h : D[i]? = some (k, n)) : dput (D.take i) k n = D.take (i + 1) := by
  rw [List.take_add_one, h]
  unfold dput
  rw [if_neg]
  · rfl
  · intro hc
    obtain ⟨x, hx, he⟩ := List.any_eq_true.mp hc
    have he' : x.1 = k := of_decide_eq_true he
    obtain ⟨j, hj⟩ := List.mem_iff_getElem?.mp hx
    rw [List.getElem?_take] at hj
    by_cases hji : j < i
    · rw [if_pos hji] at hj
      have h1 : (D.map (·.1))[j]? = some k := by rw [List.getElem?_map, hj, ← he']; rfl
      have h2 : (D.map (·.1))[i]? = some k := by rw [List.getElem?_map, h]; rfl
      have hjl : j < (D.map (·.1)).length := (List.getElem?_eq_some_iff.mp h1).1
      exact absurd ((List.getElem?_inj hjl hn).mp (h1.trans h2.symm)) (Nat.ne_of_lt hji)
    · rw [if_neg hji] at hj; cases hj
theorem dmerge_take {D S : List (Str × Int)} {i : Nat} {x : Str × Int} (h : S[i]? = some x) : dmerge D (S.take (i + 1)) = dadd (dmerge D (S.take i)) x := by
  rw [List.take_add_one, h]; unfold dmerge; rw [List.foldl_append]; rfl

set_option maxHeartbeats 400000 in
theorem add_spec (S : Stat mg mb fa H₀) (R : Room 1 A) (hs : Ex H₀ s.heap) {a b : Addr} {oa ob : Obj} {Da Db : List (Str × Int)} (ha : s.heap.get? a = some oa) (hb : s.heap.get? b = some ob) (hDa : IsD prog w oa Da) (hDb : IsD prog w ob Db)
    (la : (a == sysModules) = false) (lb : (b == sysModules) = false) (hsz : Da.length + Db.length ≤ sizeLine)
    {Q : Value → Shared → Prop} (hQ : ∀ r o h' tk', Fresh s.heap r → Ex s.heap h' → h'.get? r = some o → IsD prog w o (dmerge Da Db) → Q (.ref r) { s with heap := h', toks := tk' }) :
    wpAny (model prog w) A (call (.ref (fa 2)) [.ref a, .ref b]) Q E s := by
  have na := hDa.nodup
  have nb := hDb.nodup
  refine enter (oc := []) (binds := [("target", .ref a), ("source", .ref b)]) S (S.fn 2 (by decide)) hs R.room (fun _ _ _ => rfl) (kinds_of rfl) ?_
  intro L cd h₁ tk k₁ C
  walk_at "body"
  repeat walk_at "ev"
  refine Dict0_C C fun r o h₂ fr₂ k₂ C₂ i₂ => ?_
  repeat walk_at "ev"
  rename_i h₃ C₃
  refine For_C C₃ ?_
  repeat walk_at "ev"
  obtain ⟨va, xda, rfl⟩ := hDa
  obtain ⟨vb, xdb, rfl⟩ := hDb
  have hda : ∀ {h : Heap}, h.get? a = some oa → h.DictOf (PySem.strKind prog w) a (intPairs va) := fun e => Heap.dictOf_iff.mpr ⟨oa, e, xda⟩
  have hdb : ∀ {h : Heap}, h.get? b = some ob → h.DictOf (PySem.strKind prog w) b (intPairs vb) := fun e => Heap.dictOf_iff.mpr ⟨ob, e, xdb⟩
  have lena : (strip va).length = (intPairs va).length := strip_len va
  have lenb : (strip vb).length = (intPairs vb).length := strip_len vb
  refine gm_items (hda (C₃.base _ _ ha)) ?_
  repeat walk_at "ev"
  refine call_items (hda (C₃.base _ _ ha)) la fun v h₄ fr₄ k₄ hv => ?_
  have C₄ := C₃.keeps k₄
  refine ⟨_, _, _, [a], _, _, [], _, fun i m _ olds news => olds = [] ∧ m "source" = some (.ref b) ∧ m "new_callers" = some (.ref r) ∧ ∃ o, news = [(r, o)] ∧ IsD prog w o ((strip va).take i), Nat.le_refl _, C₄, ?_,
    iter_items R.hh hv (hda (C₄.base _ _ ha)), ⟨rfl, by walk_at "lk", by walk_at "lk", o, rfl, i₂⟩, ?_, ?_⟩
  · intro b hb
    rw [List.mem_singleton.mp hb]
    exact (C₄.baseOff _ _ ha).2
  · rintro i v m₁ cm₁ olds₁ news₁ h₅ tk₅ Base₁ ps₁ qs₁ hi htk ⟨T, k, t, y, rfl, hy, hT⟩ ⟨rfl, hsrc, hnew, o₅, rfl, i₅⟩ hB hB2 C₅
    obtain ⟨n, t', rfl, hn⟩ := strip_at hy
    refine asT2 R.hh C₅ hT fun h₆ C₆ => ?_
    repeat walk_at "ev"
    refine setD_C (l₁ := []) (l₂ := []) C₆ i₅ (by rw [List.length_take]; (first | lia | omega)) fun h₇ o₇ C₇ i₇ => ?_
    rw [dput_take na hn] at i₇
    repeat walk_at "ev"
    refine ⟨_, _, _, _, _, _, rfl, C₇, rfl, by walk_at "lk", by walk_at "lk", _, rfl, i₇⟩
  · rintro h' tk' m' cm' olds' news' htk C' ⟨rfl, hsrc, hnew, o', rfl, i'⟩
    rw [List.take_of_length_le (Nat.le_of_eq (strip_len va))] at i'
    repeat walk_at "ev"
    refine For_C C' ?_
    repeat walk_at "ev"
    refine gm_items (hdb (C'.base _ _ hb)) ?_
    repeat walk_at "ev"
    refine call_items (hdb (C'.base _ _ hb)) lb fun v h₄ fr₄ k₄ hv => ?_
    have C₄ := C'.keeps k₄
    refine ⟨_, _, _, [b], _, _, [], _, fun i m _ olds news => olds = [] ∧ m "new_callers" = some (.ref r) ∧ ∃ o, news = [(r, o)] ∧ IsD prog w o (dmerge (strip va) ((strip vb).take i)), Nat.le_refl _, C₄, ?_,
      iter_items R.hh hv (hdb (C₄.base _ _ hb)), ⟨rfl, hnew, _, rfl, i'⟩, ?_, ?_⟩
    · intro c hc
      rw [List.mem_singleton.mp hc]
      exact (C₄.baseOff _ _ hb).2
    · rintro i v m₁ cm₁ olds₁ news₁ h₅ tk₅ Base₁ ps₁ qs₁ hi htk ⟨T, k, t, y, rfl, hy, hT⟩ ⟨rfl, hnew, o₅, rfl, i₅⟩ hB hB2 C₅
      obtain ⟨n, t', rfl, hn⟩ := strip_at hy
      refine asT2 R.hh C₅ hT fun h₆ C₆ => ?_
      have hlen : (dmerge (strip va) ((strip vb).take i)).length ≤ sizeLine := Nat.le_trans (dmerge_len _ _) (by rw [List.length_take]; (first | lia | omega))
      have lr : (r == sysModules) = false := fr₂.sys (S.main (hs.trans k₁))
      repeat walk_at "ev"
      refine inD (C₆.get_new (by walk_at "mem")) i₅ lr ?_
      cases hk : dget (dmerge (strip va) ((strip vb).take i)) k with
      | none =>
        repeat walk_at "ev"
        refine setD_C (l₁ := []) (l₂ := []) C₆ i₅ hlen fun h₇ o₇ C₇ i₇ => ?_
        repeat walk_at "ev"
        refine ⟨_, _, _, _, _, _, rfl, C₇, rfl, by walk_at "lk", _, rfl, ?_⟩
        rw [dmerge_take hn]; unfold dadd; rw [hk]; exact i₇
      | some n₀ =>
        repeat walk_at "ev"
        refine PySem.IsiPair.int_tuple ?_
        repeat walk_at "ev"
        refine getD (C₆.get_new (by walk_at "mem")) i₅ hk fun tn => ?_
        repeat walk_at "ev"
        refine setD_C (l₁ := []) (l₂ := []) C₆ i₅ hlen fun h₇ o₇ C₇ i₇ => ?_
        repeat walk_at "ev"
        refine ⟨_, _, _, _, _, _, rfl, C₇, rfl, by walk_at "lk", _, rfl, ?_⟩
        rw [dmerge_take hn]; unfold dadd; rw [hk]; exact i₇
    · rintro h' tk' m' cm' olds' news' htk C' ⟨rfl, hnew, o', rfl, i'⟩
      rw [List.take_of_length_le (Nat.le_of_eq (strip_len vb))] at i'
      repeat walk_at "ev"
      exact hQ _ _ _ _ (fr₂.up k₁) (fun b o e => C'.base b o e) (C'.get_new (by walk_at "mem")) i'

end
-- part G3

section
variable {prog : Program} {w : World} {A : Around} {H₀ : Heap} {mg mb : Str → Option Value} {fa : Nat → Addr} {E : Value → Shared → Prop} {s : Shared}
def replyS (x : Str) : Str := (Str.ofString "257 \"" ++ Txt.replace x (Str.ofString "\"") (Str.ofString "\"\"")) ++ Str.ofString "\" told"
theorem reply_spec (S : Stat mg mb fa H₀) (R : Room 1 A) (hs : Ex H₀ s.heap) {x : Str} {t : Tok} (hx : x.length ≤ 1000) (hl : (Txt.replace x (Str.ofString "\"") (Str.ofString "\"\"")).length ≤ 2 * x.length)
    {Q : Value → Shared → Prop} (hQ : ∀ h' tk' t', Ex s.heap h' → Q (.str (replyS x) t') { s with heap := h', toks := tk' }) :
    wpAny (model prog w) A (call (.ref (fa 17)) [.str x t]) Q E s := by
  refine enter (oc := []) (binds := [("word", .str x t)]) S (S.fn 17 (by decide)) hs R.room (fun _ _ _ => rfl) (kinds_of rfl) ?_
  intro L cd h₁ tk k₁ C
  walk_at "body"
  repeat walk_at "ev"
  refine SC.replace (Nat.succ_ne_zero _) (Nat.succ_ne_zero _) (Nat.ne_of_lt (Nat.lt_succ_self _)) (by decide) (by show x.length + (x.length + 1) * 2 ≤ _; (first | lia | omega)) fun t₁ k₁' => ?_
  refine add_str (fun t₂ k₂' => ?_) (by show 5 + _ ≤ 16777216; (first | lia | omega))
  repeat walk_at "ev"
  refine add_str (fun t₃ k₃' => ?_) ?_
  · repeat walk_at "ev"
    exact hQ _ _ _ k₁
  · rw [Str.length_append]
    show 5 + (Txt.replace x (Str.ofString "\"") (Str.ofString "\"\"")).length + 6 ≤ 16777216
    (first | lia | omega)

end
-- part G4

section
variable {prog : Program} {w : World} {A : Around} {H₀ : Heap} {mg mb : Str → Option Value} {fa : Nat → Addr} {E : Value → Shared → Prop} {s : Shared}
def rep (w : List Nat) : List Nat := [50, 53, 55, 32, 34] ++ (dbl 34 w ++ [34, 32, 116, 111, 108, 100])
theorem reply_rep (w : List Nat) : replyS (tx w) = tx (rep w) := by
  have h1 : Str.ofString "257 \"" = tx [50, 53, 55, 32, 34] := by decide
  have h2 : Str.ofString "\" told" = tx [34, 32, 116, 111, 108, 100] := by decide
  have h3 : Str.ofString "\"" = tx [34] := by decide
  have h4 : Str.ofString "\"\"" = tx [34, 34] := by decide
  unfold replyS
  rw [h1, h2, h3, h4, replace_tx, tx_append, tx_append, List.append_assoc]; rfl
theorem rep_drop (w : List Nat) (k : Nat) : (rep w).drop (5 + (dbl 34 (w.take k)).length) = dbl 34 (w.drop k) ++ [34, 32, 116, 111, 108, 100] := by
  unfold rep
  rw [← List.drop_drop]
  show List.drop _ (dbl 34 w ++ _) = _
  have : dbl 34 w = dbl 34 (w.take k) ++ dbl 34 (w.drop k) := by rw [← dbl_append, List.take_append_drop]
  rw [this, List.append_assoc, List.drop_left']
  rfl
theorem rep_len (w : List Nat) : (rep w).length = 11 + (dbl 34 w).length := by unfold rep; simp; (first | lia | omega)
theorem at_drop {l : List Nat} {j i : Nat} : (l.drop j)[i]? = l[j + i]? := List.getElem?_drop
theorem dbl_cons (c a : Nat) (l : List Nat) : dbl c (a :: l) = (if a = c then [c, c] else [a]) ++ dbl c l := rfl

set_option maxHeartbeats 8000000 in
theorem parse_spec (S : Stat mg mb fa H₀) (R : Room 1 A) (hs : Ex H₀ s.heap) {W : List Nat} {t : Tok} (hx : W.length ≤ 1000)
    {Q : Value → Shared → Prop} (hQ : ∀ h' tk' t', Ex s.heap h' → Q (.str (tx W) t') { s with heap := h', toks := tk' }) :
    wpAny (model prog w) A (call (.ref (fa 10)) [.str (tx (rep W)) t]) Q E s := by
  have hdl := dbl_len 34 W
  have hrl := rep_len W
  have hsz : (tx (rep W)).length ≤ sizeLine := by rw [tx_len]; show _ ≤ 16777216; (first | lia | omega)
  refine enter (oc := []) (binds := [("resp", .str (tx (rep W)) t)]) S (S.fn 10 (by decide)) hs R.room (fun _ _ _ => rfl) (kinds_of rfl) ?_
  intro L cd h₁ tk k₁ C
  walk_at "body"
  repeat walk_at "ev"
  refine sliceNS (fun h₂ t₂ k₂ x₂ => ?_) hsz rfl (fun _ => rfl)
  have C₂ := C.keeps x₂
  clear x₂ C
  dsimp only
  have e1 : Txt.slice (tx (rep W)) none (some 3) = tx [50, 53, 55] := (slice_ns (rep W) 3).trans rfl
  have e2 : Txt.slice (tx (rep W)) (some 3) (some 5) = tx [32, 34] := (slice_ss (rep W) 3 5 (by (first | lia | omega)) (by (first | lia | omega))).trans rfl
  rw [e1]
  repeat walk_at "ev"
  refine sliceSS (fun h₃ t₃ k₃ x₃ => ?_) hsz rfl (fun _ => rfl)
  have C₃ := C₂.keeps x₃
  clear x₃ C₂
  dsimp only
  rw [e2]
  repeat walk_at "ev"
  rename_i h₄ C₄ h₅ C₅
  clear C₄
  refine P.len_str (by rw [tx_len]; (first | lia | omega)) ?_
  repeat walk_at "ev"
  rename_i h₆ C₆
  clear C₅ C₃
  refine While_C (fun n s' => ∃ h tk m k, s' = { s with heap := h, toks := tk } ∧ Cx H₀ (fun b o => s.heap.get? b = some o) _ [] [] [] m _ [] [] h ∧ k ≤ W.length ∧ n = W.length - k ∧ m "resp" = some (.str (tx (rep W)) t) ∧
    (∃ z t', m "i" = some (.int z t') ∧ z = ((5 + (dbl 34 (W.take k)).length : Nat) : Int)) ∧ (∃ t', m "n" = some (.int ((rep W).length : Nat) t')) ∧ ∃ t', m "dirname" = some (.str (tx (W.take k)) t'))
    ?_ ⟨_, _, _, 0, rfl, C₆, Nat.zero_le _, rfl, by walk_at "lk", ⟨_, _, by walk_at "lk", rfl⟩, ⟨_, by walk_at "lk"⟩, ⟨_, by walk_at "lk"⟩⟩
  rintro n s' ⟨h, tk', m, k, rfl, C, hk, rfl, hr, ⟨z, t₁, hi, hz⟩, ⟨t₂', hn⟩, ⟨t₃', hd⟩⟩
  have hzl : z < ((rep W).length : Nat) := by
    have := dbl_len 34 (W.drop k)
    have e : dbl 34 W = dbl 34 (W.take k) ++ dbl 34 (W.drop k) := by rw [← dbl_append, List.take_append_drop]
    have e' : (dbl 34 W).length = (dbl 34 (W.take k)).length + (dbl 34 (W.drop k)).length := by rw [e, List.length_append]
    rw [hz, hrl]; (first | lia | omega)
  have hat : ∀ j : Nat, (rep W)[(5 + (dbl 34 (W.take k)).length) + j]? = (dbl 34 (W.drop k) ++ [34, 32, 116, 111, 108, 100])[j]? := fun j => by
    rw [← at_drop, rep_drop]
  have hfit : fitsSsize z = true := by unfold fitsSsize; rw [tx_len] at hsz; have : (rep W).length ≤ 16777216 := hsz; simp; (first | lia | omega)
  repeat walk_at "ev"
  rw [if_pos (decide_eq_true hzl)]
  repeat walk_at "ev"
  have hlo : -((tx (rep W)).length : Int) ≤ z := by (first | lia | omega)
  have hhi : z < ((tx (rep W)).length : Int) := by rw [tx_len]; exact hzl
  refine item_str hfit hlo hhi (fun _ => ?_) rfl (fun _ => rfl)
  rcases Nat.lt_or_ge k W.length with hkl | hkl
  · have hdk : W.drop k = W[k] :: W.drop (k + 1) := List.drop_eq_getElem_cons hkl
    have htk : W.take (k + 1) = W.take k ++ [W[k]] := List.take_succ_eq_append_getElem hkl
    rw [hdk, dbl_cons] at hat
    by_cases hq : W[k] = 34
    · rw [if_pos hq] at hat
      have h0 : (rep W)[5 + (dbl 34 (W.take k)).length]? = some 34 := (hat 0).trans rfl
      have h1 : (rep W)[5 + (dbl 34 (W.take k)).length + 1]? = some 34 := (hat 1).trans rfl
      have hi0 : Txt.item (tx (rep W)) z = tx [34] := by rw [hz]; exact item_tx h0
      have hi1 : Txt.item (tx (rep W)) (z + 1) = tx [34] := by
        rw [hz]; exact item_tx h1
      have hl1 : 5 + (dbl 34 (W.take k)).length + 1 < (rep W).length := (List.getElem?_eq_some_iff.mp h1).1
      rw [hi0]
      repeat walk_at "ev"
      rw [if_neg (by rw [decide_eq_true_eq]; (first | lia | omega))]
      repeat walk_at "ev"
      refine item_str (by unfold fitsSsize at hfit ⊢; simp at hfit ⊢; (first | lia | omega)) (by (first | lia | omega)) (by rw [tx_len]; (first | lia | omega)) (fun _ => ?_) rfl (fun _ => rfl)
      rw [hi1]
      repeat walk_at "ev"
      refine add_str (fun t₄ k₄ => ?_) (by rw [tx_len, tx_len, List.length_take]; show _ + 1 ≤ 16777216; (first | lia | omega))
      repeat walk_at "ev"
      rename_i C₉
      refine ⟨W.length - (k + 1), by (first | lia | omega), _, _, _, k + 1, rfl, C₉, hkl, rfl, by walk_at "lk", ⟨_, _, by walk_at "lk", ?_⟩, ⟨_, by walk_at "lk"⟩, ⟨_, by rw [htk, hq, ← tx_append]; walk_at "lk"⟩⟩
      rw [htk, dbl_append, hz, hq]
      show ((5 + (dbl 34 (W.take k)).length : Nat) : Int) + 1 + 1 = ((5 + (dbl 34 (W.take k) ++ [34, 34]).length : Nat) : Int)
      rw [List.length_append]; show _ = ((5 + (_ + 2) : Nat) : Int); (first | lia | omega)
    · rw [if_neg hq] at hat
      have h0 : (rep W)[5 + (dbl 34 (W.take k)).length]? = some W[k] := (hat 0).trans rfl
      have hi0 : Txt.item (tx (rep W)) z = tx [W[k]] := by rw [hz]; exact item_tx h0
      rw [hi0]
      repeat walk_at "ev"
      have hne : (tx [W[k]] == Str.ofString "\"") = false := by
        rw [show Str.ofString "\"" = tx [34] from by decide]
        exact beq_eq_false_iff_ne.mpr fun e => hq (by have := tx_inj e; simpa using this)
      refine iteF hne ?_
      repeat walk_at "ev"
      refine add_str (fun t₄ k₄ => ?_) (by rw [tx_len, tx_len, List.length_take]; show _ + 1 ≤ 16777216; (first | lia | omega))
      repeat walk_at "ev"
      rename_i C₉
      refine ⟨W.length - (k + 1), by (first | lia | omega), _, _, _, k + 1, rfl, C₉, hkl, rfl, by walk_at "lk", ⟨_, _, by walk_at "lk", ?_⟩, ⟨_, by walk_at "lk"⟩, ⟨_, by rw [htk, ← tx_append]; walk_at "lk"⟩⟩
      rw [htk, dbl_append, hz, dbl_free (c := 34) (l := [W[k]]) (fun h => hq (List.mem_singleton.mp h).symm), List.length_append]
      show _ = ((5 + (_ + 1) : Nat) : Int)
      (first | lia | omega)
  · have hdk : W.drop k = [] := List.drop_of_length_le hkl
    rw [hdk] at hat
    have h0 : (rep W)[5 + (dbl 34 (W.take k)).length]? = some 34 := (hat 0).trans rfl
    have h1 : (rep W)[5 + (dbl 34 (W.take k)).length + 1]? = some 32 := (hat 1).trans rfl
    have hi0 : Txt.item (tx (rep W)) z = tx [34] := by rw [hz]; exact item_tx h0
    have hi1 : Txt.item (tx (rep W)) (z + 1) = tx [32] := by rw [hz]; exact item_tx h1
    have hl1 : 5 + (dbl 34 (W.take k)).length + 1 < (rep W).length := (List.getElem?_eq_some_iff.mp h1).1
    rw [hi0]
    repeat walk_at "ev"
    rw [if_neg (by rw [decide_eq_true_eq]; (first | lia | omega))]
    repeat walk_at "ev"
    refine item_str (by unfold fitsSsize at hfit ⊢; simp at hfit ⊢; (first | lia | omega)) (by (first | lia | omega)) (by rw [tx_len]; (first | lia | omega)) (fun _ => ?_) rfl (fun _ => rfl)
    rw [hi1]
    repeat walk_at "ev"
    rename_i h₉ C₉ _
    rw [List.take_of_length_le hkl]
    exact hQ _ _ _ fun b o e => C₉.base b o e

end
-- part G5

section
variable {prog : Program} {w : World} {A : Around} {H₀ : Heap} {mg mb : Str → Option Value} {fa : Nat → Addr} {E : Value → Shared → Prop} {s : Shared}
open PySem.Builtin PySem.Builtin.Str
def has (l y : List Nat) : Bool := !(occurrences (tx l) (tx y) 0 (tx l).length 1).isEmpty
def dots (y : List Nat) : List Nat := [46, 46, 46] ++ y ++ [46, 46, 46]
theorem dots_in {y : List Nat} (hy : y ∈ [[290, 34], [290, 97], [353, 34], [353, 97]]) : (!(occurrences (tx (dots y)) (Str.ofString "...") 0 (tx (dots y)).length 1).isEmpty) = true ∧ Txt.split (tx (dots y)) (Str.ofString "...") = [tx [], tx y, tx []] := by
  simp only [List.mem_cons, List.not_mem_nil, or_false] at hy
  rcases hy with rfl | rfl | rfl | rfl <;> decide +kernel

set_option maxHeartbeats 4000000 in
theorem match_spec (S : Stat mg mb fa H₀) (R : Room 1 A) (hs : Ex H₀ s.heap) {y l : List Nat} {t t' : Tok} (hy : y ∈ [[290, 34], [290, 97], [353, 34], [353, 97]]) (hl : l.length ≤ 1000)
    {Q : Value → Shared → Prop} (hQ : ∀ h' tk', Ex s.heap h' → Q (.bool (has l y)) { s with heap := h', toks := tk' }) :
    wpAny (model prog w) A (call (.ref (fa 6)) [.str (tx (dots y)) t, .str (tx l) t']) Q E s := by
  obtain ⟨hin, hsp⟩ := dots_in hy
  have hyl : y.length = 2 := by
    simp only [List.mem_cons, List.not_mem_nil, or_false] at hy
    rcases hy with rfl | rfl | rfl | rfl <;> rfl
  have hdl : (tx (dots y)).length = 8 := by rw [tx_len]; unfold dots; rw [List.length_append, List.length_append, hyl]; rfl
  refine enter (oc := []) (binds := [("want", .str (tx (dots y)) t), ("got", .str (tx l) t')]) S (S.fn 6 (by decide)) hs R.room (fun _ _ _ => rfl) (kinds_of rfl) ?_
  intro L cd h₁ tk k₁ C
  walk_at "body"
  repeat walk_at "ev"
  refine notIn_str ?_
  repeat walk_at "ev"
  refine iteF (by rw [hin]; rfl) ?_
  repeat walk_at "ev"
  refine split_C C rfl (by rw [hdl]; decide) fun D ll h₂ k₂ hll fr₂ x₂ C₂ => ?_
  rw [hsp] at hll
  obtain ⟨a1, a2, a3, rfl⟩ : ∃ a1 a2 a3, ll = [(tx [], a1), (tx y, a2), (tx [], a3)] := by
    match ll, hll with
    | [(_, a1), (_, a2), (_, a3)], hll =>
      simp only [List.map_cons, List.map_nil, List.cons.injEq, and_true] at hll
      obtain ⟨rfl, rfl, rfl⟩ := hll
      exact ⟨_, _, _, rfl⟩
  clear hll C x₂
  have hD : ∀ {h : Heap}, h.get? D = some { cls := .type "list", data := .seq (strValues [(tx [], a1), (tx y, a2), (tx [], a3)]).toArray } → h.IsList D #[.str (tx []) a1, .str (tx y) a2, .str (tx []) a3] := fun e => ⟨_, e, rfl, _, rfl⟩
  repeat walk_at "ev"
  rename_i C₃
  clear C₂
  refine len_list (hD (C₃.get_old (by walk_at "mem"))) (by show (3 : Int) < 2 ^ 63; decide) ?_
  repeat walk_at "ev"
  refine ⟨rfl, ?_⟩
  repeat walk_at "ev"
  have hll : ¬ (((tx l).length : Int) ≥ 2 ^ 63) := by rw [tx_len]; (first | lia | omega)
  refine P.len_str hll ?_
  repeat walk_at "ev"
  refine newTuple_C C₃ (fun T h₄ fr₄ x₄ C₄ => ?_) (by show 2 ≤ 16777216; decide)
  refine swap2 R.hh C₄ (C₄.get_old (by walk_at "mem")) (fun h₅ C₅ => ?_) rfl rfl rfl
  clear C₃ C₄ x₄
  dsimp only
  repeat walk_at "ev"
  refine item_list (x := .str (tx []) a1) (hD (C₅.get_old (by walk_at "mem"))) (by decide) (by decide) rfl ?_ rfl (fun _ => rfl)
  repeat walk_at "ev"
  rename_i C₆
  clear C₅
  refine SBL.truthy (by rw [tx_len]; decide) ?_
  refine iteF rfl ?_
  repeat walk_at "ev"
  refine item_list_neg (x := .str (tx []) a3) (hD (C₆.get_old (by walk_at "mem"))) (by decide) (by show -(3 : Int) ≤ -1; decide) (by decide) rfl ?_ rfl (fun _ => rfl)
  repeat walk_at "ev"
  rename_i C₇
  clear C₆
  refine SBL.truthy (by rw [tx_len]; decide) ?_
  refine iteF rfl ?_
  repeat walk_at "ev"
  refine For_C C₇ ?_
  repeat walk_at "ev"
  refine ⟨_, _, _, [D], _, _, _, _, fun i m _ olds news => news = [] ∧ m "got" = some (.str (tx l) t') ∧ (∃ t, m "endpos" = some (.int ((tx l).length : Nat) t)) ∧ ∃ p t, m "startpos" = some (.int p t) ∧ (i ≤ 1 → p = 0) ∧ (2 ≤ i → has l y = true ∧ ∃ k : Nat, p = (k : Int) ∧ k ≤ l.length),
    Nat.le_refl _, C₇, ?_, iter_list R.hh (hD (C₇.get_old (by walk_at "mem"))), ⟨rfl, by walk_at "lk", ⟨_, by walk_at "lk"⟩, _, _, by walk_at "lk", fun _ => rfl, fun h => absurd h (by decide)⟩, ?_, ?_⟩
  · intro b hb
    rw [List.mem_singleton.mp hb]
    exact (C₇.oldOff (D, _) (by walk_at "mem")).2
  · rintro i v m₁ cm₁ olds₁ news₁ h₈ tk₈ Base₁ ps₁ qs₁ hi htk hP ⟨rfl, hgot, ⟨te, hend⟩, p, tp, hp, hp0, hp2⟩ hB hB2 C₈
    match i, hi, hP with
    | 0, _, hP =>
      obtain rfl : v = .str (tx []) a1 := (Option.some.inj hP).symm
      obtain rfl : p = 0 := hp0 (by decide)
      refine asL C₈ fun h₉ C₉ => ?_
      repeat walk_at "ev"
      refine call_seekIn ?_
      rw [show seekIn (tx l) (tx []) 0 ((tx l).length : Nat) = 0 from seekIn_nil l 0 (Nat.zero_le _)]
      repeat walk_at "ev"
      refine P.len_str (by rw [tx_len]; decide) ?_
      repeat walk_at "ev"
      rename_i C₁₀
      exact ⟨_, _, _, _, _, _, rfl, C₁₀, rfl, by walk_at "lk", ⟨_, by walk_at "lk"⟩, _, _, by walk_at "lk", fun _ => rfl, fun h => absurd h (by decide)⟩
    | 1, _, hP =>
      obtain rfl : v = .str (tx y) a2 := (Option.some.inj hP).symm
      obtain rfl : p = 0 := hp0 (by decide)
      refine asL C₈ fun h₉ C₉ => ?_
      repeat walk_at "ev"
      refine call_seekIn ?_
      cases hh : has l y with
      | true =>
        obtain ⟨k, hk, hkl⟩ := seekIn_found hh
        rw [show seekIn (tx l) (tx y) 0 ((tx l).length : Nat) = (k : Int) from hk]
        repeat walk_at "ev"
        refine P.len_str (by rw [tx_len]; (first | lia | omega)) ?_
        repeat walk_at "ev"
        rename_i C₁₀
        exact ⟨_, _, _, _, _, _, rfl, C₁₀, rfl, by walk_at "lk", ⟨_, by walk_at "lk"⟩, _, _, by walk_at "lk", fun h => absurd h (by decide), fun _ => ⟨rfl, k + 2, by rw [tx_len, hyl]; rfl, by (first | lia | omega)⟩⟩
      | false =>
        rw [show seekIn (tx l) (tx y) 0 ((tx l).length : Nat) = -1 from seekIn_none hh]
        repeat walk_at "ev"
        rename_i C₁₀
        rw [hh] at hQ
        exact hQ _ _ fun b o e => C₁₀.base b o (hB b o e)
    | 2, _, hP =>
      obtain rfl : v = .str (tx []) a3 := (Option.some.inj hP).symm
      obtain ⟨hh, k, rfl, hkl⟩ := hp2 (by decide)
      refine asL C₈ fun h₉ C₉ => ?_
      repeat walk_at "ev"
      refine call_seekIn ?_
      rw [show seekIn (tx l) (tx []) (k : Int) ((tx l).length : Nat) = (k : Int) from seekIn_nil l k hkl]
      repeat walk_at "ev"
      refine P.len_str (by rw [tx_len]; decide) ?_
      repeat walk_at "ev"
      rename_i C₁₀
      exact ⟨_, _, _, _, _, _, rfl, C₁₀, rfl, by walk_at "lk", ⟨_, by walk_at "lk"⟩, _, _, by walk_at "lk", fun h => absurd h (by decide), fun _ => ⟨hh, k, by rw [tx_len]; exact Int.add_zero _, hkl⟩⟩
  · rintro h' tk' m' cm' olds' news' htk C' ⟨rfl, hgot, ⟨te, hend⟩, p, tp, hp, hp0, hp2⟩
    repeat walk_at "ev"
    have : has l y = true := (hp2 (show 2 ≤ 3 by decide)).1
    rw [← this]
    exact hQ _ _ fun b o e => C'.base b o e

end
-- part G6

section
variable {prog : Program} {w : World} {A : Around} {H₀ : Heap} {mg mb : Str → Option Value} {fa : Nat → Addr} {E : Value → Shared → Prop} {s : Shared}
/-- the class's defs -/
def clsBody : Stmt → List Stmt
  | .ClassDef _ _ _ b .. => b
  | _ => []
def cFn (i : Nat) : Stmt := (clsBody (stmtAt 1)).getD i (.Pass default)
def mFd (d : Stmt) (qn : Str) (pm cd doc : Value) : FuncData := { docDef (dName d) (dParams d) (dBody d) (dScope d) pm cd doc with qualname := qn }
def MethAt (H : Heap) (d : Stmt) (qn : Str) (a : Addr) : Prop :=
  ∃ o pm cd doc, H.get? a = some o ∧ o.data = .func (mFd d qn pm cd doc) ∧ H.CodeRec cd qn
structure Judge (K : Frag) (C f g : Addr) (H : Heap) : Prop where
  X : K.In H
  pg : plainGet K C "compare" = true
  fc : findIn K (.ref C) "compare" = some (some (.ref f))
  tf : isFn K (.ref f) = true
  kf : keepIn K (.ref f) = true
  hd : hasDictIn K C = true
  at_ : findIn K (.ref C) "comp_select_list" = some none
  meth : MethAt H (cFn 1) "TupleComp.compare" f
/-- a TupleComp where it lies -/
def JudgeAt (C : Addr) (h : Heap) (j : Addr) (bs bt : Int) : Prop :=
  ∃ ox es n l T₀ T₁ t₀ t₁ t₂ t₃, InstAt h j ox C (some (dictOf es n)) ∧ getL "comp_select_list" es = some (some (.ref l)) ∧ getL "compare" es = some none ∧ h.IsList l #[.ref T₀, .ref T₁] ∧ h.IsTuple T₀ #[.int 0 t₀, .int bs t₁] ∧ h.IsTuple T₁ #[.int 1 t₂, .int bt t₃]
theorem IsList.ex {h h' : Heap} {l : Addr} {vs : Array Value} (k : Ex h h') (x : h.IsList l vs) : h'.IsList l vs := x.at fun o e => k _ _ e
theorem IsTuple.ex {h h' : Heap} {l : Addr} {vs : Array Value} (k : Ex h h') (x : h.IsTuple l vs) : h'.IsTuple l vs := let ⟨o, e, r⟩ := x; ⟨o, k _ _ e, r⟩
theorem InstAt.ex {h h' : Heap} {j C : Addr} {ox : Obj} {od : Option Obj} (k : Ex h h') (x : InstAt h j ox C od) : InstAt h' j ox C od := by
  obtain ⟨h1, h2, h3, h4⟩ := x
  refine ⟨k _ _ h1, h2, h3, ?_⟩
  revert h4
  cases ox.dict <;> cases od <;> first | exact id | exact fun e => k _ _ e
theorem JudgeAt.ex {C : Addr} {h h' : Heap} {j : Addr} {bs bt : Int} (k : Ex h h') (x : JudgeAt C h j bs bt) : JudgeAt C h' j bs bt := by
  obtain ⟨ox, es, n, l, T₀, T₁, t₀, t₁, t₂, t₃, h1, h2, h3, h4, h5, h6⟩ := x
  exact ⟨ox, es, n, l, T₀, T₁, t₀, t₁, t₂, t₃, InstAt.ex k h1, h2, h3, IsList.ex k h4, IsTuple.ex k h5, IsTuple.ex k h6⟩

theorem enterM {d : Stmt} {qn : Str} {a : Addr} {args : List Value} {binds : List (Str × Value)} {Q : Value → Shared → Prop} (S : Stat mg mb fa H₀) (hf : MethAt H₀ d qn a) (hs : Ex H₀ s.heap) (hroom : A.depth < recursionLimit)
    (hbind : ∀ pm cd doc, bindArgs (mFd d qn pm cd doc) ⟨args, []⟩ = pure binds)
    (hcell : ∀ x ∈ (dScope d).names, x.2 ≠ .cell) (hloc : ∀ x ∈ binds, (dScope d).names.lookup x.1 = some .local)
    (h : ∀ L pm cd doc h₁ tk, Ex s.heap h₁ → Cx H₀ (fun b o => s.heap.get? b = some o) (callEnv (mFd d qn pm cd doc) L a) [] [] [] (fun x => binds.reverse.lookup x) (fun _ => none) [] [] h₁ →
      wpAny (model prog w) (A.deeper (callEnv (mFd d qn pm cd doc) L a)) (execs (dBody d) (callEnv (mFd d qn pm cd doc) L a)) (fun f s' => Q (match f with | .ret v => v | _ => .none) s') No { s with heap := h₁, toks := tk })
    (hco : (dScope d).isCoroutine = false := by rfl) (hgen : (dScope d).isGenerator = false := by rfl) (hk : (dScope d).kind = .function := by rfl) :
    wpAny (model prog w) A (call (.ref a) args) Q E s := by
  obtain ⟨o, pm, cd, doc, h2, h3, h4⟩ := hf
  refine wpAny_call (codeAny_mono (R := fun r s' => match r with | .ok (.ret v) => Q v s' | .ok _ => False | .error e => False) ?_ fun r s' hr => ?_)
  · refine codeAny_call_def (fd := (mFd d qn pm cd doc)) (body := dBody d) (binds := binds) hroom (hs _ _ h2) h3 (S.nolimit.keeps hs) (h4.keeps hs) rfl (BindsTo.of_eq (hbind pm cd doc)) hcell hloc (fun h₀ hns hk₁ => ?_) hco hgen hk
    refine wpAny_mono (h _ pm cd doc h₀ _ hk₁ ⟨fun b o e => hs b o e, hns, hk₁, fun o e => absurd (Heap.lt_size e) (Nat.lt_irrefl _), fun n c e => (nomatch e), fun n c e => (nomatch e), fun n c n' e => (nomatch e), fun n c _ e => (nomatch e),
      fun p hp => (nomatch hp), fun p hp => (nomatch hp), fun p hp => (nomatch hp), List.nodup_nil, fun b hb => (nomatch hb), fun b hb => (nomatch hb)⟩) (fun f s' hq => hq) fun _ _ e => e.elim
  · cases r with
    | ok f => cases f <;> exact hr
    | error e => exact hr.elim

def cmpJ (bs bt : Int) (n₁ : Int) (x₁ : List Nat) (n₂ : Int) (x₂ : List Nat) : Int :=
  if n₁ < n₂ then -bs else if n₂ < n₁ then bs else if x₁ < x₂ then -bt else if x₂ < x₁ then bt else 0

set_option maxHeartbeats 4000000 in
theorem compare_spec {K : Frag} {C f g : Addr} (S : Stat mg mb fa H₀) (J : Judge K C f g H₀) (R : Room 1 A) (hs : Ex H₀ s.heap) {j a b : Addr} {bs bt n₁ n₂ : Int} {x₁ x₂ : List Nat} {u₁ u₂ u₃ u₄ : Tok} (hj : JudgeAt C s.heap j bs bt)
    (ha : s.heap.IsTuple a #[.int n₁ u₁, .str (tx x₁) u₂]) (hb : s.heap.IsTuple b #[.int n₂ u₃, .str (tx x₂) u₄])
    {Q : Value → Shared → Prop} (hQ : ∀ h' tk' t', Ex s.heap h' → Q (.int (cmpJ bs bt n₁ x₁ n₂ x₂) t') { s with heap := h', toks := tk' }) :
    wpAny (model prog w) A (call (.ref f) [.ref j, .ref a, .ref b]) Q E s := by
  obtain ⟨ox, es, n, l, T₀, T₁, t₀, t₁, t₂, t₃, hI, hg1, hg2, hl, hT₀, hT₁⟩ := hj
  refine enterM (binds := [("self", .ref j), ("left", .ref a), ("right", .ref b)]) S J.meth hs R.room (fun _ _ _ => rfl) (by decide) (by intro x hx; simp only [List.mem_cons, List.not_mem_nil, or_false] at hx; rcases hx with rfl | rfl | rfl <;> rfl) ?_
  intro L pm cd doc h₁ tk k₁ Cf
  walk_at "body"
  repeat walk_at "ev"
  refine For_C Cf ?_
  refine Attribute_Name_ ?_ (by with_unfolding_all rfl)
  repeat walk_at "ev"
  refine get_value (J.X.keeps Cf.hTop) (InstAt.ex k₁ hI) (plainGet_of J.pg).1 (findObj_own J.hd J.at_ rfl (by rw [lookIn_dict]; exact hg1)) rfl ?_
  refine ⟨_, _, _, [l], _, _, _, _, fun i m _ olds news => news = [] ∧ m "left" = some (.ref a) ∧ m "right" = some (.ref b) ∧ (1 ≤ i → n₁ = n₂) ∧ (2 ≤ i → ¬ x₁ < x₂ ∧ ¬ x₂ < x₁), Nat.le_refl _, Cf, ?_, iter_list R.hh (IsList.ex k₁ hl),
    ⟨rfl, by walk_at "lk", by walk_at "lk", fun h => absurd h (by decide), fun h => absurd h (by decide)⟩, ?_, ?_⟩
  · intro b hb
    rw [List.mem_singleton.mp hb]
    obtain ⟨o, e, _⟩ := hl
    exact (Cf.baseOff _ _ e).2
  · rintro i v m₁ cm₁ olds₁ news₁ h₈ tk₈ Base₁ ps₁ qs₁ hi htk hP ⟨rfl, hle, hri, hi1, hi2⟩ hB hB2 C₈
    have kk : Ex s.heap h₈ := fun b o e => C₈.base b o (hB b o e)
    match i, hi, hP with
    | 0, _, hP =>
      obtain rfl : v = .ref T₀ := (Option.some.inj hP).symm
      refine asT2 R.hh C₈ (IsTuple.ex kk hT₀) (fun h₉ C₉ => ?_) rfl rfl rfl
      repeat walk_at "ev"
      have ka : Ex s.heap h₉ := fun b o e => C₉.base b o (hB b o e)
      refine item_tuple (j := 0) (x := .int n₁ u₁) (IsTuple.ex ka ha) (by decide) (by decide) rfl rfl ?_ (by with_unfolding_all rfl) (by intro _; with_unfolding_all rfl)
      repeat walk_at "ev"
      rename_i h₁₀ C₁₀
      have kb : Ex s.heap h₁₀ := fun b o e => C₁₀.base b o (hB b o e)
      refine item_tuple (j := 0) (x := .int n₂ u₃) (IsTuple.ex kb hb) (by decide) (by decide) rfl rfl ?_ (by with_unfolding_all rfl) (by intro _; with_unfolding_all rfl)
      repeat walk_at "ev"
      rename_i h₁₁ C₁₁
      by_cases h1 : n₁ < n₂
      · refine iteT (decide_eq_true h1) ?_
        repeat walk_at "ev"
        have : cmpJ bs bt n₁ x₁ n₂ x₂ = -bs := by unfold cmpJ; rw [if_pos h1]
        rw [← this]
        exact hQ _ _ _ fun b o e => C₁₁.base b o (hB b o e)
      · refine iteF (decide_eq_false h1) ?_
        repeat walk_at "ev"
        by_cases h2 : n₂ < n₁
        · refine iteT (decide_eq_true h2) ?_
          repeat walk_at "ev"
          have : cmpJ bs bt n₁ x₁ n₂ x₂ = bs := by unfold cmpJ; rw [if_neg h1, if_pos h2]
          rw [← this]
          exact hQ _ _ _ fun b o e => C₁₁.base b o (hB b o e)
        · refine iteF (decide_eq_false h2) ?_
          repeat walk_at "ev"
          exact ⟨_, _, _, _, _, _, rfl, C₁₁, rfl, by walk_at "lk", by walk_at "lk", fun _ => by (first | lia | omega), fun h => absurd h (by decide)⟩
    | 1, _, hP =>
      obtain rfl : v = .ref T₁ := (Option.some.inj hP).symm
      have hn : n₁ = n₂ := hi1 (Nat.le_refl _)
      refine asT2 R.hh C₈ (IsTuple.ex kk hT₁) (fun h₉ C₉ => ?_) rfl rfl rfl
      repeat walk_at "ev"
      have ka : Ex s.heap h₉ := fun b o e => C₉.base b o (hB b o e)
      refine item_tuple (j := 1) (x := .str (tx x₁) u₂) (IsTuple.ex ka ha) (by decide) (by decide) rfl rfl ?_ (by with_unfolding_all rfl) (by intro _; with_unfolding_all rfl)
      repeat walk_at "ev"
      rename_i h₁₀ C₁₀
      have kb : Ex s.heap h₁₀ := fun b o e => C₁₀.base b o (hB b o e)
      refine item_tuple (j := 1) (x := .str (tx x₂) u₄) (IsTuple.ex kb hb) (by decide) (by decide) rfl rfl ?_ (by with_unfolding_all rfl) (by intro _; with_unfolding_all rfl)
      repeat walk_at "ev"
      rename_i h₁₁ C₁₁
      refine lt_str ?_
      repeat walk_at "ev"
      by_cases h1 : x₁ < x₂
      · refine iteT (decide_eq_true h1) ?_
        repeat walk_at "ev"
        have : cmpJ bs bt n₁ x₁ n₂ x₂ = -bt := by unfold cmpJ; rw [if_neg (by (first | lia | omega)), if_neg (by (first | lia | omega)), if_pos h1]
        rw [← this]
        exact hQ _ _ _ fun b o e => C₁₁.base b o (hB b o e)
      · refine iteF (decide_eq_false h1) ?_
        repeat walk_at "ev"
        refine P.gt_str ?_
        repeat walk_at "ev"
        by_cases h2 : x₂ < x₁
        · refine iteT (decide_eq_true h2) ?_
          repeat walk_at "ev"
          have : cmpJ bs bt n₁ x₁ n₂ x₂ = bt := by unfold cmpJ; rw [if_neg (by (first | lia | omega)), if_neg (by (first | lia | omega)), if_neg h1, if_pos h2]
          rw [← this]
          exact hQ _ _ _ fun b o e => C₁₁.base b o (hB b o e)
        · refine iteF (decide_eq_false h2) ?_
          repeat walk_at "ev"
          exact ⟨_, _, _, _, _, _, rfl, C₁₁, rfl, by walk_at "lk", by walk_at "lk", fun _ => hn, fun _ => ⟨h1, h2⟩⟩
  · rintro h' tk' m' cm' olds' news' htk C' ⟨rfl, hle, hri, hi1, hi2⟩
    repeat walk_at "ev"
    have e1 : n₁ = n₂ := hi1 (show 1 ≤ 2 by decide)
    obtain ⟨e2, e3⟩ := hi2 (show 2 ≤ 2 by decide)
    have : cmpJ bs bt n₁ x₁ n₂ x₂ = 0 := by
      unfold cmpJ; rw [if_neg (by (first | lia | omega)), if_neg (by (first | lia | omega)), if_neg e2, if_neg e3]
    rw [← this]
    exact hQ _ _ _ fun b o e => C'.base b o e

end
-- part F12

section

/-- counts of words, plain -/
abbrev WD := List (List Nat × Int)
def gget (D : WD) (k : List Nat) : Option Int := (D.find? fun x => decide (x.1 = k)).map (·.2)
def gput (D : WD) (k : List Nat) (v : Int) : WD := if D.any (fun x => decide (x.1 = k)) then D.map (fun x => if x.1 = k then (x.1, v) else x) else D ++ [(k, v)]
def gadd (D : WD) (x : List Nat × Int) : WD := gput D x.1 (match gget D x.1 with | some n => n + x.2 | none => x.2)
def gmerge (D S : WD) : WD := S.foldl gadd D
/-- the dict's form of it -/
def encD (g : List Nat → Str) (D : WD) : List (Str × Int) := D.map fun x => (g x.1, x.2)

section
variable {g : List Nat → Str} (hg : ∀ a b, g a = g b → a = b)
include hg
theorem enc_get (D : WD) (k : List Nat) : dget (encD g D) (g k) = gget D k := by
  unfold dget gget encD
  rw [List.find?_map, Option.map_map]
  have : (fun x : List Nat × Int => decide (x.1 = k)) = ((fun x : Str × Int => decide (x.1 = g k)) ∘ fun x => (g x.1, x.2)) := by
    funext x
    show decide (x.1 = k) = decide (g x.1 = g k)
    by_cases h : x.1 = k
    · rw [h]; simp
    · rw [decide_eq_false h, decide_eq_false fun e => h (hg _ _ e)]
  rw [this]
  rfl
theorem enc_put (D : WD) (k : List Nat) (v : Int) : dput (encD g D) (g k) v = encD g (gput D k v) := by
  unfold dput gput encD
  rw [List.any_map]
  have hc : ∀ x : List Nat × Int, decide (g x.1 = g k) = decide (x.1 = k) := fun x => by
    by_cases h : x.1 = k
    · rw [h]; simp
    · rw [decide_eq_false h, decide_eq_false fun e => h (hg _ _ e)]
  have : ((fun x : Str × Int => decide (x.1 = g k)) ∘ fun x : List Nat × Int => (g x.1, x.2)) = fun x => decide (x.1 = k) := funext hc
  rw [this]
  by_cases h : D.any (fun x => decide (x.1 = k)) = true
  · rw [if_pos h, if_pos h, List.map_map, List.map_map]
    refine List.map_congr_left fun x _ => ?_
    by_cases hx : x.1 = k
    · simp [hx]
    · have : ¬ g x.1 = g k := fun e => hx (hg _ _ e)
      simp [hx, this]
  · rw [if_neg h, if_neg h, List.map_append]; rfl
theorem enc_add (D : WD) (x : List Nat × Int) : dadd (encD g D) (g x.1, x.2) = encD g (gadd D x) := by
  unfold dadd gadd
  simp only [enc_get hg]
  exact enc_put hg _ _ _
theorem enc_merge (S : WD) : ∀ D : WD, dmerge (encD g D) (encD g S) = encD g (gmerge D S) := by
  induction S with
  | nil => intro D; rfl
  | cons x S ih =>
    intro D
    show dmerge (dadd (encD g D) (g x.1, x.2)) (encD g S) = _
    rw [enc_add hg, ih]; rfl
theorem enc_filter (D : WD) (k : List Nat) : (encD g D).filter (fun x => decide (x.1 ≠ g k)) = encD g (D.filter fun x => decide (x.1 ≠ k)) := by
  unfold encD
  rw [List.filter_map]
  have : ((fun x : Str × Int => decide (x.1 ≠ g k)) ∘ fun x : List Nat × Int => (g x.1, x.2)) = fun x => decide (x.1 ≠ k) := by
    funext x
    show decide (g x.1 ≠ g k) = decide (x.1 ≠ k)
    by_cases h : x.1 = k
    · rw [h]; simp
    · have h' : g x.1 ≠ g k := fun e => h (hg _ _ e)
      rw [decide_eq_true h, decide_eq_true h']
  rw [this]
end
theorem dbl_inj (c : Nat) : ∀ {a b : List Nat}, dbl c a = dbl c b → a = b
  | [], [], _ => rfl
  | [], y :: b, h => by
    rw [dbl_cons] at h
    by_cases hy : y = c
    · rw [if_pos hy] at h; cases h
    · rw [if_neg hy] at h; cases h
  | x :: a, [], h => by
    rw [dbl_cons] at h
    by_cases hy : x = c
    · rw [if_pos hy] at h; cases h
    · rw [if_neg hy] at h; cases h
  | x :: a, y :: b, h => by
    rw [dbl_cons, dbl_cons] at h
    by_cases hx : x = c <;> by_cases hy : y = c
    · rw [if_pos hx, if_pos hy] at h
      have := dbl_inj c (List.append_cancel_left h)
      rw [hx, hy, this]
    · rw [if_pos hx, if_neg hy] at h
      simp only [List.cons_append, List.nil_append, List.cons.injEq] at h
      exact absurd h.1.symm hy
    · rw [if_neg hx, if_pos hy] at h
      simp only [List.cons_append, List.nil_append, List.cons.injEq] at h
      exact absurd h.1 hx
    · rw [if_neg hx, if_neg hy] at h
      simp only [List.cons_append, List.nil_append, List.cons.injEq] at h
      rw [h.1, dbl_inj c h.2]
def reply (w : List Nat) : Str := tx (rep w)
theorem reply_inj (a b : List Nat) (h : reply a = reply b) : a = b := by
  have := tx_inj h
  unfold rep at this
  exact dbl_inj 34 (List.append_cancel_right (List.append_cancel_left this))
theorem reply_ne (a : List Nat) : reply a ≠ Str.ofString "" := fun h => by
  have : (reply a).length = 0 := by rw [h]; rfl
  unfold reply at this
  rw [tx_len, rep_len] at this
  (first | lia | omega)

section
variable {prog : Program} {w : World} {A : Around} {E : Value → Shared → Prop} {s : Shared}
theorem eqNil {l b : Addr} {vs : List Value} {Q : Value → Shared → Prop} (hl : s.heap.IsList l vs.toArray) (hb : s.heap.IsList b #[]) (hu : A.units < cLine) (h : Q (.bool vs.isEmpty) s) : wpAny (model prog w) A (compareOp .Eq (.ref l) (.ref b)) Q E s := by
  cases vs with
  | nil => exact SeqAt.eq_listAt (e := fun _ => true) hl hb rfl hu (fun i h => absurd h (by simp)) h
  | cons v vs => exact SeqAt.eq_list_lengthsAt hl hb (by simp) hu h
theorem itemD {value slice : Expr} {d : Addr} {o : Obj} {D : List (Str × Int)} {k : Str} {tk : Tok} {n : Int} {Q : Value → Shared → Prop} (ho : s.heap.get? d = some o) (hD : IsD prog w o D) (hk : dget D k = some n)
    (h : ∀ t, Q (.int n t) { s with toks := s.toks + 1 })
    (hs : subscripted slice false (.ref d) (.str k tk) = operate [.ref d, .str k tk] (getItem (.ref d) (.str k tk))) (ht : ∀ r, letTemporaryGo value (.ref d) r = pure ()) :
    wpAny (model prog w) A (subscriptTail value slice (.ref d) (.str k tk)) Q E s := by
  obtain ⟨vals, hd, e⟩ := id hD
  exact subscriptTail_builtin (Heap.DictOf.mapOf (Heap.dictOf_iff.mpr ⟨o, ho, hd⟩)).typeIs PySem.F.slot_dict_getitem.lookup (getD ho hD hk h) hs ht
theorem gget_of {D : WD} (hn : (D.map (·.1)).Nodup) {k : List Nat} {c : Int} (h : (k, c) ∈ D) : gget D k = some c := by
  induction D with
  | nil => cases h
  | cons x D ih =>
    unfold gget
    rw [List.find?_cons]
    rw [List.map_cons, List.nodup_cons] at hn
    by_cases hx : x.1 = k
    · rw [decide_eq_true hx]
      rcases List.mem_cons.mp h with rfl | h
      · rfl
      · exact absurd (hx ▸ List.mem_map_of_mem h) hn.1
    · rw [decide_eq_false hx]
      rcases List.mem_cons.mp h with rfl | h
      · exact absurd rfl hx
      · exact ih hn.2 h
theorem enc_nodup {g : List Nat → Str} {D : WD} (h : ((encD g D).map (·.1)).Nodup) : (D.map (·.1)).Nodup := by
  unfold encD at h
  rw [List.map_map] at h
  have e : ((fun x : Str × Int => x.1) ∘ fun x : List Nat × Int => (g x.1, x.2)) = g ∘ fun x => x.1 := rfl
  rw [e, ← List.map_map] at h
  exact (List.pairwise_map.mp h).imp fun hne e => hne (by rw [e])
theorem dput_new {D : List (Str × Int)} {k : Str} {n : Int} (h : ∀ x ∈ D, x.1 ≠ k) : dput D k n = D ++ [(k, n)] := by
  unfold dput
  rw [if_neg]
  intro hc
  obtain ⟨x, hx, he⟩ := List.any_eq_true.mp hc
  exact h x hx (of_decide_eq_true he)
theorem take_apart {D : List (Str × Int)} (hn : (D.map (·.1)).Nodup) {i : Nat} {k : Str} {n : Int} (h : D[i]? = some (k, n)) : ∀ x ∈ D.take i, x.1 ≠ k := by
  intro x hx he
  obtain ⟨j, hj⟩ := List.mem_iff_getElem?.mp hx
  rw [List.getElem?_take] at hj
  by_cases hji : j < i
  · rw [if_pos hji] at hj
    have h1 : (D.map (·.1))[j]? = some k := by rw [List.getElem?_map, hj, ← he]; rfl
    have h2 : (D.map (·.1))[i]? = some k := by rw [List.getElem?_map, h]; rfl
    have hjl : j < (D.map (·.1)).length := (List.getElem?_eq_some_iff.mp h1).1
    exact absurd ((List.getElem?_inj hjl hn).mp (h1.trans h2.symm)) (Nat.ne_of_lt hji)
  · rw [if_neg hji] at hj; cases hj
theorem dput_filter {D : List (Str × Int)} (hn : (D.map (·.1)).Nodup) {p : Str × Int → Bool} {i : Nat} {k : Str} {n : Int} (h : D[i]? = some (k, n)) (hp : p (k, n) = true) : dput ((D.take i).filter p) k n = (D.take (i + 1)).filter p := by
  rw [dput_new fun x hx => take_apart hn h x (List.mem_filter.mp hx).1, filter_take h, hp]; rfl
end

end
-- part F13

section
section
variable {prog : Program} {w : World} {A : Around} {E : Value → Shared → Prop} {s : Shared}
theorem draw_list {it l : Addr} {items : Array Value} (hne : l ≠ it) : ∀ (n i : Nat) (s : Shared) (Q : List Value → Shared → Prop), s.heap.IsListIter it l i → s.heap.IsList l items → i + n ≤ items.size →
    (∀ h', h'.IsListIter it l (i + n) → Heap.SameBut it s.heap h' → Q ((items.toList.drop i).take n) { s with heap := h' }) → wpAny (model prog w) A (draw (.ref it) n) Q E s
  | 0, i, s, Q, hit, _, _, hQ => by
    show wpAny _ _ (pure []) Q E s
    exact wpAny_pure (by simpa using hQ s.heap hit (Heap.SameBut.refl ..))
  | n + 1, i, s, Q, hit, hl, hle, hQ => by
    have hlt : i < items.size := by (first | lia | omega)
    show wpAny _ _ (pyNext (.ref it) >>= _) Q E s
    refine wpAny_bind (wpAny_pyNext_list_item hit hl (x := items[i]) (by simp [hlt]) fun h₁ hit₁ hs₁ => ?_)
    refine wpAny_bind (wpAny_holding (draw_list hne n (i + 1) _ _ hit₁ (hl.extBut hs₁.extBut hne) (by (first | lia | omega)) fun h₂ hit₂ hs₂ => wpAny_pure ?_))
    have hd : items.toList.drop i = items[i] :: items.toList.drop (i + 1) := by simp [List.drop_eq_getElem_cons, hlt]
    have := hQ h₂ (by rw [show i + (n + 1) = i + 1 + n by (first | lia | omega)]; exact hit₂) (hs₁.trans hs₂)
    rw [hd, List.take_succ_cons] at this
    exact this
theorem unpackItems_list {l : Addr} {items : Array Value} {Q : List Value → Shared → Prop} (hh : A.handled = none) (hl : s.heap.IsList l items)
    (hQ : ∀ h', Ex s.heap h' → Q items.toList { s with heap := h' }) : wpAny (model prog w) A (unpackItems (.ref l) items.size none) Q E s := by
  have hlt : l ≠ s.heap.objs.size := by obtain ⟨o, ho, _⟩ := hl; exact Nat.ne_of_lt (Heap.lt_size ho)
  unfold unpackItems
  refine wpAny_bind ?_
  unfold notIterableAtAll
  refine wpAny_bind (wpAny_specialOf hl.typeIs F.slot_list_iter.lookup ?_)
  refine wpAny_pure ?_
  simp only [Bool.false_eq_true, if_false]
  refine wpAny_bind (wpAny_holding (wpAny_pyIter_list hl ?_))
  have kp : Ex s.heap (s.heap.push { cls := .type "list_iterator", data := .fields #[.ref l, .int 0 0] }) := ex_push _ _
  refine wpAny_bind (wpAny_holding (draw_list hlt items.size 0 _ _ ⟨_, push_live rfl, rfl, rfl⟩ (hl.at fun o e => kp _ _ e) (by (first | lia | omega)) fun h₁ hit₁ hs₁ => ?_))
  have hall : List.take items.size (List.drop 0 items.toList) = items.toList := by
    rw [List.drop_zero]; exact List.take_of_length_le (by simp)
  rw [hall, if_neg (by simp)]
  have k₁ : Ex s.heap h₁ := Ex_sameBut kp (next_none _) hs₁
  refine wpAny_bind (wpAny_holding (wpAny_pyNext_list_end hh hit₁ (hl.at fun o e => k₁ _ _ e) (by simp) fun h₂ he₂ => ?_))
  simp only [Option.isSome_none, Bool.false_eq_true, if_false]
  exact wpAny_pure (hQ h₂ fun b o e => he₂ b o (fun q => by rw [q, next_none] at e; cases e) (k₁ b o e))
end
section
variable {prog : Program} {w : World} {A : Around} {H₀ : Heap} {E : Value → Shared → Prop} {s : Shared}
variable {Base : Addr → Obj → Prop} {env : Env} {oc : List Str} {ps qs : List Addr} {m cm : Str → Option Value} {olds news : List (Addr × Obj)}
/-- a pair of names from a list of two -/
theorem asL2 {x y : Str} {px py pos : Pos} {kk : Nat} {l : Addr} {v₁ v₂ : Value} {Q : Unit → Shared → Prop} (hh : A.handled = none) (C : Cx H₀ Base env oc ps qs m cm olds news s.heap) (hT : s.heap.IsList l #[v₁, v₂])
    (h : ∀ h', Cx H₀ Base env oc ps qs (fun z => if z = y then some v₂ else if z = x then some v₁ else m z) cm olds news h' → Q () { s with heap := h', toks := s.toks + 1 + 1 })
    (hk : env.scope.kind = .function) (hx : env.kindOf x = some .local) (hy : env.kindOf y = some .local) :
    wpAny (model prog w) A (assign (.Tuple [.Name x px, .Name y py] kk pos) env (.ref l)) Q E s := by
  rw [arm_assign_Tuple]
  refine wpAny_bind (wpAny_standAt ?_)
  show wpAny _ _ (unpack (.ref l) [(false, assign (.Name x px) env), (false, assign (.Name y py) env)]) _ _ _
  unfold unpack
  have e2 : [(false, assign (.Name x px) env), (false, assign (.Name y py) env)].length = (#[v₁, v₂] : Array Value).size := rfl
  rw [e2]
  refine wpAny_bind (wpAny_holding (unpackItems_list hh hT fun h₁ k₁ => ?_))
  have C₁ := C.keeps k₁
  refine wpAny_assignInOrder_more ?_
  refine asL C₁ (fun h₂ C₂ => ?_) hk hx
  refine wpAny_assignInOrder_more ?_
  refine asL C₂ (fun h₃ C₃ => ?_) hk hy
  exact wpAny_assignInOrder_none (h _ C₃)
/-- a list that grows -/
theorem appendN_C {D : Addr} {ys : List Value} {n : Nat} {x : Value} {l₁ l₂ : List (Addr × Obj)} {Q : Value → Shared → Prop} (C : Cx H₀ Base env oc ps qs m cm olds (l₁ ++ (D, { cls := .type "list", data := .seq ys.toArray n }) :: l₂) s.heap) (hsz : ys.length ≤ sizeLine)
    (h : ∀ h', Cx H₀ Base env oc ps qs m cm olds (l₁ ++ (D, { cls := .type "list", data := .seq (ys ++ [x]).toArray (n + 1) }) :: l₂) h' → Q .none { s with heap := h' }) :
    wpAny (model prog w) A (call (.builtin "list.append") [.ref D, x]) Q E s := by
  refine append_at (its := ys.toArray) (n := n) (C.get_new (List.mem_append_right _ List.mem_cons_self)) (fun h' hs ho => h h' ?_) (by rw [List.size_toArray]; exact hsz)
  rw [List.push_toArray] at ho
  exact C.upd hs.extBut ho
theorem size_nat (n : Nat) : Builtin.Range.rangeSize 0 (n : Int) 1 = ((n : Nat) : Int) := by
  unfold Builtin.Range.rangeSize
  rw [if_pos (by decide)]
  by_cases h : (0 : Int) < (n : Int)
  · rw [if_pos h]; (first | lia | omega)
  · rw [if_neg h]; (first | lia | omega)
theorem small_nat (n : Nat) (h : n ≤ 1000) : Builtin.Range.small 0 (n : Int) 1 = true := by
  unfold Builtin.Range.small
  rw [size_nat]
  have fits : ∀ z : Int, 0 ≤ z → z ≤ 2000 → Builtin.Range.rangeFitsLong z = true := fun z h0 h1 => by
    unfold Builtin.Range.rangeFitsLong
    exact Bool.and_eq_true_iff.mpr ⟨decide_eq_true (by (first | lia | omega)), decide_eq_true (by (first | lia | omega))⟩
  rw [fits 0 (by (first | lia | omega)) (by (first | lia | omega)), fits (n : Int) (by (first | lia | omega)) (by (first | lia | omega)), fits 1 (by (first | lia | omega)) (by (first | lia | omega)), if_pos (by decide), fits _ (by (first | lia | omega)) (by (first | lia | omega))]
  simp
theorem range_C {n : Nat} {t : Tok} {Q : Value → Shared → Prop} (hh : A.handled = none) (hn : n ≤ 1000)
    (h : ∀ xv s₁, (∃ h₁ tk₁, s₁ = { s with heap := h₁, toks := tk₁ } ∧ Ex s.heap h₁) → (∀ x px, wpAny (model prog w) A (pyIter xv) (Iter prog w A (.Name x px) n (fun i v _ => ∃ t, v = .int (i : Int) t) [] s₁) No s₁) → Q xv s₁) :
    wpAny (model prog w) A (call (.type "range") [.int (n : Int) t]) Q E s := by
  refine call_range_1 (h _ _ ⟨_, _, rfl, ex_push _ _⟩ fun x px => ?_)
  exact iter_range (t := s.toks) (u := t) (v := s.toks + 1) hh (push_live rfl) (small_nat n hn) (size_nat n)
end

end
-- part F14

section
/-- an object that is a list -/
def IsLO (o : Obj) (vs : List Value) : Prop := o.cls = .type "list" ∧ ∃ n, o.data = .seq vs.toArray n
theorem IsLO.list {o : Obj} {vs : List Value} (x : IsLO o vs) {h : Heap} {a : Addr} (e : h.get? a = some o) : h.IsList a vs.toArray := ⟨o, e, x⟩
section
variable {prog : Program} {w : World} {A : Around} {H₀ : Heap} {E : Value → Shared → Prop} {s : Shared}
variable {Base : Addr → Obj → Prop} {env : Env} {oc : List Str} {ps qs : List Addr} {m cm : Str → Option Value} {olds news : List (Addr × Obj)}
theorem setL_C {D : Addr} {o : Obj} {vs : List Value} {k : Nat} {t : Tok} {v : Value} {l₁ l₂ : List (Addr × Obj)} {Q : Unit → Shared → Prop} (C : Cx H₀ Base env oc ps qs m cm olds (l₁ ++ (D, o) :: l₂) s.heap) (i : IsLO o vs) (hk : k < vs.length) (hf : vs.length ≤ 1000000)
    (h : ∀ h' o', Cx H₀ Base env oc ps qs m cm olds (l₁ ++ (D, o') :: l₂) h' → IsLO o' (vs.set k v) → Q () { s with heap := h' }) : wpAny (model prog w) A (setItem (.ref D) (.int (k : Int) t) v) Q E s := by
  refine wpAny_setItem_list (i.list (C.get_new (List.mem_append_right _ List.mem_cons_self))) (Int.natCast_nonneg _) (by (first | lia | omega)) (by rw [List.size_toArray]; (first | lia | omega)) fun h' hl hs => ?_
  obtain ⟨o', e, hc, n, hd⟩ := hl
  refine h h' o' (C.upd hs.extBut e) ⟨hc, n, ?_⟩
  rw [hd, Int.toNat_natCast]
  congr 1
  simp
theorem sliceL_C {value slice : Expr} {l : Addr} {vs : List Value} {b : Nat} {ub : Tok} {Q : Value → Shared → Prop} (C : Cx H₀ Base env oc ps qs m cm olds news s.heap) (hl : s.heap.IsList l vs.toArray) (hf : vs.length ≤ 1000000)
    (h : ∀ D h', Fresh s.heap D → Ex s.heap h' → Cx H₀ Base env oc ps qs m cm ((D, { cls := .type "list", data := .seq (vs.take b).toArray }) :: olds) news h' → Q (.ref D) { s with heap := h' })
    (hs : subscripted slice false (.ref l) (.ref s.heap.objs.size) = operate [.ref s.heap.objs.size, .ref l] (getItem (.ref l) (.ref s.heap.objs.size))) (ht : ∀ r, letTemporaryGo value (.ref l) r = pure ()) :
    wpAny (model prog w) A (subscriptTail value slice (.ref l) (.ref s.heap.objs.size)) Q E { s with heap := s.heap.push { cls := .type "slice", data := .fields #[.none, .int (b : Int) ub, .none] } } := by
  refine slice_listK (lo := none) (hi := some (b : Int)) hl .none (.int _ _) ?_ hs ht (by rw [List.size_toArray]; show _ ≤ 16777216; (first | lia | omega))
  rw [slicePick_upto']
  have k1 : Ex s.heap (s.heap.push { cls := .type "slice", data := .fields #[.none, .int (b : Int) ub, .none] }) := ex_push _ _
  have hsz : (s.heap.push { cls := .type "slice", data := .fields #[.none, .int (b : Int) ub, .none] }).objs.size = s.heap.objs.size + 1 := Heap.size_push ..
  rw [← hsz]
  have C' := C.keeps k1
  refine h _ _ ((Fresh.size _).up k1) (k1.trans (ex_push _ _)) ?_
  exact C'.addOld (ex_push _ _) (next_none _) (push_live rfl)
theorem enum_C {l : Addr} {items : Array Value} (hh : A.handled = none) (hl : s.heap.IsList l items) {Q : Value → Shared → Prop}
    (hQ : ∀ x s₁, s.toks ≤ s₁.toks → (∀ elts kk pos, wpAny (model prog w) A (pyIter x) (Iter prog w A (.Tuple elts kk pos) items.size (fun i x h => ∃ T t y, x = .ref T ∧ items[i]? = some y ∧ h.IsTuple T #[.int (i : Int) t, y]) [l] s) No s₁) → Q x s₁) :
    wpAny (model prog w) A (call (.type "enumerate") [.ref l]) Q E s := by
  obtain ⟨ol, hol, _⟩ := id hl
  have hlt : l < s.heap.objs.size := Heap.lt_size hol
  refine call_enumerate_list hl fun h' hE hI hsz hk => hQ _ _ (Nat.le_refl _) fun elts kk pos => ?_
  refine wpAny_pyIter_enum hE ?_
  have W := KTurns.ofWalksU (elts := elts) (k := kk) (pos := pos) (WalksT.enumerate (prog := prog) (w := w) hh (s.heap.objs.size + 1) s.heap.objs.size l (Nat.succ_ne_self _) (Nat.ne_of_lt (Nat.lt_succ_of_lt hlt)) (Nat.ne_of_lt hlt) items).toU
  refine ⟨s.heap.objs.size + 1, [s.heap.objs.size + 1, s.heap.objs.size], _, _, h', s.toks, rfl, rfl,
    ⟨{ sub := W.sub, frame := W.frame, item := W.item, go := fun i v s Q E hm hQ => W.go i v s Q E hm fun h' hP => hQ h' ?_, done := W.done }, ?_, ⟨⟨_, hE⟩, hI, hl.at fun o e => hk _ _ e⟩, fun s Q E st q => ?_⟩, hk, ?_⟩
  · obtain ⟨T, vals, rfl, ⟨t, x, hx, rfl⟩, hT⟩ := hP
    exact ⟨T, t, x, rfl, hx, hT⟩
  · rintro i h ⟨⟨old, e1⟩, ⟨o2, e2, _⟩, ⟨o3, e3, _⟩⟩ b hb
    have hb' : b = s.heap.objs.size + 1 ∨ b = s.heap.objs.size ∨ b = l := by simpa using hb
    rcases hb' with e | e | e
    · exact ⟨_, e.symm ▸ e1⟩
    · exact ⟨o2, e.symm ▸ e2⟩
    · exact ⟨o3, e.symm ▸ e3⟩
  · obtain ⟨⟨old, e1⟩, _⟩ := st
    exact wpAny_pyIter_enum e1 q
  · intro b hb
    have hb' : b = s.heap.objs.size + 1 ∨ b = s.heap.objs.size := by simpa using hb
    rcases hb' with e | e
    · rw [e]
      cases q : s.heap.get? (s.heap.objs.size + 1) with
      | none => rfl
      | some o => exact absurd (Heap.lt_size q) (Nat.not_lt.mpr (Nat.le_succ _))
    · rw [e]; exact next_none _
end

end
-- part F15

section

/-- all that lies in a heap but one object -/
def live (h : Heap) (L : Addr) : List (Addr × Obj) := (List.range h.objs.size).filterMap fun b => if b = L then none else (h.get? b).map fun o => (b, o)
theorem mem_live {h : Heap} {L b : Addr} {o : Obj} : (b, o) ∈ live h L ↔ b ≠ L ∧ h.get? b = some o := by
  unfold live
  rw [List.mem_filterMap]
  constructor
  · rintro ⟨a, _, e⟩
    by_cases ha : a = L
    · rw [if_pos ha] at e; cases e
    · rw [if_neg ha] at e
      cases q : h.get? a with
      | none => rw [q] at e; cases e
      | some o' =>
        rw [q] at e
        obtain ⟨rfl, rfl⟩ := Prod.mk.inj (Option.some.inj e)
        exact ⟨ha, q⟩
  · rintro ⟨hb, e⟩
    exact ⟨b, List.mem_range.mpr (Heap.lt_size e), by rw [if_neg hb, e]; rfl⟩
section
variable {prog : Program} {w : World} {A : Around} {H₀ : Heap} {E : Value → Shared → Prop} {s : Shared}
variable {Base : Addr → Obj → Prop} {env : Env} {oc : List Str} {ps qs : List Addr} {m cm : Str → Option Value} {olds news : List (Addr × Obj)}
theorem Cx.fr {h : Heap} (C : Cx H₀ Base env oc ps qs m cm olds news h) : Fr {} env.locals h m := ⟨C.ns, fun b o e => (by simp [Heap.get?] at e), Nat.zero_le _⟩
theorem live_news (h : Heap) (L : Addr) : News {} L h (live h L) := fun p hp => by
  obtain ⟨h1, h2⟩ := mem_live.mp (show (p.1, p.2) ∈ live h L from hp)
  exact ⟨h2, h1, by simp [Heap.get?]⟩
theorem Cx.back {h h' : Heap} (C : Cx H₀ Base env oc ps qs m cm olds news h) (F : Fr {} env.locals h' m) (k : ∀ b o, b ≠ env.locals → h.get? b = some o → h'.get? b = some o) : Cx H₀ Base env oc ps qs m cm olds news h' where
  top := C.top
  ns := F.ns
  base := fun b o e => k b o (fun q => C.baseL o (q ▸ e)) (C.base b o e)
  baseL := C.baseL
  cell := fun n c e => IsCell_at (C.cell n c e) fun o x => k c o (C.cellL n c e) x
  cellL := C.cellL
  apart := C.apart
  ownc := C.ownc
  old := fun p hp => let x := C.old p hp; ⟨k _ _ x.2.1 x.1, x.2⟩
  new := fun p hp => let x := C.new p hp; ⟨k _ _ x.2.1 x.1, x.2⟩
  sep := C.sep
  nodup := C.nodup
  psLive := fun b hb => let x := C.psLive b hb; ⟨let ⟨o, e⟩ := x.1; ⟨o, k b o x.2.1 e⟩, x.2⟩
  qsPs := C.qsPs
theorem live_keep {h h' : Heap} {L : Addr} {more : List (Addr × Obj)} (N : News {} L h' (more ++ live h L)) : ∀ b o, b ≠ L → h.get? b = some o → h'.get? b = some o := fun b o hb e => (N _ (List.mem_append_right _ (mem_live.mpr ⟨hb, e⟩))).1
/-- what was added -/
theorem Cx.grow {h h' : Heap} {D : Addr} {o : Obj} (C : Cx H₀ Base env oc ps qs m cm olds news h) (C' : Cx H₀ Base env oc ps qs m cm olds news h') (hD : D ≠ env.locals) (hn : h.get? D = none) (ho : h'.get? D = some o) :
    Cx H₀ Base env oc ps qs m cm ((D, o) :: olds) news h' := by
  refine { C' with old := ?_, sep := ?_ }
  · intro p hp
    rcases List.mem_cons.mp hp with rfl | hp
    · exact ⟨ho, hD, fun n c _ e q => (let ⟨o', e', _⟩ := C.cell n c e; by rw [← (show D = c from q), hn] at e'; cases e'), fun hq => (let ⟨⟨o', e'⟩, _⟩ := C.psLive _ (C.qsPs _ hq); by rw [hn] at e'; cases e')⟩
    · exact C'.old p hp
  · intro p hp q hq
    rcases List.mem_cons.mp hp with rfl | hp
    · intro e
      have := (C.new q hq).1
      rw [← (show D = q.1 from e), hn] at this; cases this
    · exact C'.sep p hp q hq

/-- sorted, texts -/
theorem sortS_C {l : Addr} {vs : List Value} {ss : List Str} {Q : Value → Shared → Prop} (C : Cx H₀ Base env oc ps qs m cm olds news s.heap) (hl : s.heap.IsList l vs.toArray) (hs : StrsAre vs ss) (h64 : vs.length < 64)
    (h : ∀ D h' vs' ss' c, Cx H₀ Base env oc ps qs m cm ((D, { cls := .type "list", data := .seq (List.toArray vs') c }) :: olds) news h' → StrsAre vs' ss' → ss'.Perm ss → sortedS ss' = true → Q (.ref D) { s with heap := h' }) :
    wpAny (model prog w) A (call (.builtin "sorted") [.ref l]) Q E s := by
  refine sorted_N_str C.fr (live_news s.heap env.locals) hl hs h64 fun h' vs' ss' e F' N' h1 h2 h3 => ?_
  have hx := N' _ List.mem_cons_self
  have k := live_keep (more := [_]) N'
  have hn : s.heap.get? (s.heap.objs.size + 1) = none := by
    cases q : s.heap.get? (s.heap.objs.size + 1) with
    | none => rfl
    | some o => exact absurd (Heap.lt_size q) (Nat.not_lt.mpr (Nat.le_succ _))
  exact h _ h' vs' ss' e (C.grow (C.back F' k) hx.2.1 hn hx.1) h1 h2 h3

/-- pairs of whole numbers -/
inductive marksIn (olds : List (Addr × Obj)) : List Value → List (Int × Int) → Prop
  | nil : marksIn olds [] []
  | cons (T : Addr) (a b : Int) (t u : Tok) {vs ms} : (T, tup [.int a t, .int b u]) ∈ olds → marksIn olds vs ms → marksIn olds (.ref T :: vs) ((a, b) :: ms)
theorem marksIn.mono {o o' : List (Addr × Obj)} (k : ∀ p ∈ o, p ∈ o') {vs ms} (h : marksIn o vs ms) : marksIn o' vs ms := by
  induction h with
  | nil => exact .nil
  | cons T a b t u hm _ ih => exact .cons T a b t u (k _ hm) ih
theorem marksIn.length {o : List (Addr × Obj)} {vs ms} (h : marksIn o vs ms) : vs.length = ms.length := by induction h <;> simp_all
theorem marksIn.at {o : List (Addr × Obj)} {vs ms} (h : marksIn o vs ms) : ∀ {i : Nat} {v : Value}, vs[i]? = some v → ∃ T a b t u, v = .ref T ∧ (T, tup [.int a t, .int b u]) ∈ o ∧ ms[i]? = some (a, b) := by
  induction h with
  | nil => intro i v e; simp at e
  | cons T a b t u hm _ ih =>
    intro i v e
    cases i with
    | zero => exact ⟨T, a, b, t, u, (Option.some.inj e).symm, hm, rfl⟩
    | succ i => exact ih e
theorem marksIn.snoc {o : List (Addr × Obj)} {vs ms} (h : marksIn o vs ms) {T : Addr} {a b : Int} {t u : Tok} (hm : (T, tup [.int a t, .int b u]) ∈ o) : marksIn o (vs ++ [.ref T]) (ms ++ [(a, b)]) := by
  induction h with
  | nil => exact .cons T a b t u hm .nil
  | cons T' a' b' t' u' hm' _ ih => exact .cons T' a' b' t' u' hm' ih
def lexlt (x y : Int × Int) : Bool := if x.1 = y.1 then decide (x.2 < y.2) else decide (x.1 < y.1)
def markLt (ms : List (Int × Int)) (i j : Nat) : Bool := lexlt (ms.getD i (0, 0)) (ms.getD j (0, 0))
theorem markOrd {ms : List (Int × Int)} (hd : ∀ i j, i < ms.length → j < ms.length → ms.getD i (0, 0) = ms.getD j (0, 0) → i = j) : Ord (markLt ms) ms.length where
  trans := fun i j k h1 h2 => by
    unfold markLt lexlt at *
    generalize ms.getD i (0, 0) = x at *
    generalize ms.getD j (0, 0) = y at *
    generalize ms.getD k (0, 0) = z at *
    split at h1 <;> split at h2 <;> split <;> simp at * <;> (first | lia | omega)
  tot := fun i j hi hj hne h => by
    have hne' : ms.getD i (0, 0) ≠ ms.getD j (0, 0) := fun e => hne (hd i j hi hj e)
    unfold markLt lexlt at *
    generalize ms.getD i (0, 0) = x at *
    generalize ms.getD j (0, 0) = y at *
    obtain ⟨x1, x2⟩ := x
    obtain ⟨y1, y2⟩ := y
    simp only [ne_eq, Prod.mk.injEq, not_and] at hne'
    dsimp only at *
    split at h <;> split <;> simp at * <;> (first | lia | omega)
  irr := fun i => by unfold markLt lexlt; simp

theorem kat_kind_ints {o : List (Addr × Obj)} {h : Heap} : ∀ {vs : List Value} {ms : List (Int × Int)}, marksIn o vs ms → (∀ p ∈ o, h.get? p.1 = some p.2) → ∃ fs, KatTups h vs fs ∧ fs.length = ms.length ∧ ∀ v ∈ fs, ∃ a t, v = .int a t
  | _, _, .nil, _ => ⟨[], .nil, rfl, fun v hv => (nomatch hv)⟩
  | _, _, .cons T a b t u hm r, k => by
    obtain ⟨fs, h1, h2, h3⟩ := kat_kind_ints r k
    refine ⟨.int a t :: fs, .cons (k _ hm) rfl rfl rfl h1, by simp [h2], fun v hv => ?_⟩
    rcases List.mem_cons.mp hv with rfl | hv
    · exact ⟨a, t, rfl⟩
    · exact h3 v hv
theorem sortT_C {l : Addr} {n₀ : Nat} {vs : List Value} {ms : List (Int × Int)} {Q : Value → Shared → Prop} (C : Cx H₀ Base env oc ps qs m cm olds news s.heap) (hl : (l, ({ cls := .type "list", data := .seq vs.toArray n₀ } : Obj)) ∈ olds) (hm : marksIn olds vs ms) (h2 : 2 ≤ vs.length) (h64 : vs.length < 64)
    (hd : ∀ i j, i < ms.length → j < ms.length → ms.getD i (0, 0) = ms.getD j (0, 0) → i = j)
    (h : ∀ D h' q c, Arr ms.length q → Up (markLt ms) q ms.length → Cx H₀ Base env oc ps qs m cm ((D, { cls := .type "list", data := .seq (List.toArray (q.toList.map fun i => vs.getD i Value.none)) c }) :: olds) news h' → Q (.ref D) { s with heap := h' }) :
    wpAny (model prog w) A (call (.builtin "sorted") [.ref l]) Q E s := by
  have hlen := hm.length
  refine kat_sorted C.fr (live_news s.heap env.locals) ⟨_, C.get_old hl, rfl, _, rfl⟩ h2 h64 fun D e1 h' F' N' hlt => ?_
  have hD := N' _ List.mem_cons_self
  have k := live_keep (more := [_]) N'
  have C' := C.back F' k
  have hDn : s.heap.get? D = none := by
    cases q : s.heap.get? D with
    | none => rfl
    | some o => exact absurd (hlt _ (mem_live.mpr ⟨hD.2.1, q⟩)) (Nat.lt_irrefl _)
  have hk : ∀ p ∈ olds, h'.get? p.1 = some p.2 := fun p hp => C'.get_old hp
  obtain ⟨fs, t1, t2, t3⟩ := kat_kind_ints hm hk
  refine kat_kind (T := .type "int") t1 (by rw [t2, ← hlen]; (first | lia | omega)) (fun v hv => by obtain ⟨a, t, rfl⟩ := t3 v hv; exact .of_pure rfl) rfl ?_
  rw [hlen]
  refine holds_wp (lt := markLt ms) (n := ms.length) (G := fun s' => s' = { s with heap := h' }) (fun i j Cc s' g hi hj hC => ?_) (fun q s' g hq => ?_) rfl (sort_holds (markOrd hd) (by (first | lia | omega)))
  · subst g
    show wpAny _ _ (keyLt' _ (vs.getD i Value.none) (vs.getD j Value.none)) _ _ _
    obtain ⟨T₁, a₁, b₁, t₁, u₁, e₁, m₁, g₁⟩ := hm.at (List.getElem?_eq_getElem (by (first | lia | omega) : i < vs.length))
    obtain ⟨T₂, a₂, b₂, t₂, u₂, e₂, m₂, g₂⟩ := hm.at (List.getElem?_eq_getElem (by (first | lia | omega) : j < vs.length))
    have x₁ : vs.getD i Value.none = .ref T₁ := by rw [List.getD_eq_getElem?_getD, List.getElem?_eq_getElem (by (first | lia | omega) : i < vs.length), e₁]; rfl
    have x₂ : vs.getD j Value.none = .ref T₂ := by rw [List.getD_eq_getElem?_getD, List.getElem?_eq_getElem (by (first | lia | omega) : j < vs.length), e₂]; rfl
    have y₁ : ms.getD i (0, 0) = (a₁, b₁) := by rw [List.getD_eq_getElem?_getD, g₁]; rfl
    have y₂ : ms.getD j (0, 0) = (a₂, b₂) := by rw [List.getD_eq_getElem?_getD, g₂]; rfl
    rw [x₁, x₂]
    have hC' := hC _ rfl
    unfold markLt lexlt at hC'
    rw [y₁, y₂] at hC'
    refine kat_lt (hk _ m₁) rfl (hk _ m₂) rfl ?_
    refine kat_cons (wpAny_eqBool_int ?_)
    by_cases ha : a₁ = a₂
    · rw [if_pos ha] at hC'
      rw [show (a₁ == a₂) = true by simpa using ha]
      refine kat_yes (kat_cons (wpAny_eqBool_int ?_))
      by_cases hb : b₁ = b₂
      · rw [show (b₁ == b₂) = true by simpa using hb]
        refine kat_yes (kat_nil ?_)
        rw [hb, show decide (b₂ < b₂) = false by simp] at hC'
        exact hC'
      · rw [show (b₁ == b₂) = false by simpa using hb]
        refine kat_no ?_
        refine kat_one _ _ (lt_int ?_)
        exact hC'
    · rw [if_neg ha] at hC'
      rw [show (a₁ == a₂) = false by simpa using ha]
      refine kat_no ?_
      exact oneLt_int hC'
  · subst g
    refine KasFin.intro F' N' (.head fun p hp => Nat.ne_of_lt (hlt p hp)) fun h'' c F'' N'' => ?_
    have hD'' := N'' _ List.mem_cons_self
    have k'' := live_keep (more := [_]) N''
    exact h D h'' q c hq.1 hq.2 (C.grow (C.back F'' k'') hD''.2.1 hDn hD''.1)
/-- list.sort of one -/
theorem sort_one {a : Addr} {v : Value} {n₀ : Nat} {P : Fin → Shared → Prop} (ho : s.heap.get? a = some (seqObj "list" #[v] n₀)) (h : P (.done (.ret .none)) { s with heap := sortedHeap s.heap a [v] #[v] }) :
    wpAny (model prog w) A (Builtin.«list.sort» ⟨[.ref a], []⟩) P E s := by
  rw [list_sort_plain]
  have ha : a < s.heap.objs.size := Heap.lt_size ho
  refine wpAny_bind (listItems_at ho rfl (wpAny_bind (listUpdate_at ho rfl ?_)))
  obtain ⟨e1, ho1⟩ : ∃ e1, (s.heap.update a (Obj.mapSeq fun _ => #[])).get? a = some (seqObj "list" #[] e1) := ⟨_, get?_update_seq ho (fun _ => #[])⟩
  refine wpAny_bind (seqEpoch_at ho1 rfl (wpAny_bind (wpAny_newTuple (wpAny_bind (wpAny_newList (wpAny_holding ?_))))))
  have ho6 : (((s.heap.update a (Obj.mapSeq fun _ => #[])).push (seqObj "tuple" #[v] 0)).push (seqObj "list" #[] 0)).get? a = some (seqObj "list" #[] e1) := by
    rw [Heap.get?_push_ne _ _ _ (by rw [size_push', Heap.size_update]; exact Nat.ne_of_lt (Nat.lt_succ_of_lt ha)), Heap.get?_push_ne _ _ _ (by rw [Heap.size_update]; exact Nat.ne_of_lt ha)]
    exact ho1
  show wpAny (model prog w) A _ P E { s with heap := ((s.heap.update a (Obj.mapSeq fun _ => #[])).push (seqObj "tuple" #[v] 0)).push (seqObj "list" #[] 0) }
  dsimp only
  have h12 : (#[v] : Array Value).size < 2 := (by decide : (1 : Nat) < 2)
  rw [if_pos h12, if_pos h12]
  refine wpAny_bind (wpAny_pure ?_)
  rw [StateT.run_pure]
  refine wpAny_bind (wpAny_pure ?_)
  dsimp only
  have hone : Array.map (fun x : Keyed => x.2) (arrOf (SortSt.mk' general' (#[v].zip #[v]) #[] 7 none)) = #[v] := by
    show Array.map (fun x : Keyed => x.2) (#[v].zip #[v]) = #[v]
    simp
  rw [hone]
  refine wpAny_bind (seqEpoch_at ho6 rfl (wpAny_bind (listUpdate_at ho6 rfl ?_ (hsz2 := by show 1 ≤ 16777217; decide))))
  simp only [bne_self_eq_false, Bool.false_eq_true, if_false]
  exact wpAny_pure h
theorem sort1_C {l : Addr} {v : Value} {Q : Value → Shared → Prop} (C : Cx H₀ Base env oc ps qs m cm olds news s.heap) (hl : s.heap.IsList l #[v])
    (h : ∀ D h' c, Cx H₀ Base env oc ps qs m cm ((D, { cls := .type "list", data := .seq #[v] c }) :: olds) news h' → Q (.ref D) { s with heap := h' }) :
    wpAny (model prog w) A (call (.builtin "sorted") [.ref l]) Q E s := by
  refine Calls.call_function_entry kind_sorted plain_sorted entry_sorted (args_sorted1 _) ?_
  unfold Builtin.«sorted»
  refine wpAny_bind (m := checkCount "sorted" 1 1 _) (wpAny_pure ?_)
  refine wpAny_bind (collect_list hl ?_ (by show 1 ≤ 16777216; decide))
  refine wpAny_bind (wpAny_newList ?_ (by show 1 ≤ 16777216; decide))
  have hsz : ((s.heap.push (seqObj "list" #[] 0)).update s.heap.objs.size (Obj.mapSeq (· ++ #[v]))).objs.size = s.heap.objs.size + 1 := by
    rw [Heap.size_update, size_push']
  have hoL : (((s.heap.push (seqObj "list" #[] 0)).update s.heap.objs.size (Obj.mapSeq (· ++ #[v]))).push (seqObj "list" #[v] 0)).get? (s.heap.objs.size + 1) = some (seqObj "list" #[v] 0) := by
    rw [← hsz]; exact Heap.get?_push_size _ rfl
  show wpAny _ _ _ _ _ { s with heap := ((s.heap.push (seqObj "list" #[] 0)).update s.heap.objs.size (Obj.mapSeq (· ++ #[v]))).push (seqObj "list" #[v] 0) }
  rw [hsz]
  refine wpAny_bind (wpAny_holding (wpAny_call_entry slot_list_sort ⟨_, hoL, rfl⟩ entry_list_sort (sort_one hoL ⟨_, rfl, ?_⟩) (args_list_sort _)))
  obtain ⟨e, he⟩ := sortedAll_at s.heap [v] #[v]
  have hn : s.heap.get? (s.heap.objs.size + 1) = none := by
    cases q : s.heap.get? (s.heap.objs.size + 1) with
    | none => rfl
    | some o => exact absurd (Heap.lt_size q) (Nat.not_lt.mpr (Nat.le_succ _))
  exact wpAny_pure ⟨_, rfl, h _ (sortedAll s.heap [v] #[v]) e (C.addOld (fun b o e => sortedAll_old e) hn he)⟩
theorem sortM_C {l : Addr} {n₀ : Nat} {vs : List Value} {ms : List (Int × Int)} {Q : Value → Shared → Prop} (C : Cx H₀ Base env oc ps qs m cm olds news s.heap) (hl : (l, ({ cls := .type "list", data := .seq vs.toArray n₀ } : Obj)) ∈ olds) (hm : marksIn olds vs ms) (h1 : 1 ≤ vs.length) (h64 : vs.length < 64)
    (hd : ∀ i j, i < ms.length → j < ms.length → ms.getD i (0, 0) = ms.getD j (0, 0) → i = j)
    (h : ∀ D h' q c, Arr ms.length q → Up (markLt ms) q ms.length → Cx H₀ Base env oc ps qs m cm ((D, { cls := .type "list", data := .seq (List.toArray (q.toList.map fun i => vs.getD i Value.none)) c }) :: olds) news h' → Q (.ref D) { s with heap := h' }) :
    wpAny (model prog w) A (call (.builtin "sorted") [.ref l]) Q E s := by
  by_cases h2 : 2 ≤ vs.length
  · exact sortT_C C hl hm h2 h64 hd h
  · have hlen := hm.length
    obtain ⟨v, rfl⟩ : ∃ v, vs = [v] := by
      match vs, h1, h2 with
      | [v], _, _ => exact ⟨v, rfl⟩
      | _ :: _ :: _, _, h2 => exact absurd (by simp) h2
    have hm1 : ms.length = 1 := hlen.symm
    refine sort1_C C ⟨_, C.get_old hl, rfl, _, rfl⟩ fun D h' c C' => h D h' #[0] c ?_ ?_ C'
    · rw [hm1]
      exact ⟨rfl, fun i hi => by have : i = 0 := by (first | lia | omega)
                                 subst this; exact Nat.zero_lt_one, fun i j hi hj _ => by (first | lia | omega)⟩
    · intro i j hij hj; (first | lia | omega)
end

end
-- part G8

section
variable {prog : Program} {w : World} {A : Around} {H₀ : Heap} {mg mb : Str → Option Value} {fa : Nat → Addr} {E : Value → Shared → Prop} {s : Shared}
def lpairs (W : List Nat) : List (List Nat) :=
  ((([[290], [34], [353], [97]] : List (List Nat)).filter fun z => W.contains (z.headD 0)).filter fun z => decide (256 ≤ z.headD 0)).flatMap fun a =>
    ((([[290], [34], [353], [97]] : List (List Nat)).filter fun z => W.contains (z.headD 0)).filter fun z => decide (z.headD 0 < 256)).map fun b => a ++ b
theorem lpairs_mem {W z : List Nat} (h : z ∈ lpairs W) : ∃ a b, z = [a, b] ∧ (a = 290 ∨ a = 353) ∧ (b = 34 ∨ b = 97) ∧ a ∈ W ∧ b ∈ W := by
  unfold lpairs at h
  obtain ⟨x, hx, h⟩ := List.mem_flatMap.mp h
  obtain ⟨y, hy, rfl⟩ := List.mem_map.mp h
  obtain ⟨hx1, hx2⟩ := List.mem_filter.mp hx
  obtain ⟨hx3, hx4⟩ := List.mem_filter.mp hx1
  obtain ⟨hy1, hy2⟩ := List.mem_filter.mp hy
  obtain ⟨hy3, hy4⟩ := List.mem_filter.mp hy1
  simp only [List.mem_cons, List.not_mem_nil, or_false] at hx3 hy3
  rcases hx3 with rfl | rfl | rfl | rfl <;> rcases hy3 with rfl | rfl | rfl | rfl <;> first | (exact ⟨_, _, rfl, by decide, by decide, by simpa using hx4, by simpa using hy4⟩) | (simp at hx2 hy2)
theorem lpairs_four {W z : List Nat} (h : z ∈ lpairs W) : z ∈ [[290, 34], [290, 97], [353, 34], [353, 97]] := by
  obtain ⟨a, b, rfl, ha, hb, _, _⟩ := lpairs_mem h
  rcases ha with rfl | rfl <;> rcases hb with rfl | rfl <;> decide
theorem lpairs_len (W : List Nat) : (lpairs W).length ≤ 100000 := by
  unfold lpairs
  rw [List.length_flatMap]
  simp only [List.length_map]
  rw [List.map_const', List.sum_replicate_nat]
  have f : ∀ p q : List Nat → Bool, (List.filter q (List.filter p [[290], [34], [353], [97]])).length ≤ 4 := fun p q => Nat.le_trans (List.length_filter_le _ _) (Nat.le_trans (List.length_filter_le _ _) (by decide))
  exact Nat.le_trans (Nat.mul_le_mul (f _ _) (f _ _)) (by decide)
def moreOf (q h c : Int) (a b : Nat) (u v : List Nat) : WD := if (a : Int) - 256 = (b : Int) then gput [(u ++ [b, a] ++ v, q * c)] (u ++ v) (h * c) else [(u ++ [b, a] ++ v, q * c)]
theorem reply_specW (S : Stat mg mb fa H₀) (R : Room 1 A) (hs : Ex H₀ s.heap) {z : List Nat} {t : Tok} (hx : z.length ≤ 1000)
    {Q : Value → Shared → Prop} (hQ : ∀ h' tk' t', Ex s.heap h' → Q (.str (reply z) t') { s with heap := h', toks := tk' }) :
    wpAny (model prog w) A (call (.ref (fa 17)) [.str (tx z) t]) Q E s := by
  have h3 : Str.ofString "\"" = tx [34] := by decide
  have h4 : Str.ofString "\"\"" = tx [34, 34] := by decide
  refine reply_spec S R hs (by rw [tx_len]; exact hx) (by rw [h3, h4, replace_tx, tx_len, tx_len]; exact dbl_len 34 z) fun h' tk' t' k => ?_
  rw [reply_rep]; exact hQ h' tk' t' k

def whileStmt : Stmt := (dBody (stmtAt 18)).getD 6 (.Pass default)
abbrev env18 (fa : Nat → Addr) (L : Addr) (cd : Value) : Env := envOfC (dName (stmtAt 18)) (dScope (stmtAt 18)) L (fa 18) cd
abbrev oc18 : List Str := ["word", "early", "waiting", "first", "term"]
theorem gm_judge {K : Frag} {C f g : Addr} {H : Heap} (J : Judge K C f g H) {j : Addr} {bs bt : Int} {pl : Sem Bool} {Q : Value × List Value → Shared → Prop} (X : K.In s.heap) (hj : JudgeAt C s.heap j bs bt) (h : Q (.ref f, [.ref j]) s) :
    wpAny (model prog w) A (getMethod (.ref j) "compare" pl) Q E s := by
  obtain ⟨ox, es, n, l, T₀, T₁, t₀, t₁, t₂, t₃, hI, hg1, hg2, hl, hT₀, hT₁⟩ := hj
  exact method_fn X hI (plainGet_of J.pg).1 (plainGet_of J.pg).2 J.fc (beq_iff_eq.mp J.tf) (by show (lookIn "compare" (dictOf es n)).map _ = _; rw [lookIn_dict, hg2]; rfl) h

theorem cutQ {α : Type} {M : Model} {A : Around} {t : Sem α} {Q : α → Shared → Prop} {E : Value → Shared → Prop} {s : Shared} (h : ∀ Q' : α → Shared → Prop, (∀ v s', Q v s' → Q' v s') → wpAny M A t Q' E s) : wpAny M A t Q E s := h Q fun _ _ q => q
abbrev SWInv (prog : Program) (w : World) (H₀ : Heap) (Base : Addr → Obj → Prop) (fa : Nat → Addr) (L : Addr) (cd : Value) (I : WD → WD → Nat → Prop) (pa : Addr) (ys : List Value) (q h pick : Int) (j : Addr) (u₂ u₃ u₅ : Tok) (G : Addr → Prop) (s : Shared) (n : Nat) (s' : Shared) : Prop :=
  ∃ h' tk m cm olds D B wa wo sa so, s' = { s with heap := h', toks := tk } ∧ Cx H₀ Base (env18 fa L cd) oc18 [] [] m cm olds [] h' ∧ I D B n ∧ (wa, wo) ∈ olds ∧ (sa, so) ∈ olds ∧ (pa, lst ys) ∈ olds ∧ IsD prog w wo (encD reply D) ∧ IsD prog w so (encD reply B) ∧
    (wa == sysModules) = false ∧ (sa == sysModules) = false ∧ m "q" = some (.int q u₂) ∧ m "h" = some (.int h u₃) ∧ m "judge" = some (.ref j) ∧ m "pick" = some (.int pick u₅) ∧ m "pairs" = some (.ref pa) ∧ m "settled" = some (.ref sa) ∧ cm "waiting" = some (.ref wa) ∧ G sa
abbrev SFInv (wa : Addr) (wo : Obj) (sa : Addr) (so : Obj) (pa : Addr) (ys : List Value) (q h pick : Int) (j : Addr) (u₂ u₃ u₅ : Tok) (D : WD) (i : Nat) (m' cm' : Str → Option Value) (olds' news' : List (Addr × Obj)) : Prop :=
  news' = [] ∧ (wa, wo) ∈ olds' ∧ (sa, so) ∈ olds' ∧ (pa, lst ys) ∈ olds' ∧ m' "q" = some (.int q u₂) ∧ m' "h" = some (.int h u₃) ∧ m' "judge" = some (.ref j) ∧ m' "pick" = some (.int pick u₅) ∧ m' "pairs" = some (.ref pa) ∧ m' "settled" = some (.ref sa) ∧ cm' "waiting" = some (.ref wa) ∧
      ∃ z t, cm' "first" = some (.str z t) ∧ (i = 0 → z = Str.ofString "") ∧ (0 < i → ∃ x ∈ D, z = reply x.1)
set_option maxHeartbeats 8000000 in
theorem settled_loop {K : Frag} {C f g : Addr} (S : Stat mg mb fa H₀) (J : Judge K C f g H₀) (R : Room 1 A) {j : Addr} {bs bt q h pick : Int} {W : List Nat}
    {I : WD → WD → Nat → Prop}
    (hb : ∀ D B n, I D B n → D.length ≤ 1000 ∧ B.length ≤ 1000 ∧ (∀ x ∈ D, x.1.length ≤ 5))
    (hqi : ∀ c, IntMulOk q c) (hhi : ∀ c, IntMulOk h c)
    (hstep : ∀ D B n t c, I D B n → (t, c) ∈ D →
      ((∀ p ∈ lpairs W, has t p = false) → ∃ m, m < n ∧ I (D.filter fun x => decide (x.1 ≠ t)) (gmerge B [(t, c)]) m) ∧
      (∀ a b u v, [a, b] ∈ lpairs W → t = u ++ [a, b] ++ v → ∃ m, m < n ∧ I (gmerge (D.filter fun x => decide (x.1 ≠ t)) (moreOf q h c a b u v)) B m))
    {L : Addr} {cd : Value} {Base : Addr → Obj → Prop} {m₀ cm₀ : Str → Option Value} {olds₀ : List (Addr × Obj)} {D₀ B₀ : WD} {n₀ : Nat} {wa sa pa : Addr} {wo so : Obj} {ys : List Value} {u₂ u₃ u₅ : Tok}
    (C₀ : Cx H₀ Base (env18 fa L cd) oc18 [] [] m₀ cm₀ olds₀ [] s.heap) (hI : I D₀ B₀ n₀)
    (hwa : (wa, wo) ∈ olds₀) (hsa : (sa, so) ∈ olds₀) (hpa : (pa, lst ys) ∈ olds₀) (iw : IsD prog w wo (encD reply D₀)) (is : IsD prog w so (encD reply B₀)) (lw : (wa == sysModules) = false) (ls : (sa == sysModules) = false) (hys : strsAre ys (lpairs W))
    (hmq : m₀ "q" = some (.int q u₂)) (hmh : m₀ "h" = some (.int h u₃)) (hmj : m₀ "judge" = some (.ref j)) (hmp : m₀ "pick" = some (.int pick u₅)) (hmps : m₀ "pairs" = some (.ref pa)) (hms : m₀ "settled" = some (.ref sa)) (hcw : cm₀ "waiting" = some (.ref wa))
    (hj : ∀ h', (∀ b o, Base b o → h'.get? b = some o) → JudgeAt C h' j bs bt)
    {G : Addr → Prop} (hG : ∀ h' r, (∀ b o, Base b o → h'.get? b = some o) → Fresh h' r → G r) (gsa : G sa)
    {Q : Flow → Shared → Prop} (hQ : ∀ h' tk' m' cm' olds' sa' so' B n, Cx H₀ Base (env18 fa L cd) oc18 [] [] m' cm' olds' [] h' → (sa', so') ∈ olds' → IsD prog w so' (encD reply B) → I [] B n → m' "settled" = some (.ref sa') → G sa' → Q .next { s with heap := h', toks := tk' }) :
    wpAny (model prog w) A (exec whileStmt (env18 fa L cd)) Q No s := by
  conv in exec whileStmt _ => (arg 1; whnf)
  refine While_C (SWInv prog w H₀ Base fa L cd I pa ys q h pick j u₂ u₃ u₅ G s) ?_
    ⟨_, _, _, _, _, _, _, _, _, _, _, rfl, C₀, hI, hwa, hsa, hpa, iw, is, lw, ls, hmq, hmh, hmj, hmp, hmps, hms, hcw, gsa⟩
  clear gsa hmq hmh hmj hmp hmps hms hcw lw ls iw is hwa hsa hpa hI C₀
  rintro n s' ⟨h₁, tk, m, cm, olds, D, B, wa, wo, sa, so, rfl, C₁, hI, hwa, hsa, hpa, iw, is, lw, ls, hmq, hmh, hmj, hmp, hmps, hms, hcw, gsa⟩
  obtain ⟨hb1, hb2, hb3⟩ := hb D B n hI
  repeat walk_at "ev"
  refine Dict0_C C₁ fun e eo h₂ fr₂ k₂ C₂ i₂ => ?_
  have le : (e == sysModules) = false := fr₂.sys (S.main C₁.hTop)
  refine neD (C₂.get_old (by walk_at "mem")) (C₂.get_new (by walk_at "mem")) iw i₂ lw le R.lt ?_
  have C₂' : Cx H₀ Base (env18 fa L cd) oc18 [] [] m cm olds [] h₂ := C₂.sub (fun _ hp => hp) (List.nil_sublist _)
  clear C₂ C₁ k₂ fr₂ i₂ le
  refine wpAny_truthy_bool ?_
  cases hD : D with
  | nil =>
    refine iteF rfl ?_
    subst hD
    exact hQ _ _ _ _ _ _ _ _ _ C₂' hsa is hI hms gsa
  | cons x₀ D' =>
    refine iteT rfl ?_
    have hne : 0 < D.length := by rw [hD]; exact Nat.succ_pos _
    clear hD
    dsimp only
    refine cutQ fun Q₁ hQ₁ => ?_
    repeat walk_at "ev"
    rename_i h₃ C₃
    clear C₂'
    refine For_C C₃ ?_
    repeat walk_at "ev"
    obtain ⟨vals, hdv, hev⟩ := iw
    have hda : ∀ {h : Heap}, h.get? wa = some wo → h.DictOf (PySem.strKind prog w) wa (intPairs vals) := fun e => Heap.dictOf_iff.mpr ⟨wo, e, hdv⟩
    have hlen : (intPairs vals).length = D.length := by rw [← strip_len, ← hev]; exact List.length_map ..
    refine ⟨_, _, _, [wa], _, _, _, _, SFInv wa wo sa so pa ys q h pick j u₂ u₃ u₅ D, Nat.le_refl _, C₃, ?_, iter_dict R.hh lw (hda (C₃.get_old hwa)),
      ⟨rfl, hwa, hsa, hpa, by walk_at "lk", by walk_at "lk", by walk_at "lk", by walk_at "lk", by walk_at "lk", by walk_at "lk", by walk_at "lk", _, _, by walk_at "lk", fun _ => rfl, fun h => absurd h (Nat.lt_irrefl 0)⟩, ?_, ?_⟩
    · intro b hb
      rw [List.mem_singleton.mp hb]
      exact (C₃.oldOff (wa, wo) hwa).2
    · rintro i v m₄ cm₄ olds₄ news₄ h₄ tk₄ Base₄ ps₄ qs₄ hi htk hP ⟨rfl, hwa', hsa', hpa', hq', hh', hj', hp', hps', hs', hcw', z, tz, hcf, hz0, hz1⟩ hB hB2 C₄
      obtain ⟨k, tk', v', hk, rfl⟩ := hP
      obtain ⟨n₁, t₁, rfl, hk'⟩ := strip_at hk
      obtain ⟨x, hxi, rfl⟩ : ∃ x : List Nat × Int, D[i]? = some x ∧ k = reply x.1 := by
        rw [← hev] at hk'
        unfold encD at hk'
        rw [List.getElem?_map] at hk'
        cases hx : D[i]? with
        | none => rw [hx] at hk'; cases hk'
        | some x => rw [hx] at hk'; exact ⟨x, rfl, (Prod.mk.inj (Option.some.inj hk')).1.symm⟩
      have hxD : x ∈ D := List.mem_of_getElem? hxi
      have hxl := hb3 x hxD
      refine asL C₄ (fun h₅ C₅ => ?_) rfl rfl
      clear C₄
      refine cutQ fun Q₂ hQ₂ => ?_
      have fin : ∀ h₆ tk₆, Cx H₀ Base₄ (env18 fa L cd) oc18 ps₄ qs₄ (fun y => if y = Str.ofString "reply" then some (.str (reply x.1) tk') else m₄ y) cm₄ olds₄ [] h₆ → 0 < i →
          TurnEnd H₀ Base₄ (env18 fa L cd) oc18 ps₄ qs₄ (SFInv wa wo sa so pa ys q h pick j u₂ u₃ u₅ D (i + 1)) { s with heap := h₃, toks := tk + 1 } { s with heap := h₆, toks := tk₆ } := fun h₆ tk₆ C₆ hi0 =>
        ⟨_, _, _, _, _, _, rfl, C₆, rfl, hwa', hsa', hpa', by walk_at "lk", by walk_at "lk", by walk_at "lk", by walk_at "lk", by walk_at "lk", by walk_at "lk", by walk_at "lk", _, _, hcf, fun h => absurd h (Nat.succ_ne_zero i), fun _ => hz1 hi0⟩
      repeat walk_at "ev"
      rcases Nat.eq_zero_or_pos i with hi0 | hi0
      · refine iteT (by rw [hz0 hi0]; rfl) ?_
        refine iteT rfl ?_
        repeat walk_at "ev"
        rename_i C₆
        exact hQ₂ _ _ ⟨_, _, _, _, _, _, rfl, C₆, rfl, hwa', hsa', hpa', by walk_at "lk", by walk_at "lk", by walk_at "lk", by walk_at "lk", by walk_at "lk", by walk_at "lk", by walk_at "lk", _, _, by walk_at "lk", fun h => absurd h (Nat.succ_ne_zero i), fun _ => ⟨x, hxD, rfl⟩⟩
      · obtain ⟨y, hyD, rfl⟩ := hz1 hi0
        have hyl := hb3 y hyD
        refine iteF (beq_eq_false_iff_ne.mpr (reply_ne y.1)) ?_
        dsimp only
        refine isTrue_or ?_
        repeat walk_at "ev"
        refine gm_judge J (J.X.keeps C₅.hTop) (hj _ fun b o e => C₅.base b o (hB b o e)) ?_
        refine callWith_K J.X J.kf ?_ (by walk_at "ty") (by walk_at "ty")
        repeat walk_at "ev"
        have hlr : ∀ z : List Nat, z.length ≤ 5 → ¬ (((reply z).length : Int) ≥ 2 ^ 63) := fun z hz => by
          unfold reply; rw [tx_len, rep_len]; have := dbl_len 34 z; (first | lia | omega)
        refine P.len_str (hlr _ hxl) ?_
        repeat walk_at "ev"
        dsimp only
        refine newTuple_C C₅ (fun T₁ h₆ fr₆ x₆ C₆ => ?_) (by show 2 ≤ 16777216; decide)
        repeat walk_at "ev"
        refine P.len_str (hlr _ hyl) ?_
        repeat walk_at "ev"
        dsimp only
        refine newTuple_C C₆ (fun T₂ h₇ fr₇ x₇ C₇ => ?_) (by show 2 ≤ 16777216; decide)
        repeat walk_at "ev"
        refine ⟨J.X.keeps C₇.hTop, ?_⟩
        refine compare_spec S J R C₇.hTop (hj _ fun b o e => C₇.base b o (hB b o e)) (tup_is (C₇.get_old (by walk_at "mem"))) (tup_is (C₇.get_old (by walk_at "mem"))) fun h₈ tk₈ t₈ x₈ => ?_
        have C₈ : Cx H₀ Base₄ (env18 fa L cd) oc18 ps₄ qs₄ (fun y => if y = Str.ofString "reply" then some (.str (reply x.1) tk') else m₄ y) cm₄ olds₄ [] h₈ := (C₇.keeps x₈).sub (fun p hp => List.mem_cons_of_mem _ (List.mem_cons_of_mem _ hp)) (List.Sublist.refl _)
        clear C₇ C₆ C₅ x₈ x₇ x₆ fr₆ fr₇
        dsimp only
        repeat walk_at "ev"
        split
        · repeat walk_at "ev"
          rename_i C₉
          exact hQ₂ _ _ ⟨_, _, _, _, _, _, rfl, C₉, rfl, hwa', hsa', hpa', by walk_at "lk", by walk_at "lk", by walk_at "lk", by walk_at "lk", by walk_at "lk", by walk_at "lk", by walk_at "lk", _, _, by walk_at "lk", fun h => absurd h (Nat.succ_ne_zero i), fun _ => ⟨x, hxD, rfl⟩⟩
        · repeat walk_at "ev"
          exact hQ₂ _ _ (fin _ _ C₈ hi0)
    · rintro h₄ tk₄ m₄ cm₄ olds₄ news₄ htk C₄ ⟨rfl, hwa', hsa', hpa', hq', hh', hj', hp', hps', hs', hcw', z, tz, hcf, hz0, hz1⟩
      have iw : IsD prog w wo (encD reply D) := ⟨vals, hdv, hev⟩
      have hnd : (D.map (·.1)).Nodup := enc_nodup iw.nodup
      obtain ⟨⟨t, c⟩, htD, rfl⟩ := hz1 (by rw [hlen]; exact hne)
      have htl : t.length ≤ 5 := hb3 _ htD
      have hget : dget (encD reply D) (reply t) = some c := by rw [enc_get reply_inj]; exact gget_of hnd htD
      obtain ⟨st1, st2⟩ := hstep D B n t c hI htD
      clear C₃ hz0 hz1
      dsimp only
      repeat walk_at "ev"
      refine itemD (C₄.get_old hwa') iw hget (fun tc => ?_) (by walk_at "ty") (by walk_at "ty")
      repeat walk_at "ev"
      rename_i h₅ C₅
      clear C₄
      refine eval_comp_dict rfl ?_
      refine dictComp0 (H₀ := H₀) (Base := Base) (oc := oc18) (ps := []) (qs := []) (by with_unfolding_all rfl) (lk_cons (by with_unfolding_all rfl) (lk_one (by with_unfolding_all rfl))) rfl (by decide) (fun _ _ => rfl) (fun _ => rfl) ?_
      repeat walk_at "ev"
      refine ⟨_, _, [wa], _, _, _, _, fun i kvs => ∃ vals', kvs = intPairs vals' ∧ strip vals' = ((encD reply D).take i).filter fun x => decide (x.1 ≠ reply t), C₅, ?_, iter_dict R.hh lw (hda (C₅.get_old hwa')), ⟨[], rfl, rfl⟩, ?_, ?_⟩
      · intro b hb
        rw [List.mem_singleton.mp hb]
        exact ⟨_, C₅.get_old hwa'⟩
      · rintro i v D₆ o₆ kvs L₆ h₆ tk₆ Base₆ m₆ cm₆ ps₆ qs₆ hi htk' ⟨k, tk', v', hk, rfl⟩ ⟨vals', rfl, hvs⟩ ho₆ hB₆ hcm₆ C₆
        obtain ⟨n₁, t₁, rfl, hk'⟩ := strip_at hk
        rw [← hev] at hk'
        have hkg : dget (encD reply D) k = some n₁ := by
          have hmem : (k, n₁) ∈ encD reply D := List.mem_of_getElem? hk'
          obtain ⟨x, hx, hxe⟩ := List.mem_map.mp hmem
          obtain ⟨rfl, rfl⟩ := Prod.mk.inj hxe
          rw [enc_get reply_inj]; exact gget_of hnd hx
        have hkl : (intPairs vals').length ≤ sizeLine := by
          rw [← strip_len, hvs]
          refine Nat.le_trans (List.length_filter_le _ _) ?_
          rw [List.length_take]
          have : (encD reply D).length = D.length := List.length_map ..
          show _ ≤ 16777216; (first | lia | omega)
        have hcf₆ : cm₆ "first" = some (.str (reply t) tz) := (hcm₆ _).trans hcf
        have hcw₆ : cm₆ "waiting" = some (.ref wa) := (hcm₆ _).trans hcw'
        have hwa₆ : ∀ {h : Heap}, (∀ b o, Base₆ b o → h.get? b = some o) → h.get? wa = some wo := fun k => k _ _ (hB₆ _ _ (C₅.get_old hwa'))
        refine asL C₆ (fun h₇ C₇ => ?_) rfl rfl
        refine wpAny_tests_one ?_
        repeat walk_at "ev"
        cases hkt : (k != reply t) with
        | true =>
          refine iteT rfl ?_
          repeat walk_at "ev"
          refine itemD (hwa₆ C₇.base) iw hkg (fun tc' => ?_) (by walk_at "ty") (by walk_at "ty")
          obtain ⟨vals'', e1, e2⟩ := stored_strip vals' k n₁ tc'
          refine ⟨_, _, rfl, hkl, _, _, _, _, _, _, rfl, C₇, rfl, ⟨vals'', e1, ?_⟩, hcm₆⟩
          rw [e2, hvs]
          exact dput_filter iw.nodup hk' (by simpa using hkt)
        | false =>
          refine iteF rfl ?_
          refine ⟨_, _, _, _, _, _, rfl, C₇, rfl, ⟨vals', rfl, ?_⟩, hcm₆⟩
          rw [hvs, filter_take hk']
          have : decide (k ≠ reply t) = false := by simpa using hkt
          simp only [this]; simp
      · rintro D₆ o₆ kvs h₆ tk₆ htk' C₆ fr₆ ho₆ ⟨vals', rfl, hvs⟩
        have iw₆ : IsD prog w o₆ (encD reply (D.filter fun x => decide (x.1 ≠ t))) := ⟨vals', ho₆, by
          rw [hvs, List.take_of_length_le (by rw [hlen]; exact Nat.le_of_eq (List.length_map ..)), enc_filter reply_inj]⟩
        have lw₆ : (D₆ == sysModules) = false := fr₆.sys (S.main C₅.hTop)
        clear C₅
        show wpAny _ _ _ _ _ _
        dsimp only
        repeat walk_at "ev"
        rename_i h₇ C₇
        clear C₆
        refine evF 10 (by assumption) (by decide) (by walk_at "ty") (by walk_at "ty") (by assumption) ?_ (by walk_at "ty") (by walk_at "ty") (by decide) (by walk_at "ty") (by walk_at "ty") (by walk_at "ty")
        repeat walk_at "ev"
        refine ⟨C₇.hTop, ?_⟩
        refine parse_spec S R C₇.hTop (W := t) (Nat.le_trans htl (by decide)) fun h₈ tk₈ t₈ x₈ => ?_
        have C₈ := C₇.keeps x₈
        clear C₇ x₈
        repeat walk_at "ev"
        rename_i h₉ C₉
        clear C₈
        refine exec_comp_list (by with_unfolding_all rfl) rfl ?_
        refine filter_C (p := fun z => has t z) C₉ R.hh (by with_unfolding_all rfl) (lk_one (by with_unfolding_all rfl)) rfl (by decide) (fun _ _ => rfl) (fun _ => rfl) (fun _ => rfl) (fun _ => rfl) (by decide) ?_
        repeat walk_at "ev"
        refine ⟨pa, _, _, _, _, _, _, rfl, C₉, lst_is (C₉.get_old (by walk_at "mem")), hys, lpairs_len W, ?_, ?_⟩
        · intro L' z tz' h₁₀ tk₁₀ Base₁₀ m₁₀ cm₁₀ ps₁₀ qs₁₀ news₁₀ hz hB hcm C₁₀ hm₁₀
          have hz4 := lpairs_four hz
          have hzl : z.length = 2 := by
            simp only [List.mem_cons, List.not_mem_nil, or_false] at hz4
            rcases hz4 with rfl | rfl | rfl | rfl <;> rfl
          have hct : cm₁₀ "term" = some (.str (tx t) t₈) := (hcm _).trans (by walk_at "lk")
          refine isTrue_plain ?_ (by walk_at "ty")
          refine evF 6 (by assumption) (by decide) (by walk_at "ty") (by walk_at "ty") (by assumption) ?_ (by walk_at "ty") (by walk_at "ty") (by decide) (by walk_at "ty") (by walk_at "ty") (by walk_at "ty")
          repeat walk_at "ev"
          refine add_str (fun t₁₁ k₁₁ => ?_) (by rw [tx_len]; show 3 + _ ≤ 16777216; (first | lia | omega))
          repeat walk_at "ev"
          refine add_str (fun t₁₂ k₁₂ => ?_) (by rw [Str.length_append, tx_len]; show 3 + _ + 3 ≤ 16777216; (first | lia | omega))
          have e : Str.ofString "..." ++ tx z ++ Str.ofString "..." = tx (dots z) := by
            rw [show Str.ofString "..." = tx [46, 46, 46] from by decide, tx_append, tx_append]; rfl
          rw [e]
          repeat walk_at "ev"
          refine ⟨C₁₀.hTop, ?_⟩
          refine match_spec S R C₁₀.hTop hz4 (Nat.le_trans htl (by decide)) fun h₁₁ tk₁₁ x₁₁ => ?_
          repeat walk_at "ev"
          exact ⟨_, _, rfl, rfl, x₁₁⟩
        · intro D₁₀ ys₁₀ h₁₀ tk₁₀ C₁₀ fr₁₀ hys₁₀
          refine compOut_assign (olds' := []) rfl rfl C₉ C₁₀ fun h₁₁ tk₁₁ C₁₁ => ?_
          clear C₁₀ C₉
          dsimp only
          repeat walk_at "ev"
          refine newList_C C₁₁ (fun ea h₁₂ fr₁₂ x₁₂ C₁₂ => ?_) (by show 0 ≤ 16777216; decide)
          refine eqNil (lst_is (C₁₂.get_old (by walk_at "mem"))) ⟨_, C₁₂.get_old (by walk_at "mem"), rfl, _, rfl⟩ R.lt ?_
          clear C₁₁ x₁₂ fr₁₂
          dsimp only
          refine wpAny_truthy_bool ?_
          have hlen₁₀ := hys₁₀.length
          cases hfe : ys₁₀.isEmpty with
          | true =>
            refine iteT rfl ?_
            have hnone : ∀ p ∈ lpairs W, has t p = false := by
              have h0 : (lpairs W).filter (fun z => has t z) = [] := by
                rw [List.isEmpty_iff] at hfe
                rw [hfe] at hlen₁₀
                exact List.eq_nil_of_length_eq_zero hlen₁₀.symm
              intro p hp
              have := List.filter_eq_nil_iff.mp h0 p hp
              simpa using this
            obtain ⟨m', hm', hI'⟩ := st1 hnone
            repeat walk_at "ev"
            refine evF 2 (by assumption) (by decide) (by walk_at "ty") (by walk_at "ty") (by assumption) ?_ (by walk_at "ty") (by walk_at "ty") (by decide) (by walk_at "ty") (by walk_at "ty") (by walk_at "ty")
            repeat walk_at "ev"
            refine Dict1_C C₁₂ (fun h₁₃ x₁₃ C₁₃ => ?_) (by with_unfolding_all rfl)
            repeat walk_at "ev"
            refine ⟨reply t, _, rfl, ?_⟩
            repeat walk_at "ev"
            refine ⟨c, _, rfl, Ex.rfl, fun na no h₁₄ fr₁₄ x₁₄ C₁₄ i₁₄ => ?_⟩
            have ln : (na == sysModules) = false := fr₁₄.sys (S.main C₁₂.hTop)
            clear C₁₃ C₁₂ x₁₃ x₁₄ fr₁₄
            repeat walk_at "ev"
            refine ⟨C₁₄.hTop, ?_⟩
            have i₁₄' : IsD prog w no (encD reply [(t, c)]) := i₁₄
            refine add_spec S R C₁₄.hTop (C₁₄.get_old (by walk_at "mem")) (C₁₄.get_new (by walk_at "mem")) is i₁₄' ls ln (by
              have : (encD reply B).length = B.length := List.length_map ..
              show (encD reply B).length + 1 ≤ 16777216; (first | lia | omega)) fun r ro h₁₅ tk₁₅ fr₁₅ x₁₅ hr ir => ?_
            rw [enc_merge reply_inj] at ir
            have lr : (r == sysModules) = false := fr₁₅.sys (S.main C₁₄.hTop)
            have gr : G r := hG _ _ C₁₄.base fr₁₅
            have C₁₅ := (C₁₄.sub (fun _ hp => hp) (List.nil_sublist _)).addOld x₁₅ fr₁₅.none hr
            clear C₁₄ x₁₅ fr₁₅
            dsimp only
            repeat walk_at "ev"
            rename_i C₁₆
            exact hQ₁ _ _ ⟨m', hm', _, _, _, _, _, _, _, _, _, _, _, rfl, C₁₆, hI', by walk_at "mem", by walk_at "mem", by walk_at "mem", iw₆, ir, lw₆, lr, by walk_at "lk", by walk_at "lk", by walk_at "lk", by walk_at "lk", by walk_at "lk", by walk_at "lk", by walk_at "lk", gr⟩
          | false =>
            refine iteF rfl ?_
            repeat walk_at "ev"
            have hpos : 0 < ys₁₀.length := by
              cases ys₁₀ with
              | nil => simp at hfe
              | cons _ _ => exact Nat.succ_pos _
            have hsm : ys₁₀.length ≤ 100000 := by rw [hlen₁₀]; exact Nat.le_trans (List.length_filter_le _ _) (lpairs_len W)
            have hD₁₀ : ∀ {h : Heap}, h.get? D₁₀ = some (lst ys₁₀) → h.IsList D₁₀ ys₁₀.toArray := fun e => lst_is e
            have hposI : (0 : Int) < (ys₁₀.toArray.size : Int) := by rw [List.size_toArray]; exact Int.ofNat_lt.mpr hpos
            refine len_list (hD₁₀ (C₁₂.get_old (by walk_at "mem"))) (by rw [List.size_toArray]; (first | lia | omega)) ?_
            refine mod_int' (Int.ne_of_gt hposI) ?_
            have hk0 := Int.fmod_nonneg_of_pos pick hposI
            have hk1 := Int.fmod_lt_of_pos pick hposI
            generalize hkk : pick.fmod (ys₁₀.toArray.size : Int) = kk at hk0 hk1
            obtain ⟨kn, rfl⟩ : ∃ kn : Nat, kk = (kn : Int) := ⟨kk.toNat, (Int.toNat_of_nonneg hk0).symm⟩
            have hkn : kn < ys₁₀.length := by rw [List.size_toArray] at hk1; exact Int.ofNat_lt.mp hk1
            obtain ⟨z, tz', hyz, hzz⟩ := hys₁₀.at (List.getElem?_eq_getElem hkn)
            obtain ⟨hz1, hz2⟩ := List.mem_filter.mp (List.mem_of_getElem? hzz)
            obtain ⟨a, b, rfl, ha, hb', haW, hbW⟩ := lpairs_mem hz1
            refine item_list (x := .str (tx [a, b]) tz') (hD₁₀ (C₁₂.get_old (by walk_at "mem"))) hk0 (by rw [List.size_toArray] at hk1; (first | lia | omega)) (by rw [Int.toNat_natCast, List.getElem?_toArray, List.getElem?_eq_getElem hkn, hyz]) ?_ (by walk_at "ty") (by walk_at "ty")
            dsimp only
            repeat walk_at "ev"
            rename_i h₁₃ C₁₃
            clear C₁₂
            refine SC.find ?_
            obtain ⟨ia, hia, hil, hid⟩ := find_at (l := t) (y := [a, b]) hz2
            rw [hia]
            dsimp only
            repeat walk_at "ev"
            rename_i h₁₄ C₁₄
            clear C₁₃
            have htsz : (tx t).length ≤ sizeLine := by rw [tx_len]; show _ ≤ 16777216; (first | lia | omega)
            refine sliceNS (fun h₁₅ t₁₅ k₁₅ x₁₅ => ?_) htsz (by with_unfolding_all rfl) (by intro _; with_unfolding_all rfl)
            have C₁₅ := C₁₄.keeps x₁₅
            clear C₁₄ x₁₅
            rw [slice_ns]
            dsimp only
            repeat walk_at "ev"
            refine sliceSN (fun h₁₆ t₁₆ k₁₆ x₁₆ => ?_) htsz (by with_unfolding_all rfl) (by intro _; with_unfolding_all rfl)
            have C₁₆ := C₁₅.keeps x₁₆
            clear C₁₅ x₁₆
            rw [show ((ia : Int) + 2) = ((ia + 2 : Nat) : Int) from rfl, slice_sn]
            dsimp only
            repeat walk_at "ev"
            refine newTuple_C C₁₆ (fun T h₁₇ fr₁₇ x₁₇ C₁₇ => ?_) (by show 2 ≤ 16777216; decide)
            refine swap2 R.hh C₁₇ (C₁₇.get_old (by walk_at "mem")) (fun h₁₈ C₁₈ => ?_) rfl rfl rfl
            clear C₁₆ C₁₇ x₁₇ fr₁₇
            dsimp only
            repeat walk_at "ev"
            have hil' : ia + 2 ≤ t.length := hil
            have htt : t = t.take ia ++ [a, b] ++ t.drop (ia + 2) := by
              have h1 := (List.take_append_drop ia t).symm
              have h2 := (List.take_append_drop 2 (t.drop ia)).symm
              rw [show (t.drop ia).take 2 = [a, b] from hid, List.drop_drop] at h2
              rw [h2, ← List.append_assoc] at h1
              exact h1
            obtain ⟨m', hm', hI'⟩ := st2 a b (t.take ia) (t.drop (ia + 2)) hz1 htt
            have hul : (t.take ia).length ≤ 5 := by rw [List.length_take]; (first | lia | omega)
            have hvl : (t.drop (ia + 2)).length ≤ 5 := by rw [List.length_drop]; (first | lia | omega)
            have hdl : D.length ≤ 1000 ∧ B.length ≤ 1000 := ⟨hb1, hb2⟩
            clear st1 st2 hid hil hia htt
            generalize hu : t.take ia = u at *
            generalize hv : t.drop (ia + 2) = v at *
            have ib : Txt.item (tx [a, b]) 1 = tx [b] := item_tx (l := [a, b]) (i := 1) rfl
            have ia' : Txt.item (tx [a, b]) 0 = tx [a] := item_tx (l := [a, b]) (i := 0) rfl
            refine Dict1_C C₁₈ (fun h₁₉ x₁₉ C₁₉ => ?_) (by with_unfolding_all rfl)
            refine evF 17 (by assumption) (by decide) (by walk_at "ty") (by walk_at "ty") (by assumption) ?_ (by walk_at "ty") (by walk_at "ty") (by decide) (by walk_at "ty") (by walk_at "ty") (by walk_at "ty")
            repeat walk_at "ev"
            refine item_str (by decide) (by rw [tx_len]; show -(2 : Int) ≤ 1; decide) (by rw [tx_len]; show (1 : Int) < 2; decide) (fun _ => ?_) (by with_unfolding_all rfl) (by intro _; with_unfolding_all rfl)
            rw [ib]
            refine add_str (fun t₂₀ k₂₀ => ?_) (by rw [tx_len, tx_len]; show _ + 1 ≤ 16777216; (first | lia | omega))
            rw [tx_append]
            repeat walk_at "ev"
            refine item_str (by decide) (by rw [tx_len]; show -(2 : Int) ≤ 0; decide) (by rw [tx_len]; show (0 : Int) < 2; decide) (fun _ => ?_) (by with_unfolding_all rfl) (by intro _; with_unfolding_all rfl)
            rw [ia']
            refine add_str (fun t₂₁ k₂₁ => ?_) (by rw [tx_len, tx_len, List.length_append]; show _ + 1 + 1 ≤ 16777216; (first | lia | omega))
            rw [tx_append]
            repeat walk_at "ev"
            refine add_str (fun t₂₂ k₂₂ => ?_) (by rw [tx_len, tx_len, List.length_append, List.length_append]; show _ + 1 + 1 + _ ≤ 16777216; (first | lia | omega))
            rw [tx_append]
            repeat walk_at "ev"
            refine ⟨C₁₉.hTop, ?_⟩
            refine reply_specW S R C₁₉.hTop (by rw [List.length_append, List.length_append, List.length_append]; show _ + 1 + 1 + _ ≤ 1000; (first | lia | omega)) fun h₂₀ tk₂₀ t₂₃ x₂₀ => ?_
            have C₂₀ := C₁₉.keeps x₂₀
            refine ⟨_, _, rfl, ?_⟩
            dsimp only
            repeat walk_at "ev"
            refine mul_int ?_ (hqi c)
            refine ⟨_, _, rfl, x₂₀, fun na no h₂₁ fr₂₁ x₂₁ C₂₁ i₂₁ => ?_⟩
            have ln : (na == sysModules) = false := fr₂₁.sys (S.main C₁₈.hTop)
            clear C₁₈ C₁₉ C₂₀ x₁₉ x₂₀ x₂₁ fr₂₁
            have i₂₁' : IsD prog w no (encD reply [(u ++ [b, a] ++ v, q * c)]) := by
              have e : u ++ [b] ++ [a] ++ v = u ++ [b, a] ++ v := by simp
              rw [e] at i₂₁; exact i₂₁
            clear i₂₁
            dsimp only
            repeat walk_at "ev"
            rename_i h₂₂ C₂₂
            clear C₂₁
            refine item_str (by decide) (by rw [tx_len]; show -(2 : Int) ≤ 0; decide) (by rw [tx_len]; show (0 : Int) < 2; decide) (fun _ => ?_) (by with_unfolding_all rfl) (by intro _; with_unfolding_all rfl)
            rw [ia']
            repeat walk_at "ev"
            refine item_str (by decide) (by rw [tx_len]; show -(2 : Int) ≤ 1; decide) (by rw [tx_len]; show (1 : Int) < 2; decide) (fun _ => ?_) (by with_unfolding_all rfl) (by intro _; with_unfolding_all rfl)
            rw [ib]
            repeat walk_at "ev"
            dsimp only
            by_cases hab : (a : Int) - 256 = (b : Int)
            · refine iteT (by simpa using hab) ?_
              repeat walk_at "ev"
              refine mul_int ?_ (hhi c)
              repeat walk_at "ev"
              refine evF 17 (by assumption) (by decide) (by walk_at "ty") (by walk_at "ty") (by assumption) ?_ (by walk_at "ty") (by walk_at "ty") (by decide) (by walk_at "ty") (by walk_at "ty") (by walk_at "ty")
              repeat walk_at "ev"
              refine add_str (fun t₂₄ k₂₄ => ?_) (by rw [tx_len, tx_len]; show _ ≤ 16777216; (first | lia | omega))
              rw [tx_append]
              repeat walk_at "ev"
              refine ⟨C₂₂.hTop, ?_⟩
              refine reply_specW S R C₂₂.hTop (by rw [List.length_append]; (first | lia | omega)) fun h₂₄ tk₂₄ t₂₄ x₂₄ => ?_
              have C₂₄ := C₂₂.keeps x₂₄
              clear C₂₂ x₂₄
              dsimp only
              repeat walk_at "ev"
              refine setD_C (l₁ := []) (l₂ := []) C₂₄ i₂₁' (by show 1 ≤ 16777216; decide) fun h₂₅ o₂₅ C₂₅ i₂₅ => ?_
              have i₂₅' : IsD prog w o₂₅ (encD reply (moreOf q h c a b u v)) := by
                rw [enc_put reply_inj] at i₂₅
                unfold moreOf; rw [if_pos hab]; exact i₂₅
              clear i₂₅ C₂₄ i₂₁'
              dsimp only
              repeat walk_at "ev"
              refine evF 2 (by assumption) (by decide) (by walk_at "ty") (by walk_at "ty") (by assumption) ?_ (by walk_at "ty") (by walk_at "ty") (by decide) (by walk_at "ty") (by walk_at "ty") (by walk_at "ty")
              repeat walk_at "ev"
              refine ⟨C₂₅.hTop, ?_⟩
              have hml : (moreOf q h c a b u v).length ≤ 2 := by
                unfold moreOf gput; rw [if_pos hab]; split
                · show 1 ≤ 2; decide
                · exact Nat.le_refl _
              refine add_spec S R C₂₅.hTop (C₂₅.get_old (by walk_at "mem")) (C₂₅.get_new (by walk_at "mem")) iw₆ i₂₅' lw₆ ln (by
                have e1 : (encD reply (D.filter fun x => decide (x.1 ≠ t))).length ≤ D.length := Nat.le_trans (Nat.le_of_eq (List.length_map ..)) (List.length_filter_le _ _)
                have e2 : (encD reply (moreOf q h c a b u v)).length = (moreOf q h c a b u v).length := List.length_map ..
                show _ ≤ 16777216; (first | lia | omega)) fun r ro h₂₆ tk₂₆ fr₂₆ x₂₆ hr ir => ?_
              rw [enc_merge reply_inj] at ir
              have lr : (r == sysModules) = false := fr₂₆.sys (S.main C₂₅.hTop)
              have C₂₆ := (C₂₅.sub (fun _ hp => hp) (List.nil_sublist _)).addOld x₂₆ fr₂₆.none hr
              clear C₂₅ x₂₆ fr₂₆
              dsimp only
              repeat walk_at "ev"
              rename_i C₂₇
              exact hQ₁ _ _ ⟨m', hm', _, _, _, _, _, _, _, _, _, _, _, rfl, C₂₇, hI', by walk_at "mem", by walk_at "mem", by walk_at "mem", ir, is, lr, ls, by walk_at "lk", by walk_at "lk", by walk_at "lk", by walk_at "lk", by walk_at "lk", by walk_at "lk", by walk_at "lk", gsa⟩
            · refine iteF (by simpa using hab) ?_
              repeat walk_at "ev"
              refine evF 2 (by assumption) (by decide) (by walk_at "ty") (by walk_at "ty") (by assumption) ?_ (by walk_at "ty") (by walk_at "ty") (by decide) (by walk_at "ty") (by walk_at "ty") (by walk_at "ty")
              repeat walk_at "ev"
              refine ⟨C₂₂.hTop, ?_⟩
              have i₂₅' : IsD prog w no (encD reply (moreOf q h c a b u v)) := by
                unfold moreOf; rw [if_neg hab]; exact i₂₁'
              have hml : (moreOf q h c a b u v).length ≤ 2 := by
                unfold moreOf; rw [if_neg hab]; show 1 ≤ 2; decide
              refine add_spec S R C₂₂.hTop (C₂₂.get_old (by walk_at "mem")) (C₂₂.get_new (by walk_at "mem")) iw₆ i₂₅' lw₆ ln (by
                have e1 : (encD reply (D.filter fun x => decide (x.1 ≠ t))).length ≤ D.length := Nat.le_trans (Nat.le_of_eq (List.length_map ..)) (List.length_filter_le _ _)
                have e2 : (encD reply (moreOf q h c a b u v)).length = (moreOf q h c a b u v).length := List.length_map ..
                show _ ≤ 16777216; (first | lia | omega)) fun r ro h₂₆ tk₂₆ fr₂₆ x₂₆ hr ir => ?_
              rw [enc_merge reply_inj] at ir
              have lr : (r == sysModules) = false := fr₂₆.sys (S.main C₂₂.hTop)
              have C₂₆ := (C₂₂.sub (fun _ hp => hp) (List.nil_sublist _)).addOld x₂₆ fr₂₆.none hr
              clear C₂₂ x₂₆ fr₂₆
              dsimp only
              repeat walk_at "ev"
              rename_i C₂₇
              exact hQ₁ _ _ ⟨m', hm', _, _, _, _, _, _, _, _, _, _, _, rfl, C₂₇, hI', by walk_at "mem", by walk_at "mem", by walk_at "mem", ir, is, lr, ls, by walk_at "lk", by walk_at "lk", by walk_at "lk", by walk_at "lk", by walk_at "lk", by walk_at "lk", by walk_at "lk", gsa⟩

end
-- part G9

section
variable {prog : Program} {w : World} {A : Around} {H₀ : Heap} {mg mb : Str → Option Value} {fa : Nat → Addr} {E : Value → Shared → Prop} {s : Shared}
set_option maxHeartbeats 8000000 in
theorem settled_spec {K : Frag} {C f g : Addr} (S : Stat mg mb fa H₀) (J : Judge K C f g H₀) (R : Room 2 A) (hs : Ex H₀ s.heap) {j : Addr} {bs bt q h pick : Int} {W : List Nat} {u₁ u₂ u₃ u₄ : Tok} (hj : JudgeAt C s.heap j bs bt)
    {I : WD → WD → Nat → Prop} {n₀ : Nat} (hW : W.length ≤ 5) (hI : I [(W, 1)] [] n₀)
    (hb : ∀ D B n, I D B n → D.length ≤ 1000 ∧ B.length ≤ 1000 ∧ (∀ x ∈ D, x.1.length ≤ 5))
    (hqi : ∀ c, IntMulOk q c) (hhi : ∀ c, IntMulOk h c)
    (hstep : ∀ D B n t c, I D B n → (t, c) ∈ D →
      ((∀ p ∈ lpairs W, has t p = false) → ∃ m, m < n ∧ I (D.filter fun x => decide (x.1 ≠ t)) (gmerge B [(t, c)]) m) ∧
      (∀ a b u v, [a, b] ∈ lpairs W → t = u ++ [a, b] ++ v → ∃ m, m < n ∧ I (gmerge (D.filter fun x => decide (x.1 ≠ t)) (moreOf q h c a b u v)) B m))
    {Q : Value → Shared → Prop} (hQ : ∀ r o h' tk' B n, Fresh s.heap r → Ex s.heap h' → h'.get? r = some o → IsD prog w o (encD reply B) → I [] B n → Q (.ref r) { s with heap := h', toks := tk' }) :
    wpAny (model prog w) A (call (.ref (fa 18)) [.str (tx W) u₁, .int q u₂, .int h u₃, .ref j, .int pick u₄]) Q E s := by
  refine enter (oc := ["word", "early", "waiting", "first", "term"]) (binds := [("word", .str (tx W) u₁), ("q", .int q u₂), ("h", .int h u₃), ("judge", .ref j), ("pick", .int pick u₄)]) S (S.fn 18 (by decide)) hs R.room (fun _ _ _ => rfl) (kinds_of rfl) ?_
  intro L cd h₁ tk k₁ Cf
  walk_at "body"
  repeat walk_at "ev"
  refine exec_comp_list (by with_unfolding_all rfl) rfl ?_
  refine filter_C (p := fun z => W.contains (z.headD 0)) Cf R.hh (by with_unfolding_all rfl) (lk_one (by with_unfolding_all rfl)) rfl (by decide) (fun _ _ => rfl) (fun _ => rfl) (fun _ => rfl) (fun _ => rfl) (by decide) ?_
  repeat walk_at "ev"
  refine chr_C 290 (by decide) ?_
  repeat walk_at "ev"
  refine chr_C 34 (by decide) ?_
  repeat walk_at "ev"
  refine chr_C 353 (by decide) ?_
  repeat walk_at "ev"
  refine chr_C 97 (by decide) ?_
  repeat walk_at "ev"
  dsimp only
  refine newList_C Cf (fun sl h₂ fr₂ x₂ C₂ => ?_) (by show 4 ≤ 16777216; decide)
  clear Cf
  dsimp only
  refine ⟨sl, _, [[290], [34], [353], [97]], _, _, _, _, rfl, C₂, ⟨_, C₂.get_old (by walk_at "mem"), rfl, _, rfl⟩, .cons _ _ (.cons _ _ (.cons _ _ (.cons _ _ .nil))), by decide, ?_, ?_⟩
  · intro L' z t h₃ tk₃ Base₃ m₃ cm₃ ps₃ qs₃ news₃ hz hB hcm C₃ hm₃
    have hw : cm₃ "word" = some (.str (tx W) u₁) := (hcm _).trans (by walk_at "lk")
    repeat walk_at "ev"
    refine ⟨_, _, rfl, ?_, Ex.rfl⟩
    simp only [List.mem_cons, List.not_mem_nil, or_false] at hz
    rcases hz with rfl | rfl | rfl | rfl <;> (rw [found_tx]; simp)
  · intro D ys h₃ tk₃ C₃ fr₃ hys
    refine compOut_assign (olds' := []) rfl rfl C₂ C₃ fun h₄ tk₄ C₄ => ?_
    clear C₃ C₂ x₂ fr₂
    dsimp only
    repeat walk_at "ev"
    refine exec_comp_list (by with_unfolding_all rfl) rfl ?_
    refine filter_C (p := fun z => decide (256 ≤ z.headD 0)) C₄ R.hh (by with_unfolding_all rfl) lk_nil rfl (by decide) (fun _ _ => rfl) (fun _ => rfl) (fun _ => rfl) (fun _ => rfl) (by decide) ?_
    repeat walk_at "ev"
    have one : ∀ z ∈ List.filter (fun z => W.contains (z.headD 0)) [[290], [34], [353], [97]], ∃ c, z = [c] := by
      intro z hz
      have := (List.mem_filter.mp hz).1
      simp only [List.mem_cons, List.not_mem_nil, or_false] at this
      rcases this with rfl | rfl | rfl | rfl <;> exact ⟨_, rfl⟩
    refine ⟨D, _, _, _, _, _, _, rfl, C₄, lst_is (C₄.get_old (by walk_at "mem")), hys, Nat.le_trans (List.length_filter_le _ _) (by decide), ?_, ?_⟩
    · intro L' z t h₅ tk₅ Base₅ m₅ cm₅ ps₅ qs₅ news₅ hz hB hcm C₅ hm₅
      obtain ⟨c, rfl⟩ := one z hz
      refine isTrue_plain ?_ (by walk_at "ty")
      refine evF 14 (by assumption) (by decide) (by walk_at "ty") (by walk_at "ty") (by assumption) ?_ (by walk_at "ty") (by walk_at "ty") (by decide) (by walk_at "ty") (by walk_at "ty") (by walk_at "ty")
      repeat walk_at "ev"
      refine ⟨C₅.hTop, ?_⟩
      refine nonterm_spec S (R.deeper.le (by decide)) C₅.hTop fun h₆ tk₆ x₆ => ?_
      repeat walk_at "ev"
      exact ⟨_, _, rfl, by simp; (first | lia | omega), x₆⟩
    · intro D₂ ys₂ h₅ tk₅ C₅ fr₅ hys₂
      refine compOut_assign (olds' := []) rfl rfl C₄ C₅ fun h₆ tk₆ C₆ => ?_
      clear C₅ C₄
      dsimp only
      repeat walk_at "ev"
      refine eval_comp_list rfl ?_
      refine filter_C (p := fun z => decide (z.headD 0 < 256)) C₆ R.hh (by with_unfolding_all rfl) lk_nil rfl (by decide) (fun _ _ => rfl) (fun _ => rfl) (fun _ => rfl) (fun _ => rfl) (by decide) ?_
      repeat walk_at "ev"
      refine ⟨D, _, _, _, _, _, _, rfl, C₆, lst_is (C₆.get_old (by walk_at "mem")), hys, Nat.le_trans (List.length_filter_le _ _) (by decide), ?_, ?_⟩
      · intro L' z t h₇ tk₇ Base₇ m₇ cm₇ ps₇ qs₇ news₇ hz hB hcm C₇ hm₇
        obtain ⟨c, rfl⟩ := one z hz
        refine isTrue_plain ?_ (by walk_at "ty")
        refine evF 13 (by assumption) (by decide) (by walk_at "ty") (by walk_at "ty") (by assumption) ?_ (by walk_at "ty") (by walk_at "ty") (by decide) (by walk_at "ty") (by walk_at "ty") (by walk_at "ty")
        repeat walk_at "ev"
        refine ⟨C₇.hTop, ?_⟩
        refine term_spec S (R.deeper.le (by decide)) C₇.hTop fun h₈ tk₈ x₈ => ?_
        repeat walk_at "ev"
        exact ⟨_, _, rfl, by simp; (first | lia | omega), x₈⟩
      · intro D₃ ys₃ h₇ tk₇ C₇ fr₇ hys₃
        show wpAny _ _ _ _ _ _
        dsimp only
        repeat walk_at "ev"
        rename_i h₈ C₈
        clear C₇ C₆
        refine exec_comp_list (by with_unfolding_all rfl) rfl ?_
        refine pairs_C C₈ R.hh (by with_unfolding_all rfl) (lk_one (by with_unfolding_all rfl)) rfl (by decide) (fun _ _ => rfl) (fun _ => rfl) (fun _ => rfl) (fun _ => rfl) (fun _ => rfl) (by decide) (by decide) (by decide) ?_
        repeat walk_at "ev"
        have one2 : ∀ (p : List Nat → Bool), ∀ z ∈ List.filter p (List.filter (fun z => W.contains (z.headD 0)) [[290], [34], [353], [97]]), z.length ≤ 100 := by
          intro p z hz
          obtain ⟨c, rfl⟩ := one z (List.mem_filter.mp hz).1
          exact (by decide : (1 : Nat) ≤ 100)
        have len2 : ∀ (p : List Nat → Bool), (List.filter p (List.filter (fun z => W.contains (z.headD 0)) [[290], [34], [353], [97]])).length ≤ 100 := fun p => Nat.le_trans (List.length_filter_le _ _) (Nat.le_trans (List.length_filter_le _ _) (by decide))
        refine ⟨D₂, _, _, D₃, _, _, _, _, _, _, rfl, C₈, lst_is (C₈.get_old (by walk_at "mem")), hys₂, len2 _, lst_is (C₈.get_old (by walk_at "mem")), hys₃, len2 _, one2 _, one2 _, ?_, ?_⟩
        · intro L' h₉ tk₉ Base₉ m₉ cm₉ ps₉ qs₉ news₉ Q' hcm C₉ hq
          have hw : cm₉ "early" = some (.ref D₃) := (hcm _).trans (by walk_at "lk")
          exact nmC C₉ hw hq rfl rfl rfl (by decide)
        · intro D₄ ys₄ h₉ tk₉ C₉ fr₉ hys₄
          refine compOut_assign (olds' := []) rfl rfl C₈ C₉ fun h₁₀ tk₁₀ C₁₀ => ?_
          clear C₉ C₈
          dsimp only
          repeat walk_at "ev"
          refine Dict1_C C₁₀ (fun h₁₁ x₁₁ C₁₁ => ?_) (by with_unfolding_all rfl)
          refine evF 17 (by assumption) (by decide) (by walk_at "ty") (by walk_at "ty") (by assumption) ?_ (by walk_at "ty") (by walk_at "ty") (by decide) (by walk_at "ty") (by walk_at "ty") (by walk_at "ty")
          repeat walk_at "ev"
          refine ⟨C₁₁.hTop, ?_⟩
          refine reply_specW S (R.deeper.le (by decide)) C₁₁.hTop (Nat.le_trans hW (by decide)) fun h₁₂ tk₁₂ t₁₂ x₁₂ => ?_
          refine ⟨_, _, rfl, ?_⟩
          dsimp only
          repeat walk_at "ev"
          refine ⟨1, _, rfl, x₁₂, fun wa wo h₁₃ fr₁₃ x₁₃ C₁₃ i₁₃ => ?_⟩
          have lw : (wa == sysModules) = false := fr₁₃.sys (S.main C₁₀.hTop)
          clear C₁₀ C₁₁ x₁₁ x₁₂ x₁₃ fr₁₃
          dsimp only
          repeat walk_at "ev"
          rename_i h₁₄ C₁₄
          clear C₁₃
          refine Dict0_C C₁₄ fun sa so h₁₅ fr₁₅ x₁₅ C₁₅ i₁₅ => ?_
          have ls : (sa == sysModules) = false := fr₁₅.sys (S.main C₁₄.hTop)
          have C₁₄b := C₁₄.base
          clear C₁₄ x₁₅
          dsimp only
          repeat walk_at "ev"
          rename_i h₁₆ C₁₆
          clear C₁₅
          have C₁₇ := (C₁₆.freeze (l₁ := [])).freeze (l₁ := [])
          clear C₁₆
          show wpAny _ _ (exec whileStmt (env18 fa L cd)) _ _ _
          refine settled_loop S J R.deeper hb hqi hhi hstep C₁₇ hI (pa := D₄) (by walk_at "mem") (by walk_at "mem") (by walk_at "mem") i₁₃ i₁₅ lw ls hys₄ (by walk_at "lk") (by walk_at "lk") (by walk_at "lk") (by walk_at "lk") (by walk_at "lk") (by walk_at "lk") (by walk_at "lk")
            (fun h' k => hj.ex fun b o e => k b o e) (G := Fresh s.heap) (fun h' r k fr => fr.up fun b o e => k b o e) (fr₁₅.up fun b o e => C₁₄b b o e) fun h' tk' m' cm' olds' sa' so' B n C' hsa' is' hI' hms' gs' => ?_
          repeat walk_at "ev"
          exact hQ _ _ _ _ _ _ gs' (fun b o e => C'.base b o e) (C'.get_old hsa') is' hI'

end
-- part G10

section
variable {prog : Program} {w : World} {A : Around} {H₀ : Heap} {mg mb : Str → Option Value} {fa : Nat → Addr} {E : Value → Shared → Prop} {s : Shared}
theorem tx_inj' (a b : List Nat) (h : tx a = tx b) : a = b := tx_inj h
def kk (R L : List Nat) : List Nat := R ++ 124 :: L
def gacc (D : WD) (y : List Nat × Int) : WD := gput D y.1 ((gget D y.1).getD 0 + y.2)
def contr (q h : Int) (s : Nat) (R L : List Nat) (n : Nat) : List (List Nat × Int) :=
  (List.range n).filterMap fun k => if L[k]? = some (s + 256) then some (kk R (L.take k ++ L.drop (k + 1)), h * q ^ (L.length - 1 - k)) else none
def waysOf (q h : Int) (s : Nat) (R L : List Nat) : List (List Nat × Int) :=
  if 255 < s then [(kk R (L ++ [s]), 1)] else (kk (R ++ [s]) L, q ^ L.length) :: contr q h s R L L.length
inductive pairsIn (olds : List (Addr × Obj)) : List Value → List (List Nat × Int) → Prop
  | nil : pairsIn olds [] []
  | cons (T : Addr) (g : List Nat) (p : Int) (t u : Tok) {vs ws} : (T, tup [.str (tx g) t, .int p u]) ∈ olds → pairsIn olds vs ws → pairsIn olds (.ref T :: vs) ((g, p) :: ws)
theorem pairsIn.mono {o o' : List (Addr × Obj)} (k : ∀ p ∈ o, p ∈ o') {vs ws} (h : pairsIn o vs ws) : pairsIn o' vs ws := by
  induction h with
  | nil => exact .nil
  | cons T g p t u hm _ ih => exact .cons T g p t u (k _ hm) ih
theorem pairsIn.length {o : List (Addr × Obj)} {vs ws} (h : pairsIn o vs ws) : vs.length = ws.length := by induction h <;> simp_all
theorem pairsIn.at {o : List (Addr × Obj)} {vs ws} (h : pairsIn o vs ws) : ∀ {i : Nat} {v : Value}, vs[i]? = some v → ∃ T g p t u, v = .ref T ∧ (T, tup [.str (tx g) t, .int p u]) ∈ o ∧ ws[i]? = some (g, p) := by
  induction h with
  | nil => intro i v e; simp at e
  | cons T g p t u hm _ ih =>
    intro i v e
    cases i with
    | zero => exact ⟨T, g, p, t, u, (Option.some.inj e).symm, hm, rfl⟩
    | succ i => exact ih e
theorem pairsIn.snoc {o : List (Addr × Obj)} {vs ws} (h : pairsIn o vs ws) {T : Addr} {g : List Nat} {p : Int} {t u : Tok} (hm : (T, tup [.str (tx g) t, .int p u]) ∈ o) : pairsIn o (vs ++ [.ref T]) (ws ++ [(g, p)]) := by
  induction h with
  | nil => exact .cons T g p t u hm .nil
  | cons T' g' p' t' u' hm' _ ih => exact .cons T' g' p' t' u' hm' ih
theorem gput_len (D : WD) (k : List Nat) (n : Int) : (gput D k n).length ≤ D.length + 1 := by
  unfold gput
  split
  · rw [List.length_map]; exact Nat.le_succ _
  · rw [List.length_append]; exact Nat.le_refl _
theorem gfold_len (l : List (List Nat × Int)) : ∀ D : WD, (l.foldl gacc D).length ≤ D.length + l.length := by
  induction l with
  | nil => intro D; exact Nat.le_refl _
  | cons x l ih =>
    intro D
    refine Nat.le_trans (ih _) ?_
    have := gput_len D x.1 ((gget D x.1).getD 0 + x.2)
    show (gput D x.1 _).length + _ ≤ _
    rw [List.length_cons]; (first | lia | omega)
theorem foldl_snoc {α β : Type} (f : β → α → β) (b : β) {l : List α} {i : Nat} {a : α} (h : l[i]? = some a) : (l.take (i + 1)).foldl f b = f ((l.take i).foldl f b) a := by
  rw [List.take_add_one, h, Option.toList_some, List.foldl_append]; rfl

def forBody : Stmt → List Stmt
  | .For _ _ b .. => b
  | _ => []
def signFor : Stmt := (dBody (stmtAt 19)).getD 1 (.Pass default)
def keyFor : Stmt := (forBody signFor).getD 1 (.Pass default)
def goalFor : Stmt := (forBody keyFor).getD 2 (.Pass default)
abbrev env19 (fa : Nat → Addr) (L : Addr) (cd : Value) : Env := envOfC (dName (stmtAt 19)) (dScope (stmtAt 19)) L (fa 19) cd
abbrev oc19 : List Str := ["sums"]

set_option maxHeartbeats 8000000 in
theorem due_goal (S : Stat mg mb fa H₀) (R : Room 1 A) {L : Addr} {cd : Value} {Base : Addr → Obj → Prop} {ps qs : List Addr} {m cm : Str → Option Value} {olds : List (Addr × Obj)} {aa sa wl : Addr} {ao so : Obj} {wn : Nat} {ys : List Value} {ws : List (List Nat × Int)} {AD SD : WD} {key : List Nat} {c : Int} {tk : Tok}
    (C : Cx H₀ Base (env19 fa L cd) oc19 ps qs m cm olds [(aa, ao)] s.heap) (ia : IsD prog w ao (encD tx AD)) (hsa : (sa, so) ∈ olds) (is : IsD prog w so (encD tx SD)) (la : (aa == sysModules) = false)
    (hwl : (wl, { cls := .type "list", data := .seq ys.toArray wn }) ∈ olds) (hys : pairsIn olds ys ws) (hma : m "after" = some (.ref aa)) (hmw : m "ways" = some (.ref wl)) (hmk : m "key" = some (.str (tx key) tk)) (hcs : cm "sums" = some (.ref sa)) (hget : gget SD key = some c)
    (hok : ∀ y ∈ ws, IntMulOk c y.2) (hal : AD.length + ws.length ≤ 100000)
    {Q : Flow → Shared → Prop} (hQ : ∀ h' tk' m' olds' ao', Cx H₀ Base (env19 fa L cd) oc19 ps qs m' cm olds' [(aa, ao')] h' → (∀ p ∈ olds, p ∈ olds') → IsD prog w ao' (encD tx ((ws.map fun y => (y.1, c * y.2)).foldl gacc AD)) → (∀ x, x ≠ Str.ofString "goal" → x ≠ Str.ofString "part" → m' x = m x) → Q .next { s with heap := h', toks := tk' }) :
    wpAny (model prog w) A (exec goalFor (env19 fa L cd)) Q No s := by
  conv in exec goalFor _ => (arg 1; whnf)
  refine For_C C ?_
  repeat walk_at "ev"
  have hysz : ys.toArray.size = ws.length := by rw [List.size_toArray]; exact hys.length
  refine ⟨_, _, _, [wl], _, _, _, _, fun i m' cm' olds' news' => (∀ p ∈ olds, p ∈ olds') ∧ cm' = cm ∧ (∀ x, x ≠ Str.ofString "goal" → x ≠ Str.ofString "part" → m' x = m x) ∧ ∃ ao', news' = [(aa, ao')] ∧ IsD prog w ao' (encD tx (((ws.take i).map fun y => (y.1, c * y.2)).foldl gacc AD)),
    Nat.le_refl _, C, ?_, iter_list R.hh ⟨_, C.get_old hwl, rfl, _, rfl⟩, ⟨fun _ h => h, rfl, fun _ _ _ => rfl, ao, rfl, ia⟩, ?_, ?_⟩
  · intro b hb
    rw [List.mem_singleton.mp hb]
    exact (C.oldOff (wl, _) hwl).2
  · rintro i v m₁ cm₁ olds₁ news₁ h₁ tk₁ Base₁ ps₁ qs₁ hi htk hP ⟨ho, rfl, hm, ao₁, rfl, ia₁⟩ hB hB2 C₁
    rw [List.getElem?_toArray] at hP
    obtain ⟨T, gl, p, t, u, rfl, hT, hwi⟩ := hys.at hP
    have hmem := List.mem_of_getElem? hwi
    have hT' : h₁.get? T = some (tup [.str (tx gl) t, .int p u]) := C₁.get_old (ho _ hT)
    have hma₁ : m₁ "after" = some (.ref aa) := (hm _ (by decide) (by decide)).trans hma
    have hmk₁ : m₁ "key" = some (.str (tx key) tk) := (hm _ (by decide) (by decide)).trans hmk
    refine asT2 R.hh C₁ (tup_is hT') (fun h₂ C₂ => ?_) rfl rfl rfl
    clear C₁
    have hal₁ : (((ws.take i).map fun y => (y.1, c * y.2)).foldl gacc AD).length ≤ 100000 := by
      refine Nat.le_trans (gfold_len _ _) ?_
      rw [List.length_map, List.length_take]; (first | lia | omega)
    have ha₂ : h₂.get? aa = some ao₁ := C₂.get_new (by walk_at "mem")
    obtain ⟨va, hva, hea⟩ := id ia₁
    have hda : h₂.DictOf (PySem.strKind prog w) aa (intPairs va) := Heap.dictOf_iff.mpr ⟨_, ha₂, hva⟩
    repeat walk_at "ev"
    refine gm_get hda ?_
    dsimp only
    (with_unfolding_all refine get2D ia₁ la ?_)
    simp only [Bool.false_eq_true, if_false]
    repeat walk_at "ev"
    refine ⟨_, _, _, _, rfl, rfl, ha₂, fun ta => ?_⟩
    rw [enc_get tx_inj']
    dsimp only
    repeat walk_at "ev"
    refine itemD (C₂.get_old (ho _ hsa)) is (by rw [enc_get tx_inj']; exact hget) (fun tc => ?_) (by walk_at "ty") (by walk_at "ty")
    dsimp only
    repeat walk_at "ev"
    refine mul_int ?_ (hok _ hmem)
    repeat walk_at "ev"
    refine setD_C (l₁ := []) (l₂ := []) C₂ ia₁ (by
      have e : (encD tx (((ws.take i).map fun y => (y.1, c * y.2)).foldl gacc AD)).length = (((ws.take i).map fun y => (y.1, c * y.2)).foldl gacc AD).length := List.length_map ..
      show _ ≤ 16777216; (first | lia | omega)) fun h₃ ao₃ C₃ ia₃ => ?_
    rw [enc_put tx_inj'] at ia₃
    repeat walk_at "ev"
    refine ⟨_, _, _, _, _, _, rfl, C₃, ho, rfl, ?_, ao₃, rfl, ?_⟩
    · intro x h1 h2
      exact (if_neg h2).trans ((if_neg h1).trans (hm x h1 h2))
    · have hw' : (ws.map fun y => (y.1, c * y.2))[i]? = some (gl, c * p) := by rw [List.getElem?_map, hwi]; rfl
      rw [List.map_take] at ia₃ ⊢
      rw [foldl_snoc gacc AD hw']
      exact ia₃
  · rintro h' tk' m' cm' olds' news' htk C' ⟨ho, rfl, hm, ao', rfl, ia'⟩
    rw [hysz, List.take_length] at ia'
    exact hQ _ _ _ _ _ C' ho ia' hm

end
-- part G11

section
variable {prog : Program} {w : World} {A : Around} {H₀ : Heap} {mg mb : Str → Option Value} {fa : Nat → Addr} {E : Value → Shared → Prop} {s : Shared}
theorem contr_snoc {q h : Int} {sg : Nat} {R L : List Nat} {n : Nat} : contr q h sg R L (n + 1) = contr q h sg R L n ++ if L[n]? = some (sg + 256) then [(kk R (L.take n ++ L.drop (n + 1)), h * q ^ (L.length - 1 - n))] else [] := by
  unfold contr
  rw [List.range_succ, List.filterMap_append, List.filterMap_cons, List.filterMap_nil]
  by_cases hc : L[n]? = some (sg + 256)
  · rw [if_pos hc, if_pos hc]
  · rw [if_neg hc, if_neg hc]
theorem contr_len {q h : Int} {sg : Nat} {R L : List Nat} {n : Nat} : (contr q h sg R L n).length ≤ n := by
  unfold contr
  exact Nat.le_trans (List.length_filterMap_le _ _) (Nat.le_of_eq List.length_range)

set_option maxHeartbeats 8000000 in
theorem due_key (S : Stat mg mb fa H₀) (R : Room 1 A) {L : Addr} {cd : Value} {Base : Addr → Obj → Prop} {ps qs : List Addr} {m cm : Str → Option Value} {olds : List (Addr × Obj)} {aa sa : Addr} {ao so : Obj} {AD SD : WD} {rs ls : List Nat} {c q h : Int} {sg : Nat} {tk tq th tsg : Tok}
    (C : Cx H₀ Base (env19 fa L cd) oc19 ps qs m cm olds [(aa, ao)] s.heap) (ia : IsD prog w ao (encD tx AD)) (hsa : (sa, so) ∈ olds) (is : IsD prog w so (encD tx SD)) (la : (aa == sysModules) = false)
    (hma : m "after" = some (.ref aa)) (hmk : m "key" = some (.str (tx (kk rs ls)) tk)) (hms : m "sign" = some (.str (tx [sg]) tsg)) (hmq : m "q" = some (.int q tq)) (hmh : m "h" = some (.int h th)) (hcs : cm "sums" = some (.ref sa)) (hget : gget SD (kk rs ls) = some c)
    (hrs : 124 ∉ rs) (hls : 124 ∉ ls) (hrl : rs.length ≤ 10) (hll : ls.length ≤ 10) (hqb : Builtin.Int.intBits q ≤ 64) (hhi : ∀ c, IntMulOk h c)
    (hok : ∀ y ∈ waysOf q h sg rs ls, IntMulOk c y.2) (hal : AD.length ≤ 10000)
    {Q : Flow → Shared → Prop} (hQ : ∀ h' tk' m' olds' ao', Cx H₀ Base (env19 fa L cd) oc19 ps qs m' cm olds' [(aa, ao')] h' → (∀ p ∈ olds, p ∈ olds') → IsD prog w ao' (encD tx (((waysOf q h sg rs ls).map fun y => (y.1, c * y.2)).foldl gacc AD)) →
      m' "after" = some (.ref aa) → m' "sign" = some (.str (tx [sg]) tsg) → m' "q" = some (.int q tq) → m' "h" = some (.int h th) → Q .next { s with heap := h', toks := tk' }) :
    wpAny (model prog w) A (execs (forBody keyFor) (env19 fa L cd)) Q No s := by
  have bar' : ∀ l : List Nat, tx l ++ Str.ofString "|" = tx l ++ tx [124] := fun l => by rw [show Str.ofString "|" = tx [124] from by decide]
  have bar : Str.ofString "|" = tx [124] := by decide
  have hkl : (tx (kk rs ls)).length ≤ 21 := by rw [tx_len]; unfold kk; rw [List.length_append, List.length_cons]; (first | lia | omega)
  conv in execs (forBody _) _ => (arg 1; whnf)
  repeat walk_at "ev"
  refine split_C C rfl (by show _ ≤ 16777216; (first | lia | omega)) fun D l h₁ tk₁ hl fr₁ x₁ C₁ => ?_
  have hsp : Txt.split (tx (kk rs ls)) (Str.ofString "|") = [tx rs, tx ls] := by rw [bar]; exact split_two hrs hls
  rw [hsp] at hl
  obtain ⟨a1, a2, rfl⟩ : ∃ a1 a2, l = [(tx rs, a1), (tx ls, a2)] := by
    match l, hl with
    | [(_, a1), (_, a2)], hl =>
      simp only [List.map_cons, List.map_nil, List.cons.injEq, and_true] at hl
      obtain ⟨rfl, rfl⟩ := hl
      exact ⟨_, _, rfl⟩
  clear hl hsp
  refine asL2 (v₁ := .str (tx rs) a1) (v₂ := .str (tx ls) a2) R.hh C₁ ⟨_, C₁.get_old (by walk_at "mem"), rfl, _, rfl⟩ (fun h₂ C₂ => ?_) rfl rfl rfl
  clear C₁ C x₁ fr₁
  dsimp only
  repeat walk_at "ev"
  have ending : ∀ h₃ tk₃ m₃ olds₃ wl wn ys, Cx H₀ Base (env19 fa L cd) oc19 ps qs m₃ cm olds₃ [(aa, ao)] h₃ → (∀ p ∈ olds, p ∈ olds₃) → (wl, ({ cls := .type "list", data := .seq (List.toArray ys) wn } : Obj)) ∈ olds₃ → pairsIn olds₃ ys (waysOf q h sg rs ls) →
      m₃ "ways" = some (.ref wl) → m₃ "after" = some (.ref aa) → m₃ "key" = some (.str (tx (kk rs ls)) tk) → m₃ "sign" = some (.str (tx [sg]) tsg) → m₃ "q" = some (.int q tq) → m₃ "h" = some (.int h th) →
      wpAny (model prog w) A (exec goalFor (env19 fa L cd)) (fun f s' => match f with | .next => wpAny (model prog w) A (execs [] (env19 fa L cd)) Q No s' | f => Q f s') No { s with heap := h₃, toks := tk₃ } := by
    intro h₃ tk₃ m₃ olds₃ wl wn ys C₃ ho hwl hys h1 h2 h3 h4 h5 h6
    refine due_goal S R C₃ ia (ho _ hsa) is la hwl hys h2 h1 h3 hcs hget hok (by
      have : (waysOf q h sg rs ls).length ≤ 11 := by
        unfold waysOf; split
        · show 1 ≤ 11; decide
        · rw [List.length_cons]; have := contr_len (q := q) (h := h) (sg := sg) (R := rs) (L := ls) (n := ls.length); (first | lia | omega)
      (first | lia | omega)) fun h' tk' m' olds' ao' C' ho' ia' hm' => ?_
    refine wpAny_execs_nil ?_
    exact hQ _ _ _ _ _ C' (fun p hp => ho' p (ho p hp)) ia' ((hm' _ (by decide) (by decide)).trans h2) ((hm' _ (by decide) (by decide)).trans h4) ((hm' _ (by decide) (by decide)).trans h5) ((hm' _ (by decide) (by decide)).trans h6)
  by_cases hsg : 255 < sg
  · refine iteT (by simp; (first | lia | omega)) ?_
    repeat walk_at "ev"
    refine add_str (fun t₃ k₃ => ?_) (by rw [tx_len]; show _ + 1 ≤ 16777216; (first | lia | omega))
    rw [bar', tx_append]
    repeat walk_at "ev"
    refine add_str (fun t₄ k₄ => ?_) (by rw [tx_len, tx_len, List.length_append]; show _ + 1 + _ ≤ 16777216; (first | lia | omega))
    rw [tx_append]
    repeat walk_at "ev"
    refine add_str (fun t₅ k₅ => ?_) (by rw [tx_len, tx_len, List.length_append, List.length_append]; show _ + 1 + _ + 1 ≤ 16777216; (first | lia | omega))
    rw [tx_append]
    repeat walk_at "ev"
    dsimp only
    refine newTuple_C C₂ (fun T h₃ fr₃ x₃ C₃ => ?_) (by show 2 ≤ 16777216; decide)
    repeat walk_at "ev"
    refine newList_C C₃ (fun wl h₄ fr₄ x₄ C₄ => ?_) (by show 1 ≤ 16777216; decide)
    clear C₂ C₃ x₃ x₄ fr₃ fr₄
    dsimp only
    repeat walk_at "ev"
    rename_i h₅ C₅
    have e : rs ++ [124] ++ ls ++ [sg] = kk rs (ls ++ [sg]) := by unfold kk; simp
    have hw : waysOf q h sg rs ls = [(kk rs (ls ++ [sg]), 1)] := by unfold waysOf; rw [if_pos hsg]
    refine ending _ _ _ _ wl _ _ C₅ (fun p hp => List.mem_cons_of_mem _ (List.mem_cons_of_mem _ (List.mem_cons_of_mem _ hp))) (by walk_at "mem") (by rw [hw]; exact .cons T _ 1 _ _ (by rw [← e]; walk_at "mem") .nil) (by walk_at "lk") (by walk_at "lk") (by walk_at "lk") (by walk_at "lk") (by walk_at "lk") (by walk_at "lk")
  · refine iteF (by simp; (first | lia | omega)) ?_
    repeat walk_at "ev"
    refine add_str (fun t₃ k₃ => ?_) (by rw [tx_len, tx_len]; show _ + 1 ≤ 16777216; (first | lia | omega))
    rw [tx_append]
    repeat walk_at "ev"
    refine add_str (fun t₄ k₄ => ?_) (by rw [tx_len, List.length_append]; show _ + 1 + 1 ≤ 16777216; (first | lia | omega))
    rw [bar', tx_append]
    repeat walk_at "ev"
    refine add_str (fun t₅ k₅ => ?_) (by rw [tx_len, tx_len, List.length_append, List.length_append]; show _ + 1 + 1 + _ ≤ 16777216; (first | lia | omega))
    rw [tx_append]
    repeat walk_at "ev"
    have hlt : ¬ (((tx ls).length : Int) ≥ 2 ^ 63) := by rw [tx_len]; (first | lia | omega)
    refine P.len_str hlt ?_
    repeat walk_at "ev"
    refine pow_int (Int.natCast_nonneg _) (by rw [tx_len]; have : (Builtin.Int.intBits q : Int) * (ls.length : Int) ≤ 64 * 10 := Int.mul_le_mul (by (first | lia | omega)) (by (first | lia | omega)) (by (first | lia | omega)) (by (first | lia | omega)); (first | lia | omega)) ?_
    rw [Int.toNat_natCast]
    repeat walk_at "ev"
    dsimp only
    refine newTuple_C C₂ (fun T h₃ fr₃ x₃ C₃ => ?_) (by show 2 ≤ 16777216; decide)
    repeat walk_at "ev"
    refine newListN_C C₃ (fun wl h₄ fr₄ x₄ C₄ => ?_) (by show 1 ≤ 16777216; decide)
    clear C₂ C₃ x₃ x₄ fr₃ fr₄
    dsimp only
    repeat walk_at "ev"
    rename_i h₅ C₅
    clear C₄
    have e0 : rs ++ [sg] ++ [124] ++ ls = kk (rs ++ [sg]) ls := by unfold kk; simp
    have hw : waysOf q h sg rs ls = (kk (rs ++ [sg]) ls, q ^ ls.length) :: contr q h sg rs ls ls.length := by unfold waysOf; rw [if_neg hsg]
    rw [e0] at C₅
    refine For_C C₅ ?_
    repeat walk_at "ev"
    refine P.len_str hlt ?_
    repeat walk_at "ev"
    rw [tx_len]
    refine range_C R.hh (by (first | lia | omega)) fun xv s₁ hs₁ hit => ?_
    obtain ⟨h₆, tk₆, rfl, k₆⟩ := hs₁
    have C₆ := C₅.keeps k₆
    clear C₅ k₆
    refine ⟨_, _, _, [], _, _, _, _, fun i m' cm' olds' news' => (∀ p ∈ olds, p ∈ olds') ∧ cm' = cm ∧ m' "ways" = some (.ref wl) ∧ m' "after" = some (.ref aa) ∧ m' "key" = some (.str (tx (kk rs ls)) tk) ∧ m' "sign" = some (.str (tx [sg]) tsg) ∧ m' "q" = some (.int q tq) ∧ m' "h" = some (.int h th) ∧
      m' "raisers" = some (.str (tx rs) a1) ∧ m' "lowerers" = some (.str (tx ls) a2) ∧ i ≤ ls.length ∧ ∃ ys wn, news' = [(wl, { cls := .type "list", data := .seq (List.toArray ys) wn }), (aa, ao)] ∧ pairsIn olds' ys ((kk (rs ++ [sg]) ls, q ^ ls.length) :: contr q h sg rs ls i),
      Nat.le_refl _, C₆, fun b hb => (nomatch hb), hit _ _, ⟨fun p hp => List.mem_cons_of_mem _ (List.mem_cons_of_mem _ hp), rfl, by walk_at "lk", by walk_at "lk", by walk_at "lk", by walk_at "lk", by walk_at "lk", by walk_at "lk", by walk_at "lk", by walk_at "lk", Nat.zero_le _, [.ref T], 0, rfl, .cons T _ _ _ _ (by walk_at "mem") .nil⟩, ?_, ?_⟩
    · rintro i v m₁ cm₁ olds₁ news₁ h₇ tk₇ Base₁ ps₁ qs₁ hi htk ⟨ti, rfl⟩ ⟨ho, rfl, h1, h2, h3, h4, h5, h6, h7, h8, hi', ys, wn, rfl, hys⟩ hB hB2 C₇
      refine asL C₇ (fun h₈ C₈ => ?_) rfl rfl
      clear C₇
      repeat walk_at "ev"
      have hlen : (tx ls).length = ls.length := tx_len ls
      have hil : i < ls.length := hi
      have hat : ls[i]? = some ls[i] := List.getElem?_eq_getElem hil
      have hsz : (tx ls).length ≤ sizeLine := by rw [hlen]; show _ ≤ 16777216; (first | lia | omega)
      refine item_str (by unfold fitsSsize; simp; (first | lia | omega)) (by (first | lia | omega)) (by (first | lia | omega)) (fun _ => ?_) (by with_unfolding_all rfl) (by intro _; with_unfolding_all rfl)
      rw [item_tx hat]
      repeat walk_at "ev"
      by_cases hc : ls[i] = sg + 256
      · refine iteT (by rw [hc]; simp) ?_
        repeat walk_at "ev"
        refine sliceNS (fun h₉ t₉ k₉ x₉ => ?_) hsz (by with_unfolding_all rfl) (by intro _; with_unfolding_all rfl)
        have C₉ := C₈.keeps x₉
        clear C₈ x₉
        rw [slice_ns]
        dsimp only
        repeat walk_at "ev"
        refine sliceSN (fun h₁₀ t₁₀ k₁₀ x₁₀ => ?_) hsz (by with_unfolding_all rfl) (by intro _; with_unfolding_all rfl)
        have C₁₀ := C₉.keeps x₁₀
        clear C₉ x₁₀
        rw [show ((i : Int) + 1) = ((i + 1 : Nat) : Int) from rfl, slice_sn]
        dsimp only
        have hl1 : (ls.take i).length = i := by rw [List.length_take]; (first | lia | omega)
        have hl2 : (ls.drop (i + 1)).length = ls.length - (i + 1) := List.length_drop
        refine add_str (fun t₁₁ k₁₁ => ?_) (by rw [tx_len, tx_len, hl1, hl2]; show _ ≤ 16777216; (first | lia | omega))
        rw [tx_append]
        repeat walk_at "ev"
        rename_i h₁₁ C₁₁
        clear C₁₀
        have hwl : h₁₁.get? wl = some ({ cls := .type "list", data := .seq (List.toArray ys) wn } : Obj) := C₁₁.get_new (by walk_at "mem")
        refine getMethod_list_append hwl rfl rfl ?_
        repeat walk_at "ev"
        refine add_str (fun t₁₂ k₁₂ => ?_) (by rw [tx_len]; show _ + 1 ≤ 16777216; (first | lia | omega))
        rw [bar', tx_append]
        repeat walk_at "ev"
        refine add_str (fun t₁₃ k₁₃ => ?_) (by rw [tx_len, tx_len, List.length_append, List.length_append, hl1, hl2]; show _ + 1 + _ ≤ 16777216; (first | lia | omega))
        rw [tx_append]
        repeat walk_at "ev"
        have hrl' : (ls.take i ++ ls.drop (i + 1)).length = ls.length - 1 := by rw [List.length_append, hl1, hl2]; (first | lia | omega)
        refine P.len_str (by rw [tx_len, hrl']; (first | lia | omega)) ?_
        repeat walk_at "ev"
        have hex : ((tx (ls.take i ++ ls.drop (i + 1))).length : Int) - (i : Int) = ((ls.length - 1 - i : Nat) : Int) := by rw [tx_len, hrl']; (first | lia | omega)
        rw [hex]
        refine pow_int (Int.natCast_nonneg _) (by have : (Builtin.Int.intBits q : Int) * ((ls.length - 1 - i : Nat) : Int) ≤ 64 * 10 := Int.mul_le_mul (by (first | lia | omega)) (by (first | lia | omega)) (by (first | lia | omega)) (by (first | lia | omega)); (first | lia | omega)) ?_
        rw [Int.toNat_natCast]
        refine mul_int ?_ (hhi _)
        repeat walk_at "ev"
        dsimp only
        refine newTuple_C C₁₁ (fun T' h₁₂ fr₁₂ x₁₂ C₁₂ => ?_) (by show 2 ≤ 16777216; decide)
        repeat walk_at "ev"
        dsimp only
        have hyl : ys.length ≤ sizeLine := by
          have e1 := hys.length
          have e2 := contr_len (q := q) (h := h) (sg := sg) (R := rs) (L := ls) (n := i)
          rw [List.length_cons] at e1
          show _ ≤ 16777216; (first | lia | omega)
        refine appendN_C (l₁ := []) C₁₂ hyl fun h₁₃ C₁₃ => ?_
        clear C₁₂ C₁₁ x₁₂ fr₁₂
        repeat walk_at "ev"
        have e1 : rs ++ [124] ++ (ls.take i ++ ls.drop (i + 1)) = kk rs (ls.take i ++ ls.drop (i + 1)) := by unfold kk; simp
        refine ⟨_, _, _, _, _, _, rfl, C₁₃, fun p hp => List.mem_cons_of_mem _ (ho p hp), rfl, by walk_at "lk", by walk_at "lk", by walk_at "lk", by walk_at "lk", by walk_at "lk", by walk_at "lk", by walk_at "lk", by walk_at "lk", hil, _, _, rfl, ?_⟩
        rw [contr_snoc, if_pos (by rw [hat, hc]), ← List.cons_append]
        exact (hys.mono fun p hp => List.mem_cons_of_mem _ hp).snoc (by rw [← e1]; walk_at "mem")
      · refine iteF (by simp; (first | lia | omega)) ?_
        repeat walk_at "ev"
        refine ⟨_, _, _, _, _, _, rfl, C₈, ho, rfl, by walk_at "lk", by walk_at "lk", by walk_at "lk", by walk_at "lk", by walk_at "lk", by walk_at "lk", by walk_at "lk", by walk_at "lk", hil, _, _, rfl, ?_⟩
        rw [contr_snoc, if_neg (by rw [hat]; intro e; exact hc (Option.some.inj e)), List.append_nil]
        exact hys
    · rintro h' tk' m' cm' olds' news' htk C' ⟨ho, rfl, h1, h2, h3, h4, h5, h6, h7, h8, hi', ys, wn, rfl, hys⟩
      have C'' := C'.freeze (l₁ := [])
      dsimp only
      repeat walk_at "ev"
      exact ending _ _ _ _ wl _ _ C'' (fun p hp => List.mem_cons_of_mem _ (ho p hp)) (by walk_at "mem") (by rw [hw]; exact hys.mono fun p hp => List.mem_cons_of_mem _ hp) h1 h2 h3 h4 h5 h6

end
-- part G12

section
variable {prog : Program} {w : World} {A : Around} {H₀ : Heap} {mg mb : Str → Option Value} {fa : Nat → Addr} {E : Value → Shared → Prop} {s : Shared}
def Rof (k : List Nat) : List Nat := k.takeWhile (· != 124)
def Lof (k : List Nat) : List Nat := (k.dropWhile (· != 124)).drop 1
def okKey (k : List Nat) : Prop := k = kk (Rof k) (Lof k) ∧ 124 ∉ Rof k ∧ 124 ∉ Lof k ∧ (Rof k).length ≤ 10 ∧ (Lof k).length ≤ 10
def kstep (q h : Int) (sg : Nat) (acc : WD) (x : List Nat × Int) : WD := ((waysOf q h sg (Rof x.1) (Lof x.1)).map fun y => (y.1, x.2 * y.2)).foldl gacc acc
def dstep (q h : Int) (S : WD) (sg : Nat) : WD := S.foldl (kstep q h sg) []
def dres (q h : Int) (z : List Nat) : WD := z.foldl (dstep q h) [([124], 1)]
def dend (D : WD) : WD := D.foldl (fun acc x => gput acc (Rof x.1 ++ Lof x.1) x.2) []
theorem ways_len {q h : Int} {sg : Nat} {R L : List Nat} : (waysOf q h sg R L).length ≤ L.length + 1 := by
  unfold waysOf; split
  · exact Nat.succ_le_succ (Nat.zero_le _)
  · rw [List.length_cons]; exact Nat.succ_le_succ contr_len
theorem kfold_len {q h : Int} {sg : Nat} : ∀ (S : WD) (acc : WD), (∀ x ∈ S, (Lof x.1).length ≤ 10) → (S.foldl (kstep q h sg) acc).length ≤ acc.length + 11 * S.length
  | [], acc, _ => Nat.le_refl _
  | x :: S, acc, hx => by
    have h1 := kfold_len (q := q) (h := h) (sg := sg) S (kstep q h sg acc x) fun y hy => hx y (List.mem_cons_of_mem _ hy)
    have h2 := gfold_len ((waysOf q h sg (Rof x.1) (Lof x.1)).map fun y => (y.1, x.2 * y.2)) acc
    have h3 := ways_len (q := q) (h := h) (sg := sg) (R := Rof x.1) (L := Lof x.1)
    have h4 := hx x List.mem_cons_self
    rw [List.length_map] at h2
    show (S.foldl (kstep q h sg) (kstep q h sg acc x)).length ≤ _
    have h5 : (kstep q h sg acc x).length ≤ acc.length + (waysOf q h sg (Rof x.1) (Lof x.1)).length := h2
    rw [List.length_cons]
    (first | lia | omega)

set_option maxHeartbeats 8000000 in
theorem due_sign (S : Stat mg mb fa H₀) (R : Room 1 A) {L : Addr} {cd : Value} {Base : Addr → Obj → Prop} {ps qs : List Addr} {m cm : Str → Option Value} {olds : List (Addr × Obj)} {aa sa : Addr} {ao so : Obj} {SD : WD} {q h : Int} {sg : Nat} {tq th tsg : Tok}
    (C : Cx H₀ Base (env19 fa L cd) oc19 ps qs m cm olds [(aa, ao)] s.heap) (ia : IsD prog w ao (encD tx [])) (hsa : (sa, so) ∈ olds) (is : IsD prog w so (encD tx SD)) (la : (aa == sysModules) = false) (lsa : (sa == sysModules) = false)
    (hma : m "after" = some (.ref aa)) (hms : m "sign" = some (.str (tx [sg]) tsg)) (hmq : m "q" = some (.int q tq)) (hmh : m "h" = some (.int h th)) (hcs : cm "sums" = some (.ref sa))
    (hqb : Builtin.Int.intBits q ≤ 64) (hhi : ∀ c, IntMulOk h c)
    (hv : ∀ x ∈ SD, okKey x.1 ∧ ∀ y ∈ waysOf q h sg (Rof x.1) (Lof x.1), IntMulOk x.2 y.2) (hal : SD.length ≤ 500)
    {Q : Flow → Shared → Prop} (hQ : ∀ h' tk' m' olds' ao', Cx H₀ Base (env19 fa L cd) oc19 ps qs m' cm olds' [(aa, ao')] h' → (∀ p ∈ olds, p ∈ olds') → IsD prog w ao' (encD tx (dstep q h SD sg)) →
      m' "after" = some (.ref aa) → m' "sign" = some (.str (tx [sg]) tsg) → m' "q" = some (.int q tq) → m' "h" = some (.int h th) → Q .next { s with heap := h', toks := tk' }) :
    wpAny (model prog w) A (exec keyFor (env19 fa L cd)) Q No s := by
  have hnd : (SD.map (·.1)).Nodup := enc_nodup is.nodup
  conv in exec keyFor _ => (arg 1; whnf)
  refine For_C C ?_
  repeat walk_at "ev"
  obtain ⟨vals, hdv, hev⟩ := id is
  have hda : ∀ {h : Heap}, h.get? sa = some so → h.DictOf (PySem.strKind prog w) sa (intPairs vals) := fun e => Heap.dictOf_iff.mpr ⟨so, e, hdv⟩
  have hlen : (intPairs vals).length = SD.length := by rw [← strip_len, ← hev]; exact List.length_map ..
  refine ⟨_, _, _, [sa], _, _, _, _, fun i m' cm' olds' news' => (∀ p ∈ olds, p ∈ olds') ∧ cm' = cm ∧ m' "after" = some (.ref aa) ∧ m' "sign" = some (.str (tx [sg]) tsg) ∧ m' "q" = some (.int q tq) ∧ m' "h" = some (.int h th) ∧ ∃ ao', news' = [(aa, ao')] ∧ IsD prog w ao' (encD tx ((SD.take i).foldl (kstep q h sg) [])),
    Nat.le_refl _, C, ?_, iter_dict R.hh lsa (hda (C.get_old hsa)), ⟨fun _ h => h, rfl, hma, hms, hmq, hmh, ao, rfl, ia⟩, ?_, ?_⟩
  · intro b hb
    rw [List.mem_singleton.mp hb]
    exact (C.oldOff (sa, so) hsa).2
  · rintro i v m₁ cm₁ olds₁ news₁ h₁ tk₁ Base₁ ps₁ qs₁ hi htk hP ⟨ho, rfl, h1, h2, h3, h4, ao₁, rfl, ia₁⟩ hB hB2 C₁
    obtain ⟨k, tk', v', hk, rfl⟩ := hP
    obtain ⟨n₁, t₁, rfl, hk'⟩ := strip_at hk
    obtain ⟨⟨k₀, c⟩, hxi, rfl⟩ : ∃ x : List Nat × Int, SD[i]? = some x ∧ k = tx x.1 := by
      rw [← hev] at hk'
      unfold encD at hk'
      rw [List.getElem?_map] at hk'
      cases hx : SD[i]? with
      | none => rw [hx] at hk'; cases hk'
      | some x => rw [hx] at hk'; exact ⟨x, rfl, (Prod.mk.inj (Option.some.inj hk')).1.symm⟩
    have hxD := List.mem_of_getElem? hxi
    obtain ⟨⟨hk0, hR, hL, hRl, hLl⟩, hok⟩ := hv _ hxD
    replace hk0 : k₀ = kk (Rof k₀) (Lof k₀) := hk0
    refine asL C₁ (fun h₂ C₂ => ?_) rfl rfl
    clear C₁
    refine due_key (c := c) (rs := Rof k₀) (ls := Lof k₀) (tk := tk') S R C₂ ia₁ (ho _ hsa) is la (by walk_at "lk") (by rw [← hk0]; walk_at "lk") (by walk_at "lk") (by walk_at "lk") (by walk_at "lk") hcs (by rw [← hk0]; exact gget_of hnd hxD) hR hL hRl hLl hqb hhi hok (by
      have := kfold_len (q := q) (h := h) (sg := sg) (SD.take i) [] fun x hx => (hv x (List.mem_of_mem_take hx)).1.2.2.2.2
      rw [List.length_take] at this
      have : ([] : WD).length = 0 := rfl
      (first | lia | omega)) fun h' tk'' m' olds' ao' C' ho' ia' g1 g2 g3 g4 => ?_
    refine ⟨_, _, _, _, _, _, rfl, C', fun p hp => ho' p (ho p hp), rfl, g1, g2, g3, g4, ao', rfl, ?_⟩
    rw [foldl_snoc (kstep q h sg) [] hxi]
    exact ia'
  · rintro h' tk' m' cm' olds' news' htk C' ⟨ho, rfl, h1, h2, h3, h4, ao', rfl, ia'⟩
    rw [hlen, List.take_length] at ia'
    exact hQ _ _ _ _ _ C' ho ia' h1 h2 h3 h4

theorem join_two (a b : List Nat) : Txt.join (Str.ofString "") [tx a, tx b] = tx (a ++ b) := by
  refine tx_ext ?_
  show (((tx a).cps ++ (Str.ofString "").cps ++ (tx b).cps) : Array Nat).toList = a ++ b
  simp [tx]
  rfl

set_option maxHeartbeats 8000000 in
theorem due_spec (S : Stat mg mb fa H₀) (R : Room 2 A) (hs : Ex H₀ s.heap) {W : List Nat} {q h : Int} {u₁ u₂ u₃ : Tok} (hW : W.length ≤ 5) (hqb : Builtin.Int.intBits q ≤ 64) (hhi : ∀ c, IntMulOk h c)
    (hv : ∀ i sg, W[i]? = some sg → ∀ x ∈ dres q h (W.take i), okKey x.1 ∧ ∀ y ∈ waysOf q h sg (Rof x.1) (Lof x.1), IntMulOk x.2 y.2)
    (hend : ∀ x ∈ dres q h W, okKey x.1) (hlen : ∀ i, (dres q h (W.take i)).length ≤ 500)
    {Q : Value → Shared → Prop} (hQ : ∀ r o h' tk', Fresh s.heap r → Ex s.heap h' → h'.get? r = some o → IsD prog w o (encD reply (dend (dres q h W))) → Q (.ref r) { s with heap := h', toks := tk' }) :
    wpAny (model prog w) A (call (.ref (fa 19)) [.str (tx W) u₁, .int q u₂, .int h u₃]) Q E s := by
  refine enter (oc := oc19) (binds := [("word", .str (tx W) u₁), ("q", .int q u₂), ("h", .int h u₃)]) S (S.fn 19 (by decide)) hs R.room (fun _ _ _ => rfl) (kinds_of rfl) ?_
  intro L cd h₁ tk k₁ C
  walk_at "body"
  repeat walk_at "ev"
  refine Dict1_C C (fun h₂ x₂ C₂ => ?_) (by with_unfolding_all rfl)
  repeat walk_at "ev"
  refine ⟨_, _, rfl, ?_⟩
  repeat walk_at "ev"
  refine ⟨1, _, rfl, Ex.rfl, fun sa so h₃ fr₃ x₃ C₃ i₃ => ?_⟩
  have ls : (sa == sysModules) = false := fr₃.sys (S.main C.hTop)
  have i₃' : IsD prog w so (encD tx [([124], 1)]) := by
    have e : Str.ofString "|" = tx [124] := by decide
    rw [e] at i₃; exact i₃
  clear i₃ C₂ C x₂ x₃ fr₃
  dsimp only
  repeat walk_at "ev"
  rename_i h₄ C₄
  have C₅ := C₄.freeze (l₁ := [])
  clear C₃ C₄
  refine For_C C₅ ?_
  repeat walk_at "ev"
  have hWs : (tx W).cps.size = W.length := List.size_toArray ..
  refine ⟨_, _, _, [], _, _, _, _, fun i m' cm' olds' news' => news' = [] ∧ m' "q" = some (.int q u₂) ∧ m' "h" = some (.int h u₃) ∧ ∃ sa so, cm' "sums" = some (.ref sa) ∧ (sa, so) ∈ olds' ∧ IsD prog w so (encD tx (dres q h (W.take i))) ∧ (sa == sysModules) = false,
    Nat.le_refl _, C₅, fun b hb => (nomatch hb), iter_str R.hh, ⟨rfl, by walk_at "lk", by walk_at "lk", sa, so, by walk_at "lk", by walk_at "mem", i₃', ls⟩, ?_, ?_⟩
  · rintro i v m₁ cm₁ olds₁ news₁ h₆ tk₆ Base₁ ps₁ qs₁ hi htk ⟨sg, tsg, hsg, rfl⟩ ⟨rfl, h1, h2, sa', so', hcs, hsa, is, lsa⟩ hB hB2 C₆
    have hsg' : W[i]? = some sg := by
      have : W.toArray[i]? = some sg := hsg
      rw [List.getElem?_toArray] at this; exact this
    refine asL C₆ (fun h₇ C₇ => ?_) rfl rfl
    clear C₆
    repeat walk_at "ev"
    refine Dict0_C C₇ fun aa ao h₈ fr₈ x₈ C₈ i₈ => ?_
    have laa : (aa == sysModules) = false := fr₈.sys (S.main C₇.hTop)
    clear C₇ x₈ fr₈
    dsimp only
    repeat walk_at "ev"
    rename_i h₉ C₉
    clear C₈
    show wpAny _ _ (exec keyFor (env19 fa L cd)) _ _ _
    refine due_sign (sg := sg) (tsg := tsg) S R.deeper C₉ i₈ hsa is laa lsa (by walk_at "lk") (by walk_at "lk") (by walk_at "lk") (by walk_at "lk") hcs hqb hhi (hv i sg hsg') (hlen i) fun h' tk' m' olds' ao' C' ho' ia' g1 g2 g3 g4 => ?_
    repeat walk_at "ev"
    rename_i h₁₀ C₁₀
    have C₁₁ := C₁₀.freeze (l₁ := [])
    refine ⟨_, _, _, _, _, _, rfl, C₁₁, rfl, g3, g4, aa, ao', by walk_at "lk", by walk_at "mem", ?_, laa⟩
    unfold dres at ia' ⊢
    rw [foldl_snoc (dstep q h) _ hsg']
    exact ia'
  · rintro h₆ tk₆ m₆ cm₆ olds₆ news₆ htk C₆ ⟨rfl, h1, h2, sa', so', hcs, hsa, is, lsa⟩
    rw [hWs, List.take_length] at is
    clear C₅
    dsimp only
    repeat walk_at "ev"
    refine eval_comp_dict rfl ?_
    refine dictComp0 (H₀ := H₀) (Base := fun b o => s.heap.get? b = some o) (oc := oc19) (ps := []) (qs := []) (by with_unfolding_all rfl) (lk_one (by with_unfolding_all rfl)) rfl (by decide) (fun _ _ => rfl) (fun _ => rfl) ?_
    repeat walk_at "ev"
    obtain ⟨vals, hdv, hev⟩ := id is
    have hda : ∀ {h : Heap}, h.get? sa' = some so' → h.DictOf (PySem.strKind prog w) sa' (intPairs vals) := fun e => Heap.dictOf_iff.mpr ⟨so', e, hdv⟩
    have hlen' : (intPairs vals).length = (dres q h W).length := by rw [← strip_len, ← hev]; exact List.length_map ..
    have hl0 : (dres q h W).length ≤ 500 := by have := hlen W.length; rw [List.take_length] at this; exact this
    have hnd : ((dres q h W).map (·.1)).Nodup := enc_nodup is.nodup
    refine ⟨_, _, [sa'], _, _, _, _, fun i kvs => ∃ vals', kvs = intPairs vals' ∧ strip vals' = encD reply (dend ((dres q h W).take i)) ∧ i ≤ 500 ∧ kvs.length ≤ i, C₆, ?_, iter_dict R.hh lsa (hda (C₆.get_old hsa)), ⟨[], rfl, rfl, Nat.zero_le _, Nat.le_refl _⟩, ?_, ?_⟩
    · intro b hb
      rw [List.mem_singleton.mp hb]
      exact ⟨_, C₆.get_old hsa⟩
    · rintro i v D₇ o₇ kvs L₇ h₇ tk₇ Base₇ m₇ cm₇ ps₇ qs₇ hi htk' ⟨k, tk', v', hk, rfl⟩ ⟨vals', rfl, hvs, hi5, hkl⟩ ho₇ hB₇ hcm₇ C₇
      obtain ⟨n₁, t₁, rfl, hk'⟩ := strip_at hk
      obtain ⟨⟨k₀, c⟩, hxi, hkn⟩ : ∃ x : List Nat × Int, (dres q h W)[i]? = some x ∧ (k, n₁) = (tx x.1, x.2) := by
        rw [← hev] at hk'
        unfold encD at hk'
        rw [List.getElem?_map] at hk'
        cases hx : (dres q h W)[i]? with
        | none => rw [hx] at hk'; cases hk'
        | some x => rw [hx] at hk'; exact ⟨x, rfl, (Option.some.inj hk').symm⟩
      obtain ⟨rfl, rfl⟩ := Prod.mk.inj hkn
      have hxD := List.mem_of_getElem? hxi
      obtain ⟨hk0, hR, hL, hRl, hLl⟩ := hend _ hxD
      replace hk0 : k₀ = kk (Rof k₀) (Lof k₀) := hk0
      replace hRl : (Rof k₀).length ≤ 10 := hRl
      replace hLl : (Lof k₀).length ≤ 10 := hLl
      have hcs₇ : cm₇ "sums" = some (.ref sa') := (hcm₇ _).trans hcs
      refine asL C₇ (fun h₈ C₈ => ?_) rfl rfl
      clear C₇
      show wpAny _ _ (pure true) _ _ _
      refine wpAny_pure (iteT rfl ?_)
      refine evF 17 (by assumption) (by decide) (by walk_at "ty") (by walk_at "ty") (by assumption) ?_ (by walk_at "ty") (by walk_at "ty") (by decide) (by walk_at "ty") (by walk_at "ty") (by walk_at "ty")
      repeat walk_at "ev"
      have hkl' : (tx k₀).length + 2 ≤ sizeLine := by rw [tx_len, hk0]; unfold kk; rw [List.length_append, List.length_cons]; show _ ≤ 16777216; (first | lia | omega)
      refine split_C C₈ rfl hkl' fun D l h₉ tk₉ hl fr₉ x₉ C₉ => ?_
      have hsp : Txt.split (tx k₀) (Str.ofString "|") = [tx (Rof k₀), tx (Lof k₀)] := by
        rw [show Str.ofString "|" = tx [124] from by decide]
        conv => lhs; rw [hk0]
        exact split_two hR hL
      rw [hsp] at hl
      obtain ⟨a1, a2, rfl⟩ : ∃ a1 a2, l = [(tx (Rof k₀), a1), (tx (Lof k₀), a2)] := by
        match l, hl with
        | [(_, a1), (_, a2)], hl =>
          simp only [List.map_cons, List.map_nil, List.cons.injEq, and_true] at hl
          obtain ⟨rfl, rfl⟩ := hl
          exact ⟨_, _, rfl⟩
      clear hl hsp C₈ x₉ fr₉
      repeat walk_at "ev"
      refine join_list (ys := [tx (Rof k₀), tx (Lof k₀)]) ⟨_, C₉.get_old (by walk_at "mem"), rfl, _, rfl⟩ (.cons _ _ (.cons _ _ .nil)) (by
        simp only [List.map_cons, List.map_nil, List.sum_cons, List.sum_nil, tx_len]
        show _ + 2 * 0 ≤ 16777216
        (first | lia | omega)) fun t₁₀ k₁₀ => ?_
      rw [join_two]
      repeat walk_at "ev"
      refine ⟨C₉.hTop, ?_⟩
      refine reply_specW S (R.deeper.le (by decide)) C₉.hTop (by rw [List.length_append]; (first | lia | omega)) fun h₁₁ tk₁₁ t₁₁ x₁₁ => ?_
      have C₁₁ := C₉.keeps x₁₁
      clear C₉ x₁₁
      dsimp only
      repeat walk_at "ev"
      refine itemD (C₁₁.base _ _ (hB₇ _ _ (C₆.get_old hsa))) is (by rw [enc_get tx_inj']; exact gget_of hnd hxD) (fun tc' => ?_) (by walk_at "ty") (by walk_at "ty")
      obtain ⟨vals'', e1, e2⟩ := stored_strip vals' (reply (Rof k₀ ++ Lof k₀)) n₁ tc'
      refine ⟨_, _, rfl, Nat.le_trans hkl (by show _ ≤ 16777216; (first | lia | omega)), _, _, _, _, _, _, rfl, C₁₁, rfl, ⟨vals'', e1, ?_, by (first | lia | omega), ?_⟩, hcm₇⟩
      · rw [e2, hvs, enc_put reply_inj]
        unfold dend
        rw [foldl_snoc (fun acc x => gput acc (Rof x.1 ++ Lof x.1) x.2) [] hxi]
      · rw [e1, ← strip_len, e2]
        refine Nat.le_trans (dput_len _ _ _) ?_
        rw [strip_len]; (first | lia | omega)
    · rintro D₇ o₇ kvs h₇ tk₇ htk' C₇ fr₇ ho₇ ⟨vals', rfl, hvs, _, _⟩
      rw [hlen', List.take_length] at hvs
      exact hQ _ _ _ _ (fr₇.up fun b o e => C₆.base b o e) (fun b o e => C₇.base b o e) (C₇.get_old (by walk_at "mem")) ⟨vals', ho₇, hvs.symm⟩

end
-- part G13

section
variable {prog : Program} {w : World} {A : Around} {H₀ : Heap} {mg mb : Str → Option Value} {fa : Nat → Addr} {E : Value → Shared → Prop} {s : Shared}
/-- pairs of a length and a text -/
inductive sizesIn (olds : List (Addr × Obj)) : List Value → List (List Nat) → Prop
  | nil : sizesIn olds [] []
  | cons (T : Addr) (z : List Nat) (t u : Tok) {vs zs} : (T, tup [.int (z.length : Nat) t, .str (tx z) u]) ∈ olds → sizesIn olds vs zs → sizesIn olds (.ref T :: vs) (z :: zs)
theorem sizesIn.mono {o o' : List (Addr × Obj)} (k : ∀ p ∈ o, p ∈ o') {vs zs} (h : sizesIn o vs zs) : sizesIn o' vs zs := by
  induction h with
  | nil => exact .nil
  | cons T z t u hm _ ih => exact .cons T z t u (k _ hm) ih
theorem sizesIn.length {o : List (Addr × Obj)} {vs zs} (h : sizesIn o vs zs) : vs.length = zs.length := by induction h <;> simp_all
theorem sizesIn.at {o : List (Addr × Obj)} {vs zs} (h : sizesIn o vs zs) : ∀ {i : Nat} {v : Value}, vs[i]? = some v → ∃ T z t u, v = .ref T ∧ (T, tup [.int (z.length : Nat) t, .str (tx z) u]) ∈ o ∧ zs[i]? = some z := by
  induction h with
  | nil => intro i v e; simp at e
  | cons T z t u hm _ ih =>
    intro i v e
    cases i with
    | zero => exact ⟨T, z, t, u, (Option.some.inj e).symm, hm, rfl⟩
    | succ i => exact ih e
theorem sizesIn.snoc {o : List (Addr × Obj)} {vs zs} (h : sizesIn o vs zs) {T : Addr} {z : List Nat} {t u : Tok} (hm : (T, tup [.int (z.length : Nat) t, .str (tx z) u]) ∈ o) : sizesIn o (vs ++ [.ref T]) (zs ++ [z]) := by
  induction h with
  | nil => exact .cons T z t u hm .nil
  | cons T' z' t' u' hm' _ ih => exact .cons T' z' t' u' hm' ih
/-- lists of whole numbers -/
inductive rowsIn (olds : List (Addr × Obj)) : List Value → List (List Int) → Prop
  | nil : rowsIn olds [] []
  | cons (a : Addr) (ys : List Value) (ns : List Int) {vs M} : (a, lst ys) ∈ olds → IntsAre ys ns → rowsIn olds vs M → rowsIn olds (.ref a :: vs) (ns :: M)
theorem rowsIn.mono {o o' : List (Addr × Obj)} (k : ∀ p ∈ o, p ∈ o') {vs zs} (h : rowsIn o vs zs) : rowsIn o' vs zs := by
  induction h with
  | nil => exact .nil
  | cons a ys ns hm hi _ ih => exact .cons a ys ns (k _ hm) hi ih
theorem rowsIn.snoc {o : List (Addr × Obj)} {vs M} (h : rowsIn o vs M) {a : Addr} {ys : List Value} {ns : List Int} (hm : (a, lst ys) ∈ o) (hi : IntsAre ys ns) : rowsIn o (vs ++ [.ref a]) (M ++ [ns]) := by
  induction h with
  | nil => exact .cons a ys ns hm hi .nil
  | cons a' ys' ns' hm' hi' _ ih => exact .cons a' ys' ns' hm' hi' ih
theorem ints_snoc {vs : List Value} {ns : List Int} (h : IntsAre vs ns) (n : Int) (t : Tok) : IntsAre (vs ++ [.int n t]) (ns ++ [n]) := by
  induction h with
  | nil => exact .cons n t .nil
  | cons n' t' _ ih => exact .cons n' t' ih

abbrev oc21 : List Str := ["judge", "entries"]
set_option maxHeartbeats 8000000 in
theorem judged_spec {K : Frag} {C f g : Addr} (S : Stat mg mb fa H₀) (J : Judge K C f g H₀) (R : Room 2 A) (hs : Ex H₀ s.heap) {j l : Addr} {bs bt : Int} (hj : JudgeAt C s.heap j bs bt) {vs : List Value} {zs : List (List Nat)}
    (hl : s.heap.IsList l vs.toArray) (hvs : strsAre vs zs) (hzl : zs.length ≤ 1000) (hzz : ∀ z ∈ zs, z.length ≤ 1000)
    {Q : Value → Shared → Prop} (hQ : ∀ r h' tk' ys olds, Fresh s.heap r → Ex s.heap h' → (∀ p ∈ olds, h'.get? p.1 = some p.2) → h'.get? r = some (lst ys) → rowsIn olds ys (zs.map fun a => zs.map fun b => cmpJ bs bt (a.length : Nat) a (b.length : Nat) b) → Q (.ref r) { s with heap := h', toks := tk' }) :
    wpAny (model prog w) A (call (.ref (fa 21)) [.ref l, .ref j]) Q E s := by
  refine enter (oc := oc21) (binds := [("line", .ref l), ("judge", .ref j)]) S (S.fn 21 (by decide)) hs R.room (fun _ _ _ => rfl) (kinds_of rfl) ?_
  intro L cd h₁ tk k₁ C₁
  have hvl : vs.toArray.size = zs.length := by rw [List.size_toArray]; exact hvs.length
  walk_at "body"
  repeat walk_at "ev"
  refine eval_comp_list rfl ?_
  refine listComp0 (H₀ := H₀) (Base := fun b o => s.heap.get? b = some o) (oc := oc21) (ps := []) (qs := []) (by with_unfolding_all rfl) lk_nil rfl (by decide) (fun _ _ => rfl) (fun _ => rfl) ?_
  repeat walk_at "ev"
  refine ⟨_, _, [l], _, _, _, _, fun i ys olds' => sizesIn olds' ys (zs.take i), by rw [hvl]; show _ ≤ 16777216; (first | lia | omega), C₁, ?_, iter_list R.hh (IsList.ex k₁ hl), .nil, ?_, ?_⟩
  · intro b hb
    rw [List.mem_singleton.mp hb]
    obtain ⟨o, e, _⟩ := hl
    exact ⟨o, k₁ _ _ e⟩
  · rintro i v D ys L₂ olds₂ h₂ tk₂ Base₂ m₂ cm₂ ps₂ qs₂ hi htk hP hJ hB ho hcm hB2 C₂
    rw [List.getElem?_toArray] at hP
    obtain ⟨z, t, rfl, hz⟩ := hvs.at hP
    have hzm := hzz z (List.mem_of_getElem? hz)
    refine asL C₂ (fun h₃ C₃ => ?_) rfl rfl
    clear C₂
    show wpAny _ _ (pure true) _ _ _
    refine wpAny_pure (iteT rfl ?_)
    repeat walk_at "ev"
    refine P.len_str (by rw [tx_len]; (first | lia | omega)) ?_
    repeat walk_at "ev"
    dsimp only
    refine newTuple_C C₃ (fun T h₄ fr₄ x₄ C₄ => ?_) (by show 2 ≤ 16777216; decide)
    have hT0 : h₁.get? T = none := Ex.new (fun b o e => C₃.base b o (hB b o e)) fr₄.none
    refine ⟨_, _, _, _, _, _, rfl, C₄, rfl, ?_, ?_, hcm⟩
    · rw [List.take_add_one, hz, Option.toList_some]
      exact (hJ.mono fun p hp => List.mem_cons_of_mem _ hp).snoc (by rw [tx_len]; exact List.mem_cons_self)
    · intro p hp
      rcases List.mem_cons.mp hp with rfl | hp
      · exact .inr hT0
      · exact .inl hp
  · rintro D ys h₂ tk₂ olds₂ htk C₂ fr₂ hJ
    rw [hvl, List.take_length] at hJ
    have hyl : ys.toArray.size = zs.length := by rw [List.size_toArray]; exact hJ.length
    clear C₁
    show wpAny _ _ (storeName _ _ _) _ _ _
    dsimp only
    repeat walk_at "ev"
    rename_i h₃ C₃
    clear C₂
    refine eval_comp_list rfl ?_
    refine listComp1 (x := "left") (H₀ := H₀) (Base := fun b o => s.heap.get? b = some o) (oc := oc21) (ps := []) (qs := []) (by with_unfolding_all rfl) (lk_cons (by with_unfolding_all rfl) (lk_one (by with_unfolding_all rfl))) rfl (by decide) (fun _ _ => rfl) (fun _ => rfl) ?_
    repeat walk_at "ev"
    have memD : (D, lst ys) ∈ olds₂ ++ (D, lst ys) :: [] := List.mem_append_right _ List.mem_cons_self
    have hD₃ : h₃.get? D = some (lst ys) := C₃.get_old memD
    have hJ₃ : ∀ {p}, p ∈ olds₂ → h₃.get? p.1 = some p.2 := fun hp => C₃.get_old (List.mem_append_left _ hp)
    refine ⟨_, _, [D], _, _, _, _, fun i ys' olds' => rowsIn olds' ys' ((zs.take i).map fun a => zs.map fun b => cmpJ bs bt (a.length : Nat) a (b.length : Nat) b), by rw [hyl]; show _ ≤ 16777216; (first | lia | omega), C₃, ?_, iter_list R.hh (lst_is hD₃), .nil, ?_, ?_⟩
    · intro b hb
      rw [List.mem_singleton.mp hb]
      exact ⟨_, hD₃⟩
    · rintro i v D₄ ys₄ L₄ c₄ olds₄ h₄ tk₄ Base₄ m₄ cm₄ ps₄ qs₄ hi htk' hP hJ₄ hB ho hcm hB2 C₄
      rw [List.getElem?_toArray] at hP
      obtain ⟨T, z, t, u, rfl, hT, hz⟩ := hJ.at hP
      have hce : cm₄ "entries" = some (.ref D) := (hcm _ (by decide)).trans (by walk_at "lk")
      have hcj : cm₄ "judge" = some (.ref j) := (hcm _ (by decide)).trans (by walk_at "lk")
      refine asC C₄ (fun h₅ C₅ => ?_) (by decide) (by with_unfolding_all rfl) rfl (by with_unfolding_all rfl)
      have k₅ : Ex h₃ h₅ := fun b o e => C₅.base b o (hB b o e)
      clear C₄
      show wpAny _ _ (pure true) _ _ _
      refine wpAny_pure (iteT rfl ?_)
      refine eval_comp_list rfl ?_
      refine listComp0 (H₀ := H₀) (Base := Base₄) (oc := ["left"]) (ps := ps₄) (qs := qs₄) (by with_unfolding_all rfl) (lk_cons (by with_unfolding_all rfl) (lk_one (by with_unfolding_all rfl))) rfl (by decide) (fun _ _ => rfl) (fun _ => rfl) ?_
      refine nmC C₅ ((if_neg (by decide)).trans hce) ?_ (by with_unfolding_all rfl) rfl (by with_unfolding_all rfl) (by decide)
      have hbase : ∀ {b o}, h₃.get? b = some o → h₅.get? b = some o := fun e => k₅ _ _ e
      refine ⟨_, _, [D], _, _, _, _, fun k ys' olds' => olds' = [] ∧ IntsAre ys' ((zs.take k).map fun b => cmpJ bs bt (z.length : Nat) z (b.length : Nat) b), by rw [hyl]; show _ ≤ 16777216; (first | lia | omega), C₅, ?_, iter_list R.hh (lst_is (hbase hD₃)), ⟨rfl, .nil⟩, ?_, ?_⟩
      · intro b hb
        rw [List.mem_singleton.mp hb]
        exact ⟨_, hbase hD₃⟩
      · rintro k v₆ D₆ ys₆ L₆ olds₆ h₆ tk₆ Base₆ m₆ cm₆ ps₆ qs₆ hk htk'' hP₆ ⟨rfl, hJ₆⟩ hB₆ ho₆ hcm₆ hB2₆ C₆
        rw [List.getElem?_toArray] at hP₆
        obtain ⟨T₂, z₂, t₂, u₂, rfl, hT₂, hz₂⟩ := hJ.at hP₆
        have hcj₆ : cm₆ "judge" = some (.ref j) := (hcm₆ _).trans ((if_neg (by decide)).trans hcj)
        have hcl₆ : cm₆ "left" = some (.ref T) := (hcm₆ _).trans (if_pos rfl)
        refine asL C₆ (fun h₇ C₇ => ?_) rfl rfl
        have k₇ : Ex h₃ h₇ := fun b o e => C₇.base b o (hB₆ b o (hbase e))
        clear C₆
        show wpAny _ _ (pure true) _ _ _
        refine wpAny_pure (iteT rfl ?_)
        have hj₇ : JudgeAt C h₇ j bs bt := hj.ex (Ex.trans (fun b o e => C₃.base b o e) k₇)
        repeat walk_at "ev"
        refine gm_judge J (J.X.keeps C₇.hTop) hj₇ ?_
        refine callWith_K J.X J.kf ?_ (by walk_at "ty") (by walk_at "ty")
        repeat walk_at "ev"
        refine ⟨J.X.keeps C₇.hTop, ?_⟩
        refine compare_spec S J (R.deeper.le (by decide)) C₇.hTop hj₇ (tup_is (k₇ _ _ (hJ₃ hT))) (tup_is (k₇ _ _ (hJ₃ hT₂))) fun h₈ tk₈ t₈ x₈ => ?_
        have C₈ := C₇.keeps x₈
        refine ⟨_, _, _, _, _, _, rfl, C₈, rfl, ⟨rfl, ?_⟩, fun p hp => (nomatch hp), hcm₆⟩
        rw [List.take_add_one, hz₂, Option.toList_some, List.map_append]
        exact ints_snoc hJ₆ _ _
      · rintro D₆ ys₆ h₆ tk₆ olds₆ htk'' C₆ fr₆ ⟨rfl, hJ₆⟩
        rw [hyl, List.take_length] at hJ₆
        have hT0 : h₃.get? D₆ = none := k₅.new fr₆.none
        refine ⟨_, _, _, _, _, _, rfl, C₆, rfl, ?_, ?_, ?_⟩
        · show rowsIn _ _ ((zs.take (i + 1)).map fun a => zs.map fun b => cmpJ bs bt (a.length : Nat) a (b.length : Nat) b)
          rw [List.take_add_one, hz, Option.toList_some, List.map_append]
          exact (hJ₄.mono fun p hp => List.mem_cons_of_mem _ hp).snoc List.mem_cons_self hJ₆
        · intro p hp
          rcases List.mem_cons.mp hp with rfl | hp
          · exact .inr hT0
          · exact .inl hp
        · intro n hn
          exact (if_neg hn).trans (hcm n hn)
    · rintro D₄ ys₄ h₄ tk₄ olds₄ htk' C₄ fr₄ hJ₄
      rw [hyl, List.take_length] at hJ₄
      exact hQ _ _ _ _ olds₄ (fr₄.up fun b o e => C₃.base b o e) (fun b o e => C₄.base b o e) (fun p hp => C₄.get_old (List.mem_append_left _ hp)) (C₄.get_old (List.mem_append_right _ List.mem_cons_self)) hJ₄

end
-- part G14

section
variable {prog : Program} {w : World} {A : Around} {H₀ : Heap} {mg mb : Str → Option Value} {fa : Nat → Addr} {E : Value → Shared → Prop} {s : Shared}
def delta (x : Int) : Int := if 0 ≤ x then x.fmod 1000000 else -((-x).fmod 1000000)
def drawsTo (ns : List Int) : Nat → List Int
  | 0 => [0, 2, 1, 3, 1, 2, 3, 1]
  | i + 1 => (drawsTo ns i).set (i % 8) ((drawsTo ns i).getD (i % 8) 0 + delta (ns.getD i 0))
theorem drawsTo_len (ns : List Int) : ∀ i, (drawsTo ns i).length = 8
  | 0 => rfl
  | i + 1 => by rw [drawsTo, List.length_set, drawsTo_len ns i]
theorem ints_at {vs : List Value} {ns : List Int} (h : IntsAre vs ns) : ∀ {i : Nat} {v : Value}, vs[i]? = some v → ∃ n t, v = .int n t ∧ ns[i]? = some n := by
  induction h with
  | nil => intro i v e; simp at e
  | cons n t _ ih =>
    intro i v e
    cases i with
    | zero => exact ⟨n, t, (Option.some.inj e).symm, rfl⟩
    | succ i => exact ih e
theorem ints_len {vs : List Value} {ns : List Int} (h : IntsAre vs ns) : vs.length = ns.length := by induction h <;> simp_all
theorem ints_take {vs : List Value} {ns : List Int} (h : IntsAre vs ns) : ∀ k, IntsAre (vs.take k) (ns.take k) := by
  induction h with
  | nil => intro k; simp; exact .nil
  | cons n t _ ih =>
    intro k
    cases k with
    | zero => exact .nil
    | succ k => exact .cons n t (ih k)
theorem ints_set {vs : List Value} {ns : List Int} (h : IntsAre vs ns) (x : Int) (u : Tok) : ∀ k, IntsAre (vs.set k (.int x u)) (ns.set k x) := by
  induction h with
  | nil => intro k; exact .nil
  | cons n t hr ih =>
    intro k
    cases k with
    | zero => exact .cons x u hr
    | succ k => exact .cons n t (ih k)

set_option maxHeartbeats 8000000 in
theorem draws_spec (S : Stat mg mb fa H₀) (R : Room 1 A) (hs : Ex H₀ s.heap) {l : Addr} {vs : List Value} {ns : List Int} (hl : s.heap.IsList l vs.toArray) (hi : IntsAre vs ns) (hn : ns.length ≤ 1000)
    {Q : Value → Shared → Prop} (hQ : ∀ r h' tk' o ys, Fresh s.heap r → Ex s.heap h' → h'.get? r = some o → IsLO o ys → IntsAre ys (drawsTo ns (min 60 ns.length)) → Q (.ref r) { s with heap := h', toks := tk' }) :
    wpAny (model prog w) A (call (.ref (fa 16)) [.ref l]) Q E s := by
  refine enter (oc := []) (binds := [("script", .ref l)]) S (S.fn 16 (by decide)) hs R.room (fun _ _ _ => rfl) (kinds_of rfl) ?_
  intro L cd h₁ tk k₁ C₁
  have hvn := ints_len hi
  walk_at "body"
  repeat walk_at "ev"
  refine newListN_C C₁ (fun D h₂ fr₂ x₂ C₂ => ?_) (by show 8 ≤ 16777216; decide)
  clear C₁
  dsimp only at fr₂ x₂ C₂ ⊢
  repeat walk_at "ev"
  rename_i h₃ C₃
  clear C₂
  refine For_C C₃ ?_
  repeat walk_at "ev"
  have hl₃ : h₃.IsList l vs.toArray := IsList.ex (fun b o e => C₃.base b o e) hl
  refine sliceL_C (b := 60) C₃ hl₃ (by (first | lia | omega)) (fun DS h₄ fr₄ x₄ C₄ => ?_) (by with_unfolding_all rfl) (by intro _; with_unfolding_all rfl)
  clear C₃ x₄
  dsimp only
  repeat walk_at "ev"
  have hDS : h₄.IsList DS (vs.take 60).toArray := ⟨_, C₄.get_old (by walk_at "mem"), rfl, _, rfl⟩
  refine enum_C (by exact R.hh) hDS fun xv s₁ htk₁ hit => ?_
  have hsz : (vs.take 60).toArray.size = min 60 ns.length := by rw [List.size_toArray, List.length_take, hvn]
  have hi60 := ints_take hi 60
  refine ⟨_, _, _, [DS], _, _, _, _, fun i m' _ _ news' => m' "draws" = some (.ref D) ∧ ∃ o ys, news' = [(D, o)] ∧ IsLO o ys ∧ IntsAre ys (drawsTo ns i), htk₁, C₄, ?_, hit _ _ _, ⟨by walk_at "lk", _, _, rfl, ⟨rfl, _, rfl⟩, .cons _ _ (.cons _ _ (.cons _ _ (.cons _ _ (.cons _ _ (.cons _ _ (.cons _ _ (.cons _ _ .nil)))))))⟩, ?_, ?_⟩
  · intro b hb
    rw [List.mem_singleton.mp hb]
    exact (C₄.oldOff (DS, _) (by walk_at "mem")).2
  · rintro i v m₅ cm₅ olds₅ news₅ h₅ tk₅ Base₅ ps₅ qs₅ hi' htk ⟨T, t, y, rfl, hy, hT⟩ ⟨hd, o, ys, rfl, ilo, iys⟩ hB hB2 C₅
    rw [List.getElem?_toArray] at hy
    obtain ⟨x, tx', rfl, hx⟩ := ints_at hi60 hy
    have hx' : ns.getD i 0 = x := by
      rw [List.getElem?_take] at hx
      by_cases h60 : i < 60
      · rw [if_pos h60] at hx; rw [List.getD_eq_getElem?_getD, hx]; rfl
      · rw [if_neg h60] at hx; cases hx
    have hyl : ys.length = 8 := by rw [ints_len iys, drawsTo_len]
    refine asT2 R.hh C₅ hT (fun h₆ C₆ => ?_) rfl rfl rfl
    clear C₅
    repeat walk_at "ev"
    have hp6 : ((10 : Int) ^ ((6 : Int).toNat)) = 1000000 := rfl
    have him : ((i : Int).fmod 8) = ((i % 8 : Nat) : Int) := by rw [Int.fmod_eq_emod_of_nonneg _ (by decide)]; (first | lia | omega)
    have hget : ys[i % 8]? = some (ys[i % 8]'(by (first | lia | omega))) := List.getElem?_eq_getElem _
    obtain ⟨d, td, hyd, hdn⟩ := ints_at iys hget
    have hdn' : (drawsTo ns i).getD (i % 8) 0 = d := by rw [List.getD_eq_getElem?_getD, hdn]; rfl
    have hstep : ∀ y ty, y = d + delta x → IntsAre (ys.set (i % 8) (.int y ty)) (drawsTo ns (i + 1)) := by
      intro y ty hy'
      show IntsAre _ ((drawsTo ns i).set (i % 8) ((drawsTo ns i).getD (i % 8) 0 + delta (ns.getD i 0)))
      rw [hdn', hx', ← hy']
      exact ints_set iys _ _ _
    by_cases hx0 : x ≥ 0
    · refine iteT (decide_eq_true hx0) ?_
      repeat walk_at "ev"
      refine mod_int' (by decide) ?_
      rw [him]
      refine wpAny_getItem_list (x := .int d td) (ilo.list (C₆.get_new (by walk_at "mem"))) (Int.natCast_nonneg _) (by (first | lia | omega)) (by rw [Int.toNat_natCast, List.getElem?_toArray, hget, hyd]) ?_
      repeat walk_at "ev"
      refine pow_int (by decide) (by decide) ?_
      rw [hp6]
      refine mod_int' (by decide) ?_
      repeat walk_at "ev"
      dsimp only
      refine setL_C (l₁ := []) C₆ ilo (by (first | lia | omega)) (by (first | lia | omega)) fun h₇ o₇ C₇ ilo₇ => ?_
      repeat walk_at "ev"
      exact ⟨_, _, _, _, _, _, rfl, C₇, by walk_at "lk", _, _, rfl, ilo₇, hstep _ _ (by unfold delta; rw [if_pos hx0])⟩
    · refine iteF (decide_eq_false hx0) ?_
      repeat walk_at "ev"
      refine mod_int' (by decide) ?_
      rw [him]
      refine wpAny_getItem_list (x := .int d td) (ilo.list (C₆.get_new (by walk_at "mem"))) (Int.natCast_nonneg _) (by (first | lia | omega)) (by rw [Int.toNat_natCast, List.getElem?_toArray, hget, hyd]) ?_
      repeat walk_at "ev"
      refine pow_int (by decide) (by decide) ?_
      rw [hp6]
      refine mod_int' (by decide) ?_
      repeat walk_at "ev"
      dsimp only
      refine setL_C (l₁ := []) C₆ ilo (by (first | lia | omega)) (by (first | lia | omega)) fun h₇ o₇ C₇ ilo₇ => ?_
      repeat walk_at "ev"
      exact ⟨_, _, _, _, _, _, rfl, C₇, by walk_at "lk", _, _, rfl, ilo₇, hstep _ _ (by unfold delta; rw [if_neg hx0]; rfl)⟩
  · rintro h₅ tk₅ m₅ cm₅ olds₅ news₅ htk C₅ ⟨hd, o, ys, rfl, ilo, iys⟩
    rw [hsz] at iys
    dsimp only
    repeat walk_at "ev"
    exact hQ _ _ _ _ _ (fr₂.up k₁) (fun b o e => C₅.base b o e) (C₅.get_new (by walk_at "mem")) ilo iys

end
-- part G15

section
variable {prog : Program} {w : World} {A : Around} {H₀ : Heap} {mg mb : Str → Option Value} {fa : Nat → Addr} {E : Value → Shared → Prop} {s : Shared}
theorem strs_of {vs : List Value} {zs : List (List Nat)} (h : strsAre vs zs) : StrsAre vs (zs.map tx) := by
  induction h with
  | nil => exact .nil
  | cons w t _ ih => exact .cons _ t ih
theorem of_strs {vs : List Value} {ss : List Str} (h : StrsAre vs ss) : strsAre vs (ss.map fun x => x.cps.toList) := by
  induction h with
  | nil => exact .nil
  | cons y t _ ih => exact .cons y.cps.toList t ih
def marksOf (bs bt : Int) (ts : List (List Nat)) (n : Nat) : List (Int × Int) := (List.range n).map fun k => (((ts.getD k []).length : Int) * bs, (k : Int) * bt)
abbrev oc20 : List Str := ["by_size", "by_text", "texts"]

set_option maxHeartbeats 8000000 in
theorem line_spec (S : Stat mg mb fa H₀) (R : Room 2 A) (hs : Ex H₀ s.heap) {l : Addr} {vs : List Value} {zs : List (List Nat)} {bs bt : Int} {u₁ u₂ : Tok} (hl : s.heap.IsList l vs.toArray) (hvs : strsAre vs zs) (h1 : 1 ≤ zs.length) (h64 : zs.length < 64)
    (hzz : ∀ z ∈ zs, z.length ≤ 1000) (hbs : bs = 1 ∨ bs = -1) (hbt : bt = 1 ∨ bt = -1)
    {Q : Value → Shared → Prop} (hQ : ∀ r h' tk' ys ts q, (∀ b o, s.heap.get? b = some o → h'.get? b = some o) → Fresh s.heap r → h'.get? r = some (lst ys) → strsAre ys (q.toList.map fun i => ts.getD i []) → ts.Perm zs → sortedS (ts.map tx) = true → Arr zs.length q → Up (markLt (marksOf bs bt ts zs.length)) q zs.length → Q (.ref r) { s with heap := h', toks := tk' }) :
    wpAny (model prog w) A (call (.ref (fa 20)) [.ref l, .int bs u₁, .int bt u₂]) Q E s := by
  have hvl := hvs.length
  refine enter (oc := oc20) (binds := [("replies", .ref l), ("by_size", .int bs u₁), ("by_text", .int bt u₂)]) S (S.fn 20 (by decide)) hs R.room (fun _ _ _ => rfl) (kinds_of rfl) ?_
  intro L cd h₁ tk k₁ C₁
  walk_at "body"
  repeat walk_at "ev"
  refine sortS_C C₁ (IsList.ex k₁ hl) (strs_of hvs) (by (first | lia | omega)) fun tx_ h₂ vs' ss' c C₂ hs' hp hsorted => ?_
  have hts := of_strs hs'
  generalize hgt : (ss'.map fun x => x.cps.toList) = ts at hts
  have hss : ss' = ts.map tx := by rw [← hgt, List.map_map]; exact (List.map_id' _).symm
  rw [hss] at hp hsorted
  have hpz : ts.Perm zs := by
    have := hp.map fun x : Str => x.cps.toList
    rw [List.map_map, List.map_map] at this
    have hid : ((fun x : Str => x.cps.toList) ∘ tx) = id := rfl
    rw [hid, List.map_id, List.map_id] at this
    exact this
  have htl : ts.length = zs.length := hpz.length_eq
  have hvl' : vs'.length = zs.length := by rw [hts.length, htl]
  have htz : ∀ z ∈ ts, z.length ≤ 1000 := fun z hz => hzz z (hpz.mem_iff.mp hz)
  clear C₁
  dsimp only
  repeat walk_at "ev"
  rename_i h₃ C₃
  clear C₂
  have hT₃ : (tx_, ({ cls := .type "list", data := .seq (List.toArray vs') c } : Obj)) ∈ [(tx_, ({ cls := .type "list", data := .seq (List.toArray vs') c } : Obj))] := List.mem_cons_self
  have htexts : ∀ {h : Heap}, Ex h₃ h → h.IsList tx_ vs'.toArray := fun k => ⟨_, k _ _ (C₃.get_old hT₃), rfl, _, rfl⟩
  have at' : ∀ i, i < zs.length → ∃ t, vs'[i]? = some (.str (tx (ts.getD i [])) t) ∧ (ts.getD i []).length ≤ 1000 := fun i hi => by
    have e : ts[i]? = some (ts.getD i []) := by rw [List.getD_eq_getElem?_getD, List.getElem?_eq_getElem (by (first | lia | omega))]; rfl
    obtain ⟨t, ht⟩ := hts.at' e
    exact ⟨t, ht, htz _ (List.mem_of_getElem? e)⟩
  have bits : ∀ b : Int, (b = 1 ∨ b = -1) → Builtin.Int.intBits b ≤ 64 := fun b hb => by rcases hb with rfl | rfl <;> decide
  refine eval_comp_list rfl ?_
  refine listComp0 (H₀ := H₀) (Base := fun b o => s.heap.get? b = some o) (oc := oc20) (ps := []) (qs := []) (by with_unfolding_all rfl) (lk_cons (by with_unfolding_all rfl) (lk_cons (by with_unfolding_all rfl) (lk_one (by with_unfolding_all rfl)))) rfl (by decide) (fun _ _ => rfl) (fun _ => rfl) ?_
  repeat walk_at "ev"
  refine len_list (htexts Ex.rfl) (by rw [List.size_toArray]; (first | lia | omega)) ?_
  repeat walk_at "ev"
  rw [List.size_toArray, hvl']
  refine range_C (by exact R.hh) (by (first | lia | omega)) fun xv s₁ hs₁ hit => ?_
  obtain ⟨h₄, tk₄, rfl, k₄⟩ := hs₁
  have C₄ := C₃.keeps k₄
  clear k₁
  refine ⟨_, _, [], _, _, _, _, fun i ys olds' => marksIn olds' ys ((marksOf bs bt ts zs.length).take i) ∧ i ≤ zs.length, by show _ ≤ 16777216; (first | lia | omega), C₄, fun b hb => (nomatch hb), hit _ _, ⟨.nil, Nat.zero_le _⟩, ?_, ?_⟩
  · rintro i v D ys L₅ olds₅ h₅ tk₅ Base₅ m₅ cm₅ ps₅ qs₅ hi htk ⟨ti, rfl⟩ ⟨hJ, hi'⟩ hB ho hcm hB2 C₅
    have hct : cm₅ "texts" = some (.ref tx_) := (hcm _).trans (by walk_at "lk")
    have hcs : cm₅ "by_size" = some (.int bs u₁) := (hcm _).trans (by walk_at "lk")
    have hcb : cm₅ "by_text" = some (.int bt u₂) := (hcm _).trans (by walk_at "lk")
    obtain ⟨t, ht, hl5⟩ := at' i hi
    refine asL C₅ (fun h₆ C₆ => ?_) rfl rfl
    have k₆ : Ex h₃ h₆ := fun b o e => C₆.base b o (hB b o (k₄ b o e))
    clear C₅
    show wpAny _ _ (pure true) _ _ _
    refine wpAny_pure (iteT rfl ?_)
    repeat walk_at "ev"
    refine item_list (x := .str (tx (ts.getD i [])) t) (htexts k₆) (Int.natCast_nonneg _) (by (first | lia | omega)) (by rw [Int.toNat_natCast, List.getElem?_toArray]; exact ht) ?_ (by walk_at "ty") (by walk_at "ty")
    repeat walk_at "ev"
    refine P.len_str (by rw [tx_len]; (first | lia | omega)) ?_
    repeat walk_at "ev"
    refine mul_int ?_ (IntMulOk.of_right (bits bs hbs))
    repeat walk_at "ev"
    refine mul_int ?_ (IntMulOk.of_right (bits bt hbt))
    repeat walk_at "ev"
    rw [tx_len]
    dsimp only
    refine newTuple_C C₆ (fun T h₇ fr₇ x₇ C₇ => ?_) (by show 2 ≤ 16777216; decide)
    have hT0 : h₄.get? T = none := Ex.new (fun b o e => C₆.base b o (hB b o e)) fr₇.none
    refine ⟨_, _, _, _, _, _, rfl, C₇, rfl, ⟨?_, hi⟩, ?_, hcm⟩
    · have e : (marksOf bs bt ts zs.length)[i]? = some (((ts.getD i []).length : Int) * bs, (i : Int) * bt) := by
        unfold marksOf; rw [List.getElem?_map, List.getElem?_range hi]; rfl
      rw [List.take_add_one, e, Option.toList_some]
      exact (hJ.mono fun p hp => List.mem_cons_of_mem _ hp).snoc List.mem_cons_self
    · intro p hp
      rcases List.mem_cons.mp hp with rfl | hp
      · exact .inr hT0
      · exact .inl hp
  · rintro D ys h₅ tk₅ olds₅ htk C₅ fr₅ ⟨hJ, _⟩
    have hml : (marksOf bs bt ts zs.length).length = zs.length := by unfold marksOf; rw [List.length_map, List.length_range]
    rw [List.take_of_length_le (Nat.le_of_eq hml)] at hJ
    have hyl : ys.length = zs.length := by rw [hJ.length, hml]
    show wpAny _ _ _ _ _ _
    dsimp only
    repeat walk_at "ev"
    have hmj : marksIn (olds₅ ++ (D, lst ys) :: [(tx_, ({ cls := .type "list", data := .seq (List.toArray vs') c } : Obj))]) ys (marksOf bs bt ts zs.length) := hJ.mono fun p hp => List.mem_append_left _ hp
    have hget : ∀ i, i < zs.length → (marksOf bs bt ts zs.length).getD i (0, 0) = (((ts.getD i []).length : Int) * bs, (i : Int) * bt) := fun i hi => by
      unfold marksOf; rw [List.getD_eq_getElem?_getD, List.getElem?_map, List.getElem?_range hi]; rfl
    refine sortM_C C₅ (List.mem_append_right _ List.mem_cons_self) hmj (by (first | lia | omega)) (by (first | lia | omega)) (fun i j hi hj e => ?_) fun D₆ h₆ q c₆ hq hup C₆ => ?_
    · rw [hml] at hi hj
      rw [hget i hi, hget j hj] at e
      have e2 : (i : Int) * bt = (j : Int) * bt := (Prod.mk.inj e).2
      rcases hbt with rfl | rfl <;> (first | lia | omega)
    · rw [hml] at hq hup
      clear C₅
      repeat walk_at "ev"
      rename_i h₇ C₇
      clear C₆
      refine eval_comp_list rfl ?_
      refine listComp0 (H₀ := H₀) (Base := fun b o => s.heap.get? b = some o) (oc := oc20) (ps := []) (qs := []) (by with_unfolding_all rfl) (lk_one (by with_unfolding_all rfl)) rfl (by decide) (fun _ _ => rfl) (fun _ => rfl) ?_
      repeat walk_at "ev"
      have hql : q.toList.length = zs.length := by rw [Array.length_toList]; exact hq.size
      have hD₇ := C₇.get_old (a := D₆) List.mem_cons_self
      have hT₇ : h₇.get? tx_ = some ({ cls := .type "list", data := .seq (List.toArray vs') c } : Obj) := C₇.get_old (List.mem_cons_of_mem _ (List.mem_append_right _ (List.mem_cons_of_mem _ List.mem_cons_self)))
      have hM₇ : ∀ p ∈ olds₅, h₇.get? p.1 = some p.2 := fun p hp => C₇.get_old (List.mem_cons_of_mem _ (List.mem_append_left _ hp))
      have hsz : (List.toArray (q.toList.map fun i => ys.getD i Value.none)).size = zs.length := by rw [List.size_toArray, List.length_map]; exact hql
      refine ⟨_, _, [D₆], _, _, _, _, fun i ys' olds' => olds' = [] ∧ strsAre ys' ((q.toList.map fun i => ts.getD i []).take i), by rw [hsz]; show _ ≤ 16777216; (first | lia | omega), C₇, ?_, iter_list R.hh ⟨_, hD₇, rfl, _, rfl⟩, ⟨rfl, .nil⟩, ?_, ?_⟩
      · intro b hb
        rw [List.mem_singleton.mp hb]
        exact ⟨_, hD₇⟩
      · rintro i v D₈ ys₈ L₈ olds₈ h₈ tk₈ Base₈ m₈ cm₈ ps₈ qs₈ hi htk' hP ⟨rfl, hJ₈⟩ hB ho hcm hB2 C₈
        rw [hsz] at hi
        rw [List.getElem?_toArray, List.getElem?_map] at hP
        have hqi : q.toList[i]? = some (q.toList[i]'(by (first | lia | omega))) := List.getElem?_eq_getElem _
        generalize hqv : q.toList[i]'(by (first | lia | omega)) = qi at hqi
        rw [hqi] at hP
        have hqlt : qi < zs.length := by
          have := hq.lt i hi
          have e : q.getD i 0 = qi := getD_of (by rw [← Array.getElem?_toList]; exact hqi)
          rw [e] at this; exact this
        have hv : v = ys.getD qi Value.none := (Option.some.inj hP).symm
        obtain ⟨T, a, b, ta, tb, hv', hTm, hms⟩ := hJ.at (List.getElem?_eq_getElem (by (first | lia | omega) : qi < ys.length))
        have hvT : v = .ref T := by rw [hv, List.getD_eq_getElem?_getD, List.getElem?_eq_getElem (by (first | lia | omega) : qi < ys.length), hv']; rfl
        subst hvT
        have hab : (a, b) = (((ts.getD qi []).length : Int) * bs, (qi : Int) * bt) := by
          have := hget qi hqlt
          rw [List.getD_eq_getElem?_getD, hms] at this
          exact this
        have hb : b = (qi : Int) * bt := (Prod.mk.inj hab).2
        have hct : cm₈ "texts" = some (.ref tx_) := (hcm _).trans (by walk_at "lk")
        obtain ⟨t, ht, hl5⟩ := at' qi hqlt
        refine asT2 R.hh C₈ (tup_is (C₈.base _ _ (hB _ _ (hM₇ _ hTm)))) (fun h₉ C₉ => ?_) rfl rfl rfl
        have k₉ : Ex h₇ h₉ := fun b o e => C₉.base b o (hB b o e)
        clear C₈
        show wpAny _ _ (pure true) _ _ _
        refine wpAny_pure (iteT rfl ?_)
        repeat walk_at "ev"
        refine call_abs_int fun ua tka => ?_
        have habs : (if b < 0 then -b else b) = (qi : Int) := by rw [hb]; rcases hbt with rfl | rfl <;> (split <;> (first | lia | omega))
        rw [habs]
        repeat walk_at "ev"
        refine item_list (x := .str (tx (ts.getD qi [])) t) ⟨_, k₉ _ _ hT₇, rfl, _, rfl⟩ (Int.natCast_nonneg _) (by (first | lia | omega)) (by rw [Int.toNat_natCast, List.getElem?_toArray]; exact ht) ?_ (by walk_at "ty") (by walk_at "ty")
        refine ⟨_, _, _, _, _, _, rfl, C₉, rfl, ⟨rfl, ?_⟩, fun p hp => (nomatch hp), hcm⟩
        have e : (q.toList.map fun i => ts.getD i [])[i]? = some (ts.getD qi []) := by rw [List.getElem?_map, hqi]; rfl
        rw [List.take_add_one, e, Option.toList_some]
        exact hJ₈.snoc _ _
      · rintro D₈ ys₈ h₈ tk₈ olds₈ htk' C₈ fr₈ ⟨rfl, hJ₈⟩
        rw [hsz, List.take_of_length_le (by rw [List.length_map]; (first | lia | omega))] at hJ₈
        exact hQ _ _ _ ys₈ ts q (fun b o e => C₈.base b o e) (fr₈.up fun b o e => C₇.base b o e) (C₈.get_old List.mem_cons_self) hJ₈ hpz hsorted hq hup

end
-- part G16

section
variable {prog : Program} {w : World} {A : Around} {H₀ : Heap} {mg mb : Str → Option Value} {fa : Nat → Addr} {E : Value → Shared → Prop} {s : Shared}
structure Maker (K : Frag) (C g : Addr) (H : Heap) (mg : Str → Option Value) : Prop where
  nm : mg "TupleComp" = some (.ref C)
  mkk : makesIn K C = true
  ini : findIn K (.ref C) "__init__" = some (some (.ref g))
  tg : typeIn K (.ref g) = some (.type "function")
  set : findIn K (.ref C) "__setattr__" = some (some (.builtin "object.__setattr__"))
  pl : plainOver K C = true
  tk : takerIn K C "comp_select_list" = some none
  kc : keepIn K (.ref C) = true
  m0 : MethAt H (cFn 0) "TupleComp.__init__" g

theorem enterMc {d : Stmt} {qn : Str} {a : Addr} {args : List Value} {binds : List (Str × Value)} {R : Result → Shared → Prop} (S : Stat mg mb fa H₀) (hf : MethAt H₀ d qn a) (hs : Ex H₀ s.heap) (hroom : A.depth < recursionLimit)
    (hbind : ∀ pm cd doc, bindArgs (mFd d qn pm cd doc) ⟨args, []⟩ = pure binds)
    (hcell : ∀ x ∈ (dScope d).names, x.2 ≠ .cell) (hloc : ∀ x ∈ binds, (dScope d).names.lookup x.1 = some .local)
    (h : ∀ L pm cd doc h₁ tk, s.heap.get? L = none → Ex s.heap h₁ → Cx H₀ (fun b o => s.heap.get? b = some o) (callEnv (mFd d qn pm cd doc) L a) [] [] [] (fun x => binds.reverse.lookup x) (fun _ => none) [] [] h₁ →
      wpAny (model prog w) (A.deeper (callEnv (mFd d qn pm cd doc) L a)) (execs (dBody d) (callEnv (mFd d qn pm cd doc) L a)) (fun f s' => R (.ok (.ret (match f with | .ret v => v | _ => .none))) s') No { s with heap := h₁, toks := tk })
    (hco : (dScope d).isCoroutine = false := by rfl) (hgen : (dScope d).isGenerator = false := by rfl) (hk : (dScope d).kind = .function := by rfl) :
    codeAny (model prog w) A (.call (.ref a) ⟨args, []⟩) R s := by
  obtain ⟨o, pm, cd, doc, h2, h3, h4⟩ := hf
  refine codeAny_call_def (fd := (mFd d qn pm cd doc)) (body := dBody d) (binds := binds) hroom (hs _ _ h2) h3 (S.nolimit.keeps hs) (h4.keeps hs) rfl (BindsTo.of_eq (hbind pm cd doc)) hcell hloc (fun h₀ hns hk₁ => ?_) hco hgen hk
  exact wpAny_mono (h _ pm cd doc h₀ _ (next_none _) hk₁ ⟨fun b o e => hs b o e, hns, hk₁, fun o e => absurd (Heap.lt_size e) (Nat.lt_irrefl _), fun n c e => (nomatch e), fun n c e => (nomatch e), fun n c n' e => (nomatch e), fun n c _ e => (nomatch e),
      fun p hp => (nomatch hp), fun p hp => (nomatch hp), fun p hp => (nomatch hp), List.nodup_nil, fun b hb => (nomatch hb), fun b hb => (nomatch hb)⟩) (fun f s' hq => hq) fun _ _ e => e.elim

set_option maxHeartbeats 8000000 in
theorem make_judge {K : Frag} {C f g : Addr} (S : Stat mg mb fa H₀) (J : Judge K C f g H₀) (M : Maker K C g H₀ mg) (R : Room 2 A) (hs : Ex H₀ s.heap) {l T₀ T₁ : Addr} {bs bt : Int} {t₀ t₁ t₂ t₃ : Tok}
    (hl : s.heap.IsList l #[.ref T₀, .ref T₁]) (hT₀ : s.heap.IsTuple T₀ #[.int 0 t₀, .int bs t₁]) (hT₁ : s.heap.IsTuple T₁ #[.int 1 t₂, .int bt t₃])
    {Q : Value → Shared → Prop} (hQ : ∀ x dx es n h' tk', s.heap.get? x = none → s.heap.get? dx = none → Ex s.heap h' → h'.get? x = some (instObj C dx) → h'.get? dx = some (dictOf es n) → getL "comp_select_list" es = some (some (.ref l)) → getL "compare" es = some none → Q (.ref x) { s with heap := h', toks := tk' }) :
    wpAny (model prog w) A (call (.ref C) [.ref l]) Q E s := by
  refine wpAny_call ?_
  obtain ⟨hh, gg, dd, tt, os⟩ := s
  have X : K.In hh := J.X.keeps hs
  refine make_core (makes_of X M.mkk) (looks_findIn X M.ini) (fun self => bind_fn X self M.tg) (.inl rfl) ?_
  have k2 : Ex hh ((hh.push emptyDict).push (instObj C hh.objs.size)) := (ex_push _ _).trans (ex_push _ _)
  have hsz : (hh.push emptyDict).objs.size = hh.objs.size + 1 := Heap.size_push ..
  have hx : ((hh.push emptyDict).push (instObj C hh.objs.size)).get? (hh.objs.size + 1) = some (instObj C hh.objs.size) := by rw [← hsz]; exact push_live rfl
  have hd : ((hh.push emptyDict).push (instObj C hh.objs.size)).get? hh.objs.size = some emptyDict := Heap.get?_push_of_some _ (push_live rfl)
  refine enterMc (binds := [("self", .ref (hh.objs.size + 1)), ("comp_select_list", .ref l)]) S M.m0 (hs.trans k2) ?_ (fun _ _ _ => rfl) (by decide) (by intro x hx; simp only [List.mem_cons, List.not_mem_nil, or_false] at hx; rcases hx with rfl | rfl <;> rfl) ?_
  · rw [depth_under_kw]
    have := R.depth
    (first | lia | omega)
  · intro L pm cd doc h₁ tk hLn k₁ C₁
    walk_at "body"
    repeat walk_at "ev"
    refine plainObj_wpAny_Assign_Attribute ?_ (by with_unfolding_all rfl)
    repeat walk_at "ev"
    have hx₁ : h₁.get? (hh.objs.size + 1) = some (instObj C hh.objs.size) := k₁ _ _ hx
    have hd₁ : h₁.get? hh.objs.size = some emptyDict := k₁ _ _ hd
    have I₁ : InstAt h₁ (hh.objs.size + 1) (instObj C hh.objs.size) C (some (dictOf [] 0)) := ⟨hx₁, rfl, rfl, hd₁⟩
    have X₁ : K.In h₁ := J.X.keeps C₁.hTop
    have hnd : hh.objs.size ≠ L := fun e => by
      have : ((hh.push emptyDict).push (instObj C hh.objs.size)).get? L = none := hLn
      rw [← e, hd] at this; cases this
    have N₁ : News {} L h₁ ([] ++ (hh.objs.size, dictOf [] 0) :: (live h₁ L).filter (fun p => decide (p.1 ≠ hh.objs.size))) := fun p hp => by
      rcases List.mem_cons.mp hp with rfl | hp
      · exact ⟨hd₁, hnd, by simp [Heap.get?]⟩
      · exact live_news h₁ L p (List.mem_filter.mp hp).1
    refine set_plain X₁ I₁ M.set ?_
    refine osa_dict (od' := dictOf (putL "comp_select_list" (PyData.keyHash w.params "comp_select_list") (.str "comp_select_list" (tk + 1)) (.ref l) []) (putN "comp_select_list" [] 0)) (es := _) (n := _) C₁.fr N₁ X₁ I₁ rfl M.pl M.tk ?_ rfl (fun p hp => (nomatch hp)) (fun p hp => of_decide_eq_true (List.mem_filter.mp hp).2) ?_ rfl ?_ fun h₂ F₂ N₂ => ?_
    · exact J.hd
    · rfl
    · show 1 ≤ 1000; decide
    · have hd₂ := (N₂ _ (List.mem_append_right _ List.mem_cons_self)).1
      have kx : ∀ b o, b ≠ L → b ≠ hh.objs.size → h₁.get? b = some o → h₂.get? b = some o := fun b o h1 h2 e => (N₂ (b, o) (List.mem_cons_of_mem _ (List.mem_filter.mpr ⟨mem_live.mpr ⟨h1, e⟩, decide_eq_true h2⟩))).1
      have kh : Ex hh h₂ := fun b o e => kx b o (fun q => by have := k2 _ _ e; rw [q] at this; have h0 : ((hh.push emptyDict).push (instObj C hh.objs.size)).get? L = none := hLn; rw [h0] at this; cases this) (Nat.ne_of_lt (Heap.lt_size e)) (k₁ _ _ (k2 _ _ e))
      have hx₂ : h₂.get? (hh.objs.size + 1) = some (instObj C hh.objs.size) := kx _ _ (fun q => by have h0 : ((hh.push emptyDict).push (instObj C hh.objs.size)).get? L = none := hLn; rw [← q, hx] at h0; cases h0) (Nat.succ_ne_self _) hx₁
      dsimp only
      repeat walk_at "ev"
      refine ⟨rfl, ?_⟩
      refine hQ _ _ _ _ h₂ _ ?_ (next_none _) kh hx₂ hd₂ rfl rfl
      cases q : hh.get? (hh.objs.size + 1) with
      | none => rfl
      | some o => exact absurd (Heap.lt_size q) (Nat.not_lt.mpr (Nat.le_succ _))

section
variable {Base : Addr → Obj → Prop} {env : Env} {oc : List Str} {ps qs : List Addr} {m cm : Str → Option Value} {olds news : List (Addr × Obj)}
theorem Cx.both {h : Heap} {a b : Addr × Obj} (CA : Cx H₀ Base env oc ps qs m cm (a :: olds) news h) (CB : Cx H₀ Base env oc ps qs m cm (b :: olds) news h) : Cx H₀ Base env oc ps qs m cm (a :: b :: olds) news h :=
  { CB with
    old := fun p hp => (List.mem_cons.mp hp).elim (fun e => CA.old p (e ▸ List.mem_cons_self)) (CB.old p)
    sep := fun p hp => (List.mem_cons.mp hp).elim (fun e => CA.sep p (e ▸ List.mem_cons_self)) (CB.sep p) }
/-- a TupleComp among what stays -/
def JudgeIn (C : Addr) (olds : List (Addr × Obj)) (j : Addr) (bs bt : Int) : Prop :=
  ∃ dx es n l T₀ T₁ t₀ t₁ t₂ t₃, (j, instObj C dx) ∈ olds ∧ (dx, dictOf es n) ∈ olds ∧ getL "comp_select_list" es = some (some (.ref l)) ∧ getL "compare" es = some none ∧
    (l, ({ cls := .type "list", data := .seq #[.ref T₀, .ref T₁] } : Obj)) ∈ olds ∧ (T₀, tup [.int 0 t₀, .int bs t₁]) ∈ olds ∧ (T₁, tup [.int 1 t₂, .int bt t₃]) ∈ olds
theorem JudgeIn.at {C j : Addr} {bs bt : Int} {h : Heap} (x : JudgeIn C olds j bs bt) (k : ∀ p ∈ olds, h.get? p.1 = some p.2) : JudgeAt C h j bs bt := by
  obtain ⟨dx, es, n, l, T₀, T₁, t₀, t₁, t₂, t₃, h1, h2, h3, h4, h5, h6, h7⟩ := x
  exact ⟨_, es, n, l, T₀, T₁, t₀, t₁, t₂, t₃, ⟨k _ h1, rfl, rfl, k _ h2⟩, h3, h4, ⟨_, k _ h5, rfl, _, rfl⟩, ⟨_, k _ h6, rfl, _, rfl⟩, ⟨_, k _ h7, rfl, _, rfl⟩⟩
theorem JudgeIn.mono {C j : Addr} {bs bt : Int} {o' : List (Addr × Obj)} (x : JudgeIn C olds j bs bt) (k : ∀ p ∈ olds, p ∈ o') : JudgeIn C o' j bs bt := by
  obtain ⟨dx, es, n, l, T₀, T₁, t₀, t₁, t₂, t₃, h1, h2, h3, h4, h5, h6, h7⟩ := x
  exact ⟨dx, es, n, l, T₀, T₁, t₀, t₁, t₂, t₃, k _ h1, k _ h2, h3, h4, k _ h5, k _ h6, k _ h7⟩
end

end
-- part M0

section
variable {prog : Program} {w : World} {A : Around} {H₀ : Heap} {mg mb : Str → Option Value} {fa : Nat → Addr} {E : Value → Shared → Prop} {s : Shared}
def letter (d : Int) : Nat := if d.fmod 4 = 0 then 290 else if d.fmod 4 = 1 then 34 else if d.fmod 4 = 2 then 353 else 97
def agree (B D : WD) : Prop := B.length = D.length ∧ (∀ x ∈ B, gget D x.1 = some x.2) ∧ (B.map (·.2)).sum = (D.map (·.2)).sum
structure LawMath (W : List Nat) (q h : Int) : Prop where
  qb : Builtin.Int.intBits q ≤ 64
  hb : Builtin.Int.intBits h ≤ 64
  set : ∃ (I : WD → WD → Nat → Prop) (n₀ : Nat), I [(W, 1)] [] n₀ ∧ (∀ D B n, I D B n → D.length ≤ 1000 ∧ B.length ≤ 1000 ∧ (∀ x ∈ D, x.1.length ≤ 5)) ∧
    (∀ D B n t c, I D B n → (t, c) ∈ D →
      ((∀ p ∈ lpairs W, has t p = false) → ∃ m, m < n ∧ I (D.filter fun x => decide (x.1 ≠ t)) (gmerge B [(t, c)]) m) ∧
      (∀ a b u v, [a, b] ∈ lpairs W → t = u ++ [a, b] ++ v → ∃ m, m < n ∧ I (gmerge (D.filter fun x => decide (x.1 ≠ t)) (moreOf q h c a b u v)) B m)) ∧
    ∀ B n, I [] B n → agree B (dend (dres q h W))
  dv : ∀ i sg, W[i]? = some sg → ∀ x ∈ dres q h (W.take i), okKey x.1 ∧ ∀ y ∈ waysOf q h sg (Rof x.1) (Lof x.1), IntMulOk x.2 y.2
  de : ∀ x ∈ dres q h W, okKey x.1
  dl : ∀ i, (dres q h (W.take i)).length ≤ 500
  dk : ∀ x ∈ dend (dres q h W), x.1.length ≤ 5
  dn : (dend (dres q h W)).length < 63


end
-- part M2

section
variable {prog : Program} {w : World} {A : Around} {H₀ : Heap} {mg mb : Str → Option Value} {fa : Nat → Addr} {E : Value → Shared → Prop} {s : Shared}
def sgn3 (j k : Int) : Int := if (if j - k > -1 then j - k else -1) < 1 then (if j - k > -1 then j - k else -1) else 1
def sgnM (n : Nat) : List (List Int) := (List.range n).map fun (j : Nat) => (List.range n).map fun (k : Nat) => sgn3 j k
theorem rising_lt : ∀ (l : List (List Nat)) (p : List Nat), risingS (tx p) (l.map tx) = true → (p :: l).Nodup → (p :: l).Pairwise (· < ·)
  | [], p, _, _ => List.pairwise_cons.mpr ⟨fun a ha => (nomatch ha), List.Pairwise.nil⟩
  | x :: r, p, h, hn => by
    have h' := Bool.and_eq_true_iff.mp (show (!Spec.ltCps (tx x).cps.toList (tx p).cps.toList && risingS (tx x) (r.map tx)) = true from h)
    have hn' := List.nodup_cons.mp hn
    have ih := rising_lt r x h'.2 hn'.2
    have h1 : ¬ x < p := by
      have := h'.1
      rw [ltCps_eq] at this
      intro hlt
      have hd : decide ((tx x).cps.toList < (tx p).cps.toList) = true := decide_eq_true hlt
      rw [hd] at this; cases this
    have h2 : p < x := by
      rcases List.le_iff_lt_or_eq.mp (List.not_lt.mp h1) with h | h
      · exact h
      · exact absurd (h ▸ List.mem_cons_self) hn'.1
    refine List.pairwise_cons.mpr ⟨fun y hy => ?_, ih⟩
    rcases List.mem_cons.mp hy with rfl | hy
    · exact h2
    · exact List.lt_trans h2 ((List.pairwise_cons.mp ih).1 y hy)
theorem sorted_lt {ts : List (List Nat)} (h : sortedS (ts.map tx) = true) (hn : ts.Nodup) : ts.Pairwise (· < ·) := by
  cases ts with
  | nil => exact List.Pairwise.nil
  | cons p l => exact rising_lt l p h hn
theorem at_lt {ts : List (List Nat)} (h : ts.Pairwise (· < ·)) {i j : Nat} (hij : i < j) (hj : j < ts.length) : ts.getD i [] < ts.getD j [] := by
  rw [List.getD_eq_getElem?_getD, List.getD_eq_getElem?_getD, List.getElem?_eq_getElem hj, List.getElem?_eq_getElem (by (first | lia | omega) : i < ts.length)]
  exact List.pairwise_iff_getElem.mp h i j (by (first | lia | omega)) hj hij
theorem marks_at {bs bt : Int} {ts : List (List Nat)} {n i : Nat} (hi : i < n) : (marksOf bs bt ts n).getD i (0, 0) = (((ts.getD i []).length : Int) * bs, (i : Int) * bt) := by
  unfold marksOf
  rw [List.getD_eq_getElem?_getD, List.getElem?_map, List.getElem?_range hi]; rfl
theorem cmp_lt {bs bt : Int} {ts : List (List Nat)} {n i j : Nat} (hn : ts.length = n) (h : ts.Pairwise (· < ·)) (hi : i < n) (hj : j < n) (hbs : bs = 1 ∨ bs = -1) (hbt : bt = 1 ∨ bt = -1) (hl : markLt (marksOf bs bt ts n) i j = true) :
    cmpJ bs bt ((ts.getD i []).length : Nat) (ts.getD i []) ((ts.getD j []).length : Nat) (ts.getD j []) = -1 ∧ cmpJ bs bt ((ts.getD j []).length : Nat) (ts.getD j []) ((ts.getD i []).length : Nat) (ts.getD i []) = 1 := by
  unfold markLt lexlt at hl
  rw [marks_at hi, marks_at hj] at hl
  simp only [] at hl
  unfold cmpJ
  have up : i < j → ts.getD i [] < ts.getD j [] := fun hij => at_lt h hij (by (first | lia | omega))
  have dn : j < i → ts.getD j [] < ts.getD i [] := fun hij => at_lt h hij (by (first | lia | omega))
  generalize ts.getD i [] = a at *
  generalize ts.getD j [] = b at *
  by_cases hq : ((a.length : Int) * bs = (b.length : Int) * bs)
  · rw [if_pos hq, decide_eq_true_eq] at hl
    have hab : (a.length : Int) = b.length := by rcases hbs with rfl | rfl <;> (first | lia | omega)
    have e0 : ¬ ((b.length : Int) < b.length) := by (first | lia | omega)
    rw [hab]
    rcases hbt with rfl | rfl
    · have h1 := up (by (first | lia | omega))
      have h2 : ¬ b < a := fun h => List.lt_irrefl a (List.lt_trans h1 h)
      simp only [e0, h1, h2, if_true, if_false]; decide
    · have h1 := dn (by (first | lia | omega))
      have h2 : ¬ a < b := fun h => List.lt_irrefl a (List.lt_trans h h1)
      simp only [e0, h1, h2, if_true, if_false]; decide
  · rw [if_neg hq, decide_eq_true_eq] at hl
    rcases hbs with rfl | rfl
    · have h1 : (a.length : Int) < b.length := by (first | lia | omega)
      have h2 : ¬ (b.length : Int) < a.length := by (first | lia | omega)
      simp only [h1, h2, if_true, if_false]; decide
    · have h1 : (b.length : Int) < a.length := by (first | lia | omega)
      have h2 : ¬ (a.length : Int) < b.length := by (first | lia | omega)
      simp only [h1, h2, if_true, if_false]; decide
theorem cmp_same {bs bt : Int} (a : List Nat) : cmpJ bs bt (a.length : Nat) a (a.length : Nat) a = 0 := by
  unfold cmpJ
  rw [if_neg (by (first | lia | omega)), if_neg (by (first | lia | omega)), if_neg (List.lt_irrefl a), if_neg (List.lt_irrefl a)]
theorem map_at {α β : Type} {l : List α} {n : Nat} (hl : l.length = n) (d : α) (F : α → β) : l.map F = (List.range n).map fun i => F (l.getD i d) := by
  refine List.ext_getElem (by rw [List.length_map, List.length_map, List.length_range, hl]) fun i h1 h2 => ?_
  rw [List.getElem_map, List.getElem_map, List.getElem_range, List.getD_eq_getElem?_getD, List.getElem?_eq_getElem (by rw [List.length_map] at h1; exact h1)]
  rfl
theorem law_cmp {zs ts : List (List Nat)} {q : Array Nat} {bs bt : Int} (hnd : zs.Nodup) (hp : ts.Perm zs) (hs : sortedS (ts.map tx) = true) (ha : Arr zs.length q) (hu : Up (markLt (marksOf bs bt ts zs.length)) q zs.length) (hbs : bs = 1 ∨ bs = -1) (hbt : bt = 1 ∨ bt = -1) :
    ((q.toList.map fun i => ts.getD i []).map fun a => (q.toList.map fun i => ts.getD i []).map fun b => cmpJ bs bt (a.length : Nat) a (b.length : Nat) b) = sgnM zs.length := by
  have hpw := sorted_lt hs (hp.nodup_iff.mpr hnd)
  have htl : ts.length = zs.length := hp.length_eq
  have hql : q.toList.length = zs.length := by rw [Array.length_toList]; exact ha.size
  have hqd : ∀ i, q.toList.getD i 0 = q.getD i 0 := fun i => by
    rw [List.getD_eq_getElem?_getD, Array.getD_eq_getD_getElem?, Array.getElem?_toList]
  unfold sgnM
  rw [List.map_map, map_at hql 0]
  refine List.map_congr_left fun j hj => ?_
  show List.map _ (q.toList.map _) = _
  rw [List.map_map, map_at hql 0]
  refine List.map_congr_left fun k hk => ?_
  have hj := List.mem_range.mp hj
  have hk := List.mem_range.mp hk
  rw [hqd, hqd]
  show cmpJ bs bt ((ts.getD (q.getD j 0) []).length : Nat) (ts.getD (q.getD j 0) []) ((ts.getD (q.getD k 0) []).length : Nat) (ts.getD (q.getD k 0) []) = sgn3 j k
  rcases Nat.lt_trichotomy j k with h | h | h
  · rw [(cmp_lt htl hpw (ha.lt _ hj) (ha.lt _ hk) hbs hbt (hu j k h hk)).1]
    unfold sgn3; rw [if_neg (by (first | lia | omega) : ¬ ((j : Int) - k > -1)), if_pos (by (first | lia | omega))]
  · subst h
    rw [cmp_same]
    unfold sgn3; rw [if_pos (by (first | lia | omega) : ((j : Int) - j > -1)), if_pos (by (first | lia | omega))]; (first | lia | omega)
  · rw [(cmp_lt htl hpw (ha.lt _ hk) (ha.lt _ hj) hbs hbt (hu k j h hj)).2]
    unfold sgn3; rw [if_pos (by (first | lia | omega) : ((j : Int) - k > -1))]
    split <;> (first | lia | omega)

end
-- part G19

section
variable {prog : Program} {w : World} {A : Around} {H₀ : Heap} {mg mb : Str → Option Value} {fa : Nat → Addr} {E : Value → Shared → Prop} {s : Shared}
abbrev env22 (L a : Addr) (cd : Value) : Env := envOfC (dName (stmtAt 22)) (dScope (stmtAt 22)) L a cd
abbrev oc22 : List Str := ["due", "own", "places"]
theorem ne_reply (a b : List Nat) : (reply a != reply b) = decide (rep a ≠ rep b) := by
  by_cases h : rep a = rep b
  · have e : reply a = reply b := by unfold reply; rw [h]
    rw [e, decide_eq_false (fun x => x h)]; simp
  · have e : reply a ≠ reply b := fun e => h (tx_inj e)
    rw [decide_eq_true h]; simpa using e
theorem addL_C {Base : Addr → Obj → Prop} {env : Env} {oc : List Str} {ps qs : List Addr} {m cm : Str → Option Value} {olds news : List (Addr × Obj)} {l b : Addr} {vs ws : List Value} {n1 n2 : Nat} {Q : Value → Shared → Prop} (C : Cx H₀ Base env oc ps qs m cm olds news s.heap)
    (hl : s.heap.get? l = some { cls := .type "list", data := .seq vs.toArray n1 }) (hb : s.heap.get? b = some { cls := .type "list", data := .seq ws.toArray n2 }) (hsz : vs.length + ws.length ≤ sizeLine)
    (h : ∀ D h', Fresh s.heap D → Ex s.heap h' → Cx H₀ Base env oc ps qs m cm ((D, { cls := .type "list", data := .seq (vs ++ ws).toArray }) :: olds) news h' → Q (.ref D) { s with heap := h' }) : wpAny (model prog w) A (binaryOp .Add (.ref l) (.ref b)) Q E s := by
  refine P.add_list (items := vs.toArray) (items2 := ws.toArray) hl hb ?_ (by rw [List.size_toArray, List.size_toArray]; exact hsz)
  rw [List.append_toArray]
  exact h _ _ (Fresh.size _) (ex_push _ _) (C.addOld (ex_push _ _) (next_none _) (push_live rfl))
theorem rep_inj {a b : List Nat} (h : rep a = rep b) : a = b := reply_inj _ _ (by unfold reply; rw [h])
theorem rangeO_C {Base : Addr → Obj → Prop} {env : Env} {oc : List Str} {ps qs : List Addr} {m cm : Str → Option Value} {olds news : List (Addr × Obj)} {n : Nat} {t : Tok} {Q : Value → Shared → Prop} (C : Cx H₀ Base env oc ps qs m cm olds news s.heap) (hn : n ≤ 1000)
    (h : ∀ r o h' tk', Cx H₀ Base env oc ps qs m cm ((r, o) :: olds) news h' → (∀ (A' : Around) (s' : Shared) (x : Str) (px : Pos), A'.handled = none → s'.heap.get? r = some o → wpAny (model prog w) A' (pyIter (.ref r)) (Iter prog w A' (.Name x px) n (fun i v _ => ∃ t, v = .int (i : Int) t) [] s') No s') → Q (.ref r) { s with heap := h', toks := tk' }) :
    wpAny (model prog w) A (call (.type "range") [.int (n : Int) t]) Q E s :=
  call_range_1 (h _ _ _ _ (C.addOld (ex_push _ _) (next_none _) (push_live rfl)) fun A' s' x px hh hr => iter_range hh hr (small_nat n hn) (size_nat n))
theorem rowsIn.at {o : List (Addr × Obj)} {vs M} (h : rowsIn o vs M) : ∀ {i : Nat} {v : Value}, vs[i]? = some v → ∃ a ys ns, v = .ref a ∧ (a, lst ys) ∈ o ∧ IntsAre ys ns ∧ M[i]? = some ns := by
  induction h with
  | nil => intro i v e; simp at e
  | cons a ys ns hm hi _ ih =>
    intro i v e
    cases i with
    | zero => exact ⟨a, ys, ns, (Option.some.inj e).symm, hm, hi, rfl⟩
    | succ i => exact ih e
theorem rowsIn.length {o : List (Addr × Obj)} {vs M} (h : rowsIn o vs M) : vs.length = M.length := by induction h <;> simp_all
theorem all_true (n : Nat) : ((List.range n).all fun _ => true) = true := by simp
theorem eq_rows {l1 l2 : Addr} {ys1 ys2 : List Value} {o1 o2 : List (Addr × Obj)} {M : List (List Int)} {Q : Value → Shared → Prop} (h1 : s.heap.get? l1 = some (lst ys1)) (h2 : s.heap.get? l2 = some (lst ys2)) (r1 : rowsIn o1 ys1 M) (r2 : rowsIn o2 ys2 M)
    (k1 : ∀ p ∈ o1, s.heap.get? p.1 = some p.2) (k2 : ∀ p ∈ o2, s.heap.get? p.1 = some p.2) (hu : A.units + 20 < cLine) (hQ : Q (.bool true) s) : wpAny (model prog w) A (compareOp .Eq (.ref l1) (.ref l2)) Q E s := by
  have hsz : ys1.toArray.size = ys2.toArray.size := by rw [List.size_toArray, List.size_toArray, r1.length, r2.length]
  refine SeqAt.eq_listAt (e := fun _ => true) (lst_is h1) (lst_is h2) hsz (by (first | lia | omega)) (fun i hi1 hi2 => ?_) (by rw [all_true]; exact hQ)
  have g1 : ys1[i]? = some ys1.toArray[i] := by rw [List.getElem_toArray]; exact List.getElem?_eq_getElem _
  have g2 : ys2[i]? = some ys2.toArray[i] := by rw [List.getElem_toArray]; exact List.getElem?_eq_getElem _
  obtain ⟨a, xs, ns, e1, m1, i1, q1⟩ := r1.at g1
  obtain ⟨b, zs, ns', e2, m2, i2, q2⟩ := r2.at g2
  rw [q1] at q2
  obtain rfl := Option.some.inj q2
  rw [e1, e2]
  by_cases hab : a = b
  · subst hab; exact SeqAt.EqAt.same _
  · refine SeqAt.EqAt.of_refs hab ?_
    have hs2 : xs.toArray.size = zs.toArray.size := by rw [List.size_toArray, List.size_toArray, ints_len i1, ints_len i2]
    have := SeqAt.RcAt.lists (A := A.in1) (e := fun _ => true) (lst_is (k1 _ m1)) (lst_is (k2 _ m2)) hs2 (by show A.units + 1 < cLine; (first | lia | omega)) (fun j hj1 hj2 => ?_)
    · rw [all_true] at this; exact this
    · have f1 : xs[j]? = some xs.toArray[j] := by rw [List.getElem_toArray]; exact List.getElem?_eq_getElem _
      have f2 : zs[j]? = some zs.toArray[j] := by rw [List.getElem_toArray]; exact List.getElem?_eq_getElem _
      obtain ⟨n1, t1, v1, w1⟩ := ints_at i1 f1
      obtain ⟨n2, t2, v2, w2⟩ := ints_at i2 f2
      rw [w1] at w2
      obtain rfl := Option.some.inj w2
      rw [v1, v2]
      have := SeqAt.EqAt.int_int (A := A.in1.in1) (s := s) n1 t1 n1 t2
      rw [beq_self_eq_true] at this
      exact this
theorem rowsIn.only {o : List (Addr × Obj)} {vs M} (h : rowsIn o vs M) : ∃ o', rowsIn o' vs M ∧ ∀ p ∈ o', p ∈ o ∧ ∃ ys, p.2 = lst ys := by
  induction h with
  | nil => exact ⟨[], .nil, fun p hp => (nomatch hp)⟩
  | cons a ys ns hm hi _ ih =>
    obtain ⟨o', r, k⟩ := ih
    refine ⟨(a, lst ys) :: o', .cons a ys ns List.mem_cons_self hi (r.mono fun p hp => List.mem_cons_of_mem _ hp), fun p hp => ?_⟩
    rcases List.mem_cons.mp hp with rfl | hp
    · exact ⟨hm, ys, rfl⟩
    · exact k p hp
theorem Cx.addRows {Base : Addr → Obj → Prop} {env : Env} {oc : List Str} {ps : List Addr} {m cm : Str → Option Value} {olds : List (Addr × Obj)} {h : Heap} {o' : List (Addr × Obj)} (C : Cx H₀ Base env oc ps [] m cm olds [] h) (k : ∀ p ∈ o', h.get? p.1 = some p.2 ∧ ∃ ys, p.2 = lst ys) :
    Cx H₀ Base env oc ps [] m cm (o' ++ olds) [] h := by
  refine { C with old := fun p hp => ?_, sep := fun p hp q hq => (nomatch hq) }
  rcases List.mem_append.mp hp with hp | hp
  · obtain ⟨h1, ys, h2⟩ := k p hp
    refine ⟨h1, ?_, ?_, fun hq => (nomatch hq)⟩
    · intro e
      obtain ⟨o, c, d, e1, e2, _⟩ := C.ns
      rw [e, e1] at h1
      obtain rfl := Option.some.inj h1
      rw [h2] at e2
      exact nomatch e2
    · intro n c hn hc e
      obtain ⟨o, e1, e2⟩ := C.cell n c hc
      rw [e, e1] at h1
      obtain rfl := Option.some.inj h1
      rw [h2] at e2
      exact nomatch e2
  · exact C.old p hp
theorem max2_C {a b : Int} {t u : Tok} {Q : Value → Shared → Prop} (hh : A.handled = none) (h : ∀ h' tk t', Ex s.heap h' → Q (.int (if b > a then b else a) t') { s with heap := h', toks := tk }) :
    wpAny (model prog w) A (call (.builtin "max") [.int a t, .int b u]) Q E s :=
  max_two_ints hh fun h' tk hk => by
    have := fun t' => h h' tk t' hk
    by_cases c : b > a
    · rw [if_pos c] at this ⊢; exact this _
    · rw [if_neg c] at this ⊢; exact this _
theorem min2_C {a b : Int} {t u : Tok} {Q : Value → Shared → Prop} (hh : A.handled = none) (h : ∀ h' tk t', Ex s.heap h' → Q (.int (if b < a then b else a) t') { s with heap := h', toks := tk }) :
    wpAny (model prog w) A (call (.builtin "min") [.int a t, .int b u]) Q E s :=
  min_two_ints hh fun h' tk hk => by
    have := fun t' => h h' tk t' hk
    by_cases c : b < a
    · rw [if_pos c] at this ⊢; exact this _
    · rw [if_neg c] at this ⊢; exact this _
set_option maxHeartbeats 8000000 in
theorem law_end {K : Frag} {C f g : Addr} (S : Stat mg mb fa H₀) (J : Judge K C f g H₀) (R : Room 4 A) {a L : Addr} {cd : Value} {Base : Addr → Obj → Prop} {m cm : Str → Option Value} {olds : List (Addr × Obj)} {du j : Addr} {duo : Obj} {De : WD} {bs bt : Int} {W : List Nat} {u1 u2 u3 : Tok}
    (C₁ : Cx H₀ Base (env22 L a cd) oc22 [] [] m cm olds [] s.heap) (hdu : (du, duo) ∈ olds) (iD : IsD prog w duo (encD reply De)) (ldu : (du == sysModules) = false) (hdk : ∀ x ∈ De, x.1.length ≤ 5) (hdn : De.length < 63)
    (hjin : JudgeIn C olds j bs bt) (hbs : bs = 1 ∨ bs = -1) (hbt : bt = 1 ∨ bt = -1) (hW : W.length ≤ 5)
    (hmw : m "word" = some (.str (tx W) u1)) (hm1 : m "by_size" = some (.int bs u2)) (hm2 : m "by_text" = some (.int bt u3)) (hmj : m "judge" = some (.ref j)) (hcd : cm "due" = some (.ref du))
    {Q : Flow → Shared → Prop} (hQ : ∀ h' tk', (∀ b o, Base b o → h'.get? b = some o) → Q (.ret (.bool true)) { s with heap := h', toks := tk' }) :
    wpAny (model prog w) A (execs ((dBody (stmtAt 22)).drop 7) (env22 L a cd)) Q No s := by
  (conv in execs (List.drop _ _) _ => (arg 1; whnf))
  obtain ⟨vals, hdv, hev⟩ := id iD
  have hda : ∀ {h : Heap}, h.get? du = some duo → h.DictOf (PySem.strKind prog w) du (intPairs vals) := fun e => Heap.dictOf_iff.mpr ⟨duo, e, hdv⟩
  have hlen : (intPairs vals).length = De.length := by rw [← strip_len, ← hev]; exact List.length_map ..
  have hnd : (De.map (·.1)).Nodup := enc_nodup iD.nodup
  have hkey : ∀ {i : Nat} {k : Str} {v : Value}, (intPairs vals)[i]? = some (k, v) → ∃ x : List Nat × Int, De[i]? = some x ∧ k = reply x.1 := by
    intro i k v hk
    obtain ⟨n₁, t₁, rfl, hk'⟩ := strip_at hk
    rw [← hev] at hk'
    unfold encD at hk'
    rw [List.getElem?_map] at hk'
    cases hx : De[i]? with
    | none => rw [hx] at hk'; cases hk'
    | some x => rw [hx] at hk'; exact ⟨x, rfl, (Prod.mk.inj (Option.some.inj hk')).1.symm⟩
  repeat walk_at "ev"
  refine evF 17 (by assumption) (by decide) (by walk_at "ty") (by walk_at "ty") (by assumption) ?_ (by walk_at "ty") (by walk_at "ty") (by decide) (by walk_at "ty") (by walk_at "ty") (by walk_at "ty")
  repeat walk_at "ev"
  try dsimp only
  refine ⟨C₁.hTop, ?_⟩
  refine reply_specW S (R.le (by decide)) (by exact C₁.hTop) (by (first | lia | omega)) fun h₂ tk₂ t₂ x₂ => ?_
  have C₂ := C₁.keeps x₂
  clear C₁ x₂
  try dsimp only
  repeat walk_at "ev"
  rename_i h₃ C₃
  clear C₂
  refine evF 20 (by assumption) (by decide) (by walk_at "ty") (by walk_at "ty") (by assumption) ?_ (by walk_at "ty") (by walk_at "ty") (by decide) (by walk_at "ty") (by walk_at "ty") (by walk_at "ty")
  repeat walk_at "ev"
  have hcd₃ : ∀ {v : Option Value} {c' : Str → Option Value}, (∀ n, c' n = if n = Str.ofString "own" then v else cm n) → c' "due" = some (.ref du) := fun e => (e _).trans ((if_neg (by decide)).trans hcd)
  refine eval_comp_list rfl ?_
  refine listComp0 (H₀ := H₀) (Base := Base) (oc := oc22) (ps := []) (qs := []) (by with_unfolding_all rfl) (lk_one (by with_unfolding_all rfl)) rfl (by decide) (fun _ _ => rfl) (fun _ => rfl) ?_
  repeat walk_at "ev"
  refine ⟨_, _, [du], _, _, _, _, fun i ys' olds' => olds' = [] ∧ strsAre ys' (((De.map fun x => rep x.1).take i).filter fun z => decide (z ≠ rep W)), by rw [hlen]; show _ ≤ 16777216; (first | lia | omega), C₃, ?_, iter_dict (by exact R.hh) ldu (hda (C₃.get_old hdu)), ⟨rfl, .nil⟩, ?_, ?_⟩
  · intro b hb
    rw [List.mem_singleton.mp hb]
    exact ⟨_, C₃.get_old hdu⟩
  · rintro i v D₇ ys₇ L₇ olds₇ h₇ tk₇ Base₇ m₇ cm₇ ps₇ qs₇ hi htk hP ⟨rfl, hJ⟩ hB ho hcm hB2 C₇
    obtain ⟨k, tk', v', hk, rfl⟩ := hP
    obtain ⟨⟨k₀, c⟩, hxi, rfl⟩ := hkey hk
    have hcw : cm₇ "own" = some (.str (reply W) t₂) := (hcm _).trans (by walk_at "lk")
    have hri : (De.map fun x => rep x.1)[i]? = some (rep k₀) := by rw [List.getElem?_map, hxi]; rfl
    refine asL C₇ (fun h₈ C₈ => ?_) rfl rfl
    clear C₇
    show wpAny _ A (forIn [_] true _) _ _ _
    refine wpAny_tests_one ?_
    try dsimp only
    repeat walk_at "ev"
    rw [show (reply (k₀, c).fst != reply W) = decide (rep k₀ ≠ rep W) from ne_reply k₀ W]
    have hft := filter_take (p := fun z => decide (z ≠ rep W)) hri
    by_cases hz : rep k₀ = rep W
    · refine iteF (decide_eq_false fun x => x hz) ?_
      refine ⟨_, _, _, _, _, _, rfl, C₈, rfl, ⟨rfl, ?_⟩, fun p hp => (nomatch hp), hcm⟩
      rw [hft, if_neg (by rw [decide_eq_true_eq]; exact fun x => x hz), List.append_nil]; exact hJ
    · refine iteT (decide_eq_true hz) ?_
      repeat walk_at "ev"
      refine ⟨_, _, _, _, _, _, rfl, C₈, rfl, ⟨rfl, ?_⟩, fun p hp => (nomatch hp), hcm⟩
      rw [hft, if_pos (decide_eq_true hz)]; exact hJ.snoc _ _
  · rintro D₇ ys₇ h₇ tk₇ olds₇ htk C₇ fr₇ ⟨rfl, hJ⟩
    rw [hlen, List.take_of_length_le (by rw [List.length_map]; exact Nat.le_refl _)] at hJ
    clear C₃
    show wpAny _ _ _ _ _ _
    try dsimp only
    repeat walk_at "ev"
    refine newList_C C₇ (fun ol h₈ fr₈ x₈ C₈ => ?_) (by show 1 ≤ 16777216; decide)
    clear C₇ fr₈ x₈
    repeat walk_at "ev"
    have hzl : (((De.map fun x => rep x.1).filter fun z => decide (z ≠ rep W)) ++ [rep W]).length ≤ De.length + 1 := by
      rw [List.length_append]
      have := List.length_filter_le (fun z => decide (z ≠ rep W)) (De.map fun x => rep x.1)
      rw [List.length_map] at this
      simp only [List.length_cons, List.length_nil]; (first | lia | omega)
    have hys : ys₇.length ≤ 100 := by
      have := hJ.length
      rw [List.length_append, List.length_cons, List.length_nil] at hzl
      (first | lia | omega)
    have hr1000 : ∀ z : List Nat, z.length ≤ 5 → (rep z).length ≤ 1000 := fun z hz => by
      rw [rep_len]; have := dbl_len 34 z; (first | lia | omega)
    have hzz : ∀ z ∈ ((De.map fun x => rep x.1).filter fun z => decide (z ≠ rep W)) ++ [rep W], z.length ≤ 1000 := by
      intro z hz
      rcases List.mem_append.mp hz with hz | hz
      · obtain ⟨x, hx, rfl⟩ := List.mem_map.mp (List.mem_filter.mp hz).1
        exact hr1000 _ (hdk x hx)
      · rw [List.mem_singleton.mp hz]; exact hr1000 _ hW
    have hznd : (((De.map fun x => rep x.1).filter fun z => decide (z ≠ rep W)) ++ [rep W]).Nodup := by
      refine List.nodup_append.mpr ⟨List.Pairwise.filter _ ?_, List.nodup_cons.mpr ⟨List.not_mem_nil, List.nodup_nil⟩, ?_⟩
      · have e : (De.map fun x => rep x.1) = (De.map (·.1)).map rep := by rw [List.map_map]; rfl
        rw [e]
        exact List.pairwise_map.mpr (hnd.imp fun hne e => hne (rep_inj e))
      · intro x hx y hy e
        rw [List.mem_singleton.mp hy] at e
        exact of_decide_eq_true (List.mem_filter.mp hx).2 e
    have hz1 : 1 ≤ (((De.map fun x => rep x.1).filter fun z => decide (z ≠ rep W)) ++ [rep W]).length := by
      rw [List.length_append, List.length_cons]; (first | lia | omega)
    have hJ' := fun t => hJ.snoc (rep W) t
    generalize ((De.map fun x => rep x.1).filter fun z => decide (z ≠ rep W)) ++ [rep W] = zs at hzl hzz hznd hz1 hJ'
    refine addL_C (vs := ys₇) (ws := [Value.str (reply W) t₂]) C₈ (C₈.get_old (List.mem_cons_of_mem _ (by exact List.mem_cons_self))) (C₈.get_old List.mem_cons_self) (by show _ ≤ 16777216; rw [List.length_cons, List.length_nil]; (first | lia | omega)) fun D₉ h₉ fr₉ x₉ C₉ => ?_
    clear C₈ fr₉ x₉
    try dsimp only
    repeat walk_at "ev"
    try dsimp only
    refine ⟨C₉.hTop, ?_⟩
    refine line_spec S (R.le (by decide)) (by exact C₉.hTop) (by exact ⟨_, C₉.get_old List.mem_cons_self, rfl, _, rfl⟩) (hJ' _) hz1 (by (first | lia | omega)) hzz hbs hbt fun li h₁₀ tk₁₀ ys₁₀ ts q x₁₀ fr₁₀ hg₁₀ hst hpm hso har hup => ?_
    have C₁₀ := C₉.addOld x₁₀ fr₁₀.none hg₁₀
    clear C₉ fr₁₀ x₁₀ hg₁₀
    try dsimp only
    repeat walk_at "ev"
    rename_i h₁₃ C₁₃
    clear C₁₀
    have hqs : q.toList.length = zs.length := by rw [Array.length_toList]; exact har.size
    have hlen10 : ys₁₀.length = zs.length := by rw [hst.length, List.length_map, hqs]
    have hmat := law_cmp hznd hpm hso har hup hbs hbt
    have hzl2 : ∀ z ∈ (q.toList.map fun i => ts.getD i []), z.length ≤ 1000 := by
      intro z hz
      obtain ⟨i, hi, rfl⟩ := List.mem_map.mp hz
      by_cases hil : i < ts.length
      · rw [List.getD_eq_getElem?_getD, List.getElem?_eq_getElem hil]
        exact hzz _ (hpm.subset (List.getElem_mem hil))
      · rw [List.getD_eq_getElem?_getD, List.getElem?_eq_none (by (first | lia | omega))]
        exact Nat.zero_le _
    have hzl3 : (q.toList.map fun i => ts.getD i []).length ≤ 1000 := by rw [List.length_map, hqs]; (first | lia | omega)
    generalize hZ : (q.toList.map fun i => ts.getD i []) = zl at hst hmat hzl2 hzl3
    generalize hN : zs.length = n at hmat hlen10
    have hn : n ≤ 1000 := by (first | lia | omega)
    clear hpm hso har hup hznd hzz hqs hJ' hJ hz1 hr1000 hkey hev hdv hda hnd
    refine len_list (lst_is (C₁₃.get_old List.mem_cons_self)) (by rw [List.size_toArray, hlen10]; (first | lia | omega)) ?_
    rw [List.size_toArray, hlen10]
    repeat walk_at "ev"
    try dsimp only
    refine rangeO_C C₁₃ hn fun ra rao h₁₁ tk₁₁ C₁₁ hit => ?_
    clear C₁₃
    try dsimp only
    repeat walk_at "ev"
    rename_i h₁₂ C₁₂
    clear C₁₁
    refine evF 21 (by assumption) (by decide) (by walk_at "ty") (by walk_at "ty") (by assumption) ?_ (by walk_at "ty") (by walk_at "ty") (by decide) (by walk_at "ty") (by walk_at "ty") (by walk_at "ty")
    repeat walk_at "ev"
    try dsimp only
    refine ⟨C₁₂.hTop, ?_⟩
    have memo : ∀ p ∈ olds, h₁₂.get? p.1 = some p.2 := fun p hp => C₁₂.get_old (List.mem_cons_of_mem _ (List.mem_cons_of_mem _ (List.mem_cons_of_mem _ (List.mem_cons_of_mem _ (by exact List.mem_cons_of_mem _ hp)))))
    refine judged_spec S J (R.le (by decide)) (by exact C₁₂.hTop) (by exact hjin.at memo) (by exact lst_is (C₁₂.get_old (List.mem_cons_of_mem _ List.mem_cons_self))) hst hzl3 hzl2 fun jr h₁₄ tk₁₄ ys₁₄ o₁₄ fr₁₄ x₁₄ k₁₄ g₁₄ rows => ?_
    rw [hmat] at rows
    obtain ⟨o₁₅, rows₅, k₁₅⟩ := rows.only
    have C₁₄ := (C₁₂.addOld x₁₄ fr₁₄.none g₁₄).addRows (o' := o₁₅) fun p hp => ⟨k₁₄ p (k₁₅ p hp).1, (k₁₅ p hp).2⟩
    clear C₁₂ fr₁₄ g₁₄ k₁₄ rows k₁₅ memo
    try dsimp only
    repeat walk_at "ev"
    have gra : h₁₄.get? ra = some rao := C₁₄.get_old (List.mem_append_right _ (List.mem_cons_of_mem _ List.mem_cons_self))
    refine eval_comp_list rfl ?_
    refine listComp1 (x := "j") (H₀ := H₀) (Base := Base) (oc := oc22) (ps := []) (qs := []) (by with_unfolding_all rfl) (lk_one (by with_unfolding_all rfl)) rfl (by decide) (fun _ _ => rfl) (fun _ => rfl) ?_
    repeat walk_at "ev"
    refine ⟨n, _, [], _, _, _, _, fun i ys' olds' => rowsIn olds' ys' ((sgnM n).take i), by show _ ≤ 16777216; (first | lia | omega), C₁₄, ?_, hit A _ _ _ R.hh gra, .nil, ?_, ?_⟩
    · exact fun b hb => nomatch hb
    · rintro i v D₄ ys₄ L₄ c₄ olds₄ h₄ tk₄ Base₄ m₄ cm₄ ps₄ qs₄ hi htk' hP hJ₄ hB ho hcm hB2 C₄
      obtain ⟨tj, rfl⟩ := hP
      have hcp : cm₄ "places" = some (.ref ra) := (hcm _ (by decide)).trans (by walk_at "lk")
      refine asC C₄ (fun h₅ C₅ => ?_) (by decide) (by with_unfolding_all rfl) rfl (by with_unfolding_all rfl)
      have k₅ : Ex h₁₄ h₅ := fun b o e => C₅.base b o (hB b o e)
      clear C₄
      show wpAny _ _ (pure true) _ _ _
      refine wpAny_pure (iteT rfl ?_)
      refine eval_comp_list rfl ?_
      refine listComp0 (H₀ := H₀) (Base := Base₄) (oc := ["j"]) (ps := ps₄) (qs := qs₄) (by with_unfolding_all rfl) (lk_one (by with_unfolding_all rfl)) rfl (by decide) (fun _ _ => rfl) (fun _ => rfl) ?_
      refine nmC C₅ ((if_neg (by decide)).trans hcp) ?_ (by with_unfolding_all rfl) rfl (by with_unfolding_all rfl) (by decide)
      refine ⟨n, _, [], _, _, _, _, fun k ys' olds' => olds' = [] ∧ IntsAre ys' (((List.range n).map fun (k : Nat) => sgn3 i k).take k), by show _ ≤ 16777216; (first | lia | omega), C₅, ?_, hit A _ _ _ R.hh (k₅ _ _ gra), ⟨rfl, .nil⟩, ?_, ?_⟩
      · exact fun b hb => nomatch hb
      · rintro k v₆ D₆ ys₆ L₆ olds₆ h₆ tk₆ Base₆ m₆ cm₆ ps₆ qs₆ hk htk'' hP₆ ⟨rfl, hJ₆⟩ hB₆ ho₆ hcm₆ hB2₆ C₆
        obtain ⟨tk6, rfl⟩ := hP₆
        have hcj₆ : cm₆ "j" = some (.int (i : Int) tj) := (hcm₆ _).trans (if_pos rfl)
        refine asL C₆ (fun h₇ C₇ => ?_) rfl rfl
        clear C₆
        show wpAny _ _ (pure true) _ _ _
        refine wpAny_pure (iteT rfl ?_)
        repeat walk_at "ev"
        try dsimp only
        refine max2_C R.hh fun h₈ tk₈ t₈ k₈ => ?_
        have C₈ := C₇.keeps k₈
        clear C₇
        try dsimp only
        repeat walk_at "ev"
        try dsimp only
        refine min2_C R.hh fun h₉ tk₉ t₉ k₉ => ?_
        have C₉ := C₈.keeps k₉
        clear C₈
        refine ⟨_, _, _, _, _, _, rfl, C₉, rfl, ⟨rfl, ?_⟩, fun p hp => (nomatch hp), hcm₆⟩
        rw [List.take_add_one, List.getElem?_map, List.getElem?_range hk]
        exact ints_snoc hJ₆ _ _
      · rintro D₆ ys₆ h₆ tk₆ olds₆ htk'' C₆ fr₆ ⟨rfl, hJ₆⟩
        have hT0 : h₁₄.get? D₆ = none := k₅.new fr₆.none
        refine ⟨_, _, _, _, _, _, rfl, C₆, rfl, ?_, ?_, ?_⟩
        · have hri : (sgnM n)[i]? = some ((List.range n).map fun (k : Nat) => sgn3 i k) := by
            unfold sgnM
            rw [List.getElem?_map, List.getElem?_range hi]; rfl
          show rowsIn _ _ ((sgnM n).take (i + 1))
          rw [List.take_of_length_le (by rw [List.length_map, List.length_range]; exact Nat.le_refl _)] at hJ₆
          rw [List.take_add_one, hri, Option.toList_some]
          exact (hJ₄.mono fun p hp => List.mem_cons_of_mem _ hp).snoc List.mem_cons_self hJ₆
        · intro p hp
          rcases List.mem_cons.mp hp with rfl | hp
          · exact .inr hT0
          · exact .inl hp
        · intro n hn
          exact (if_neg hn).trans (hcm n hn)
    · rintro D₄ ys₄ h₄ tk₄ olds₄ htk' C₄ fr₄ hJ₄
      rw [List.take_of_length_le (by unfold sgnM; rw [List.length_map, List.length_range]; exact Nat.le_refl _)] at hJ₄
      clear C₁₄
      show wpAny _ _ _ _ _ _
      try dsimp only
      repeat walk_at "ev"
      refine eq_rows (C₄.get_old (List.mem_append_right _ (List.mem_cons_of_mem _ (List.mem_append_right _ List.mem_cons_self)))) (C₄.get_old (List.mem_append_right _ List.mem_cons_self)) rows₅ hJ₄ (fun p hp => C₄.get_old (List.mem_append_right _ (List.mem_cons_of_mem _ (List.mem_append_left _ hp)))) (fun p hp => C₄.get_old (List.mem_append_left _ hp)) (by have := R.units; (first | lia | omega)) ?_
      repeat walk_at "ev"
      exact hQ _ _ C₄.base

end
-- part G18

section
variable {prog : Program} {w : World} {A : Around} {H₀ : Heap} {mg mb : Str → Option Value} {fa : Nat → Addr} {E : Value → Shared → Prop} {s : Shared}
theorem sum_C {Base : Addr → Obj → Prop} {env : Env} {oc : List Str} {ps qs : List Addr} {m cm : Str → Option Value} {olds news : List (Addr × Obj)} {l : Addr} {vs : List Value} {ns : List Int} {Q : Value → Shared → Prop} (C : Cx H₀ Base env oc ps qs m cm olds news s.heap) (hh : A.handled = none) (hl : s.heap.IsList l vs.toArray) (hi : IntsAre vs ns)
    (h : ∀ h' tk t', Cx H₀ Base env oc ps qs m cm olds news h' → Q (.int ns.sum t') { s with heap := h', toks := tk }) : wpAny (model prog w) A (call (.builtin "sum") [.ref l]) Q E s :=
  LSm.sum_ints C.fr (live_news s.heap env.locals) hh hl hi fun h' tk t' F N => h h' tk t' (C.back F (live_keep (more := []) N))
set_option maxHeartbeats 8000000 in
theorem law_tail {K : Frag} {C f g : Addr} (S : Stat mg mb fa H₀) (J : Judge K C f g H₀) (R : Room 4 A) {a L : Addr} {cd : Value} {Base : Addr → Obj → Prop} {m cm : Str → Option Value} {olds : List (Addr × Obj)} {dr j : Addr} {od : Obj} {ys : List Value} {d5 d6 d7 bs bt : Int} {W : List Nat} {t5 t6 t7 u1 u2 u3 : Tok}
    (C₁ : Cx H₀ Base (env22 L a cd) oc22 [] [] m cm olds [] s.heap) (hdr : (dr, od) ∈ olds) (ilo : IsLO od ys) (hyl : ys.length = 8) (a5 : ys[5]? = some (.int d5 t5)) (a6 : ys[6]? = some (.int d6 t6)) (a7 : ys[7]? = some (.int d7 t7))
    (hjin : JudgeIn C olds j bs bt) (hbs : bs = 1 ∨ bs = -1) (hbt : bt = 1 ∨ bt = -1) (hW : W.length ≤ 5) (hm : LawMath W d5 d6) (hp4 : Builtin.divisionGoesByPylong d7 4 = false)
    (hmd : m "draws" = some (.ref dr)) (hmw : m "word" = some (.str (tx W) u1)) (hm1 : m "by_size" = some (.int bs u2)) (hm2 : m "by_text" = some (.int bt u3)) (hmj : m "judge" = some (.ref j))
    {Q : Flow → Shared → Prop} (hQ : ∀ h' tk', (∀ b o, Base b o → h'.get? b = some o) → Q (.ret (.bool true)) { s with heap := h', toks := tk' }) :
    wpAny (model prog w) A (execs ((dBody (stmtAt 22)).drop 4) (env22 L a cd)) Q No s := by
  (conv in execs (List.drop _ _) _ => (arg 1; whnf))
  have item : ∀ {k : Nat} {t : Tok} {h : Heap} {d : Int}, ys[k]? = some (.int d t) → h.get? dr = some od → k < 8 → ∀ {value slice : Expr} {u : Tok} {s₀ : Shared} {Q₀ : Value → Shared → Prop}, s₀.heap = h → Q₀ (.int d t) s₀ →
      subscripted slice false (.ref dr) (.int (k : Int) u) = operate [.ref dr, .int (k : Int) u] (getItem (.ref dr) (.int (k : Int) u)) → (∀ r, letTemporaryGo value (.ref dr) r = pure ()) →
      wpAny (model prog w) A (subscriptTail value slice (.ref dr) (.int (k : Int) u)) Q₀ No s₀ := by
    intro k t h d hk hh hk8 value slice u s₀ Q₀ hs0 hq h1 h2
    subst hs0
    exact item_list (x := .int d t) (ilo.list hh) (Int.natCast_nonneg _) (by (first | lia | omega)) (by rw [Int.toNat_natCast, List.getElem?_toArray]; exact hk) hq h1 h2
  have hdiv : ∀ {x : Value → Shared → Prop} {s₀ : Shared} {t u : Tok}, x (.int (d7.fdiv 4) s₀.toks) { s₀ with toks := s₀.toks + 1 } → wpAny (model prog w) A (binaryOp .FloorDiv (.int d7 t) (.int 4 u)) x No s₀ := fun hx => floordiv_int (by decide) hx (Or.inl hp4)
  repeat walk_at "ev"
  refine evF 18 (by assumption) (by decide) (by walk_at "ty") (by walk_at "ty") (by assumption) ?_ (by walk_at "ty") (by walk_at "ty") (by decide) (by walk_at "ty") (by walk_at "ty") (by walk_at "ty")
  repeat walk_at "ev"
  refine item (k := 5) a5 (C₁.get_old hdr) (by decide) rfl ?_ (by walk_at "ty") (by walk_at "ty")
  repeat walk_at "ev"
  refine item (k := 6) a6 (C₁.get_old hdr) (by decide) rfl ?_ (by walk_at "ty") (by walk_at "ty")
  repeat walk_at "ev"
  refine item (k := 7) a7 (C₁.get_old hdr) (by decide) rfl ?_ (by walk_at "ty") (by walk_at "ty")
  repeat walk_at "ev"
  refine hdiv ?_
  repeat walk_at "ev"
  dsimp only
  refine ⟨C₁.hTop, ?_⟩
  obtain ⟨I, n₀, hI, hb, hstep, hfin⟩ := hm.set
  refine settled_spec (I := I) (n₀ := n₀) S J (R.le (by decide)) (by exact C₁.hTop) (by exact hjin.at fun p hp => C₁.get_old hp) hW hI hb (fun c => IntMulOk.of_left hm.qb) (fun c => IntMulOk.of_left hm.hb) hstep fun to too h₂ tk₂ B n fr₂ x₂ hg₂ iB hfn => ?_
  have hag := hfin B n hfn
  have C₂ := C₁.addOld x₂ fr₂.none hg₂
  have lto : (to == sysModules) = false := fr₂.sys (S.main C₁.hTop)
  clear C₁ x₂ fr₂ hg₂ hb hstep hfin hI hfn
  dsimp only
  repeat walk_at "ev"
  rename_i h₃ C₃
  clear C₂
  have hdk := hm.dk
  have hdn := hm.dn
  refine evF 19 (by assumption) (by decide) (by walk_at "ty") (by walk_at "ty") (by assumption) ?_ (by walk_at "ty") (by walk_at "ty") (by decide) (by walk_at "ty") (by walk_at "ty") (by walk_at "ty")
  repeat walk_at "ev"
  refine item (k := 5) a5 (C₃.get_old (List.mem_cons_of_mem _ hdr)) (by decide) rfl ?_ (by walk_at "ty") (by walk_at "ty")
  repeat walk_at "ev"
  refine item (k := 6) a6 (C₃.get_old (List.mem_cons_of_mem _ hdr)) (by decide) rfl ?_ (by walk_at "ty") (by walk_at "ty")
  repeat walk_at "ev"
  dsimp only
  refine ⟨C₃.hTop, ?_⟩
  refine due_spec S (R.le (by decide)) (by exact C₃.hTop) hW hm.qb (fun c => IntMulOk.of_left hm.hb) hm.dv hm.de hm.dl fun du duo h₄ tk₄ fr₄ x₄ hg₄ iD => ?_
  have C₄ := C₃.addOld x₄ fr₄.none hg₄
  have ldu : (du == sysModules) = false := fr₄.sys (S.main C₃.hTop)
  generalize hDe : dend (dres d5 d6 W) = De at hag iD hdk hdn
  clear C₃ x₄ fr₄ hg₄ hm item hdiv hp4 a5 a6 a7 hDe
  dsimp only
  repeat walk_at "ev"
  rename_i h₅ C₅
  clear C₄
  have hwas : ((encD reply B).length == (encD reply De).length && dsame (encD reply B) (encD reply De)) = true := by
    obtain ⟨hl, hx, _⟩ := hag
    rw [Bool.and_eq_true]
    refine ⟨by rw [beq_iff_eq]; unfold encD; rw [List.length_map, List.length_map, hl], ?_⟩
    unfold dsame
    rw [List.all_eq_true]
    intro x hx'
    unfold encD at hx'
    obtain ⟨y, hy, rfl⟩ := List.mem_map.mp hx'
    rw [enc_get reply_inj, hx y hy]
    exact beq_self_eq_true _
  have hdu : ∀ {o' : List (Addr × Obj)}, (du, duo) ∈ (du, duo) :: o' := List.mem_cons_self
  refine neD (C₅.get_old (by walk_at "mem")) (C₅.get_old (by walk_at "mem")) iB iD lto ldu (by exact R.lt) ?_
  rw [hwas]
  repeat walk_at "ev"
  refine evF 3 (by assumption) (by decide) (by walk_at "ty") (by walk_at "ty") (by assumption) ?_ (by walk_at "ty") (by walk_at "ty") (by decide) (by walk_at "ty") (by walk_at "ty") (by walk_at "ty")
  repeat walk_at "ev"
  dsimp only
  refine ⟨C₅.hTop, ?_⟩
  refine count_spec S (R.le (by decide)) (by exact C₅.hTop) (by exact C₅.get_old (by walk_at "mem")) iB lto fun t₆ h₆ tk₆ x₆ => ?_
  have C₆ := C₅.keeps x₆
  clear C₅ x₆
  have hvs : vsum (encD reply B) = (De.map (·.2)).sum := by
    rw [← hag.2.2]; unfold vsum encD; rw [List.map_map]; rfl
  rw [hvs]
  dsimp only
  repeat walk_at "ev"
  obtain ⟨vals, hdv, hev⟩ := id iD
  have hda : ∀ {h : Heap}, h.get? du = some duo → h.DictOf (PySem.strKind prog w) du (intPairs vals) := fun e => Heap.dictOf_iff.mpr ⟨duo, e, hdv⟩
  have hlen : (intPairs vals).length = De.length := by rw [← strip_len, ← hev]; exact List.length_map ..
  have hnd : (De.map (·.1)).Nodup := enc_nodup iD.nodup
  have hkey : ∀ {i : Nat} {k : Str} {v : Value}, (intPairs vals)[i]? = some (k, v) → ∃ x : List Nat × Int, De[i]? = some x ∧ k = reply x.1 := by
    intro i k v hk
    obtain ⟨n₁, t₁, rfl, hk'⟩ := strip_at hk
    rw [← hev] at hk'
    unfold encD at hk'
    rw [List.getElem?_map] at hk'
    cases hx : De[i]? with
    | none => rw [hx] at hk'; cases hk'
    | some x => rw [hx] at hk'; exact ⟨x, rfl, (Prod.mk.inj (Option.some.inj hk')).1.symm⟩
  refine eval_comp_list rfl ?_
  refine listComp0 (H₀ := H₀) (Base := Base) (oc := oc22) (ps := []) (qs := []) (by with_unfolding_all rfl) (lk_one (by with_unfolding_all rfl)) rfl (by decide) (fun _ _ => rfl) (fun _ => rfl) ?_
  repeat walk_at "ev"
  refine ⟨_, _, [du], _, _, _, _, fun i ys' olds' => olds' = [] ∧ IntsAre ys' ((De.map (·.2)).take i), by rw [hlen]; show _ ≤ 16777216; (first | lia | omega), C₆, ?_, iter_dict (by exact R.hh) ldu (hda (C₆.get_old hdu)), ⟨rfl, .nil⟩, ?_, ?_⟩
  · intro b hb
    rw [List.mem_singleton.mp hb]
    exact ⟨_, C₆.get_old hdu⟩
  · rintro i v D₇ ys₇ L₇ olds₇ h₇ tk₇ Base₇ m₇ cm₇ ps₇ qs₇ hi htk hP ⟨rfl, hJ⟩ hB ho hcm hB2 C₇
    obtain ⟨k, tk', v', hk, rfl⟩ := hP
    obtain ⟨⟨k₀, c⟩, hxi, rfl⟩ := hkey hk
    refine asL C₇ (fun h₈ C₈ => ?_) rfl rfl
    clear C₇
    show wpAny _ _ (pure true) _ _ _
    refine wpAny_pure (iteT rfl ?_)
    have hcd : cm₇ "due" = some (.ref du) := (hcm _).trans (by walk_at "lk")
    dsimp only
    repeat walk_at "ev"
    refine itemD (C₈.base _ _ (hB _ _ (C₆.get_old hdu))) iD (by rw [enc_get reply_inj]; exact gget_of hnd (List.mem_of_getElem? hxi)) (fun t => ?_) (by walk_at "ty") (by walk_at "ty")
    refine ⟨_, _, _, _, _, _, rfl, C₈, rfl, ⟨rfl, ?_⟩, fun p hp => (nomatch hp), hcm⟩
    rw [List.take_add_one, List.getElem?_map, hxi]
    exact ints_snoc hJ _ _
  · rintro D₇ ys₇ h₇ tk₇ olds₇ htk C₇ fr₇ ⟨rfl, hJ⟩
    rw [hlen, List.take_of_length_le (by rw [List.length_map]; exact Nat.le_refl _)] at hJ
    clear C₆
    show wpAny _ _ _ _ _ _
    dsimp only
    repeat walk_at "ev"
    refine sum_C C₇ (by exact R.hh) (lst_is (C₇.get_old List.mem_cons_self)) hJ fun h₈ tk₈ t₈ C₈ => ?_
    clear C₇
    dsimp only
    repeat walk_at "ev"
    refine iteF (by simp) ?_
    refine isTrue_or_nil ?_
    refine iteF rfl ?_
    refine wpAny_execs_nil ?_
    show wpAny _ _ (execs ((dBody (stmtAt 22)).drop 7) _) _ _ _
    refine law_end (u1 := u1) (u2 := u2) (u3 := u3) S J R (by exact C₈) (List.mem_cons_of_mem _ (by exact List.mem_cons_self)) iD ldu hdk hdn (hjin.mono fun p hp => List.mem_cons_of_mem _ (List.mem_cons_of_mem _ (by exact List.mem_cons_of_mem _ hp))) hbs hbt hW (by walk_at "lk") (by walk_at "lk") (by walk_at "lk") (by walk_at "lk") (by walk_at "lk") (fun h' tk' hb => hQ h' tk' hb)

end
-- part G20

section
variable {prog : Program} {w : World} {A : Around} {H₀ : Heap} {mg mb : Str → Option Value} {fa : Nat → Addr} {E : Value → Shared → Prop} {s : Shared}
set_option maxHeartbeats 8000000 in
theorem law_mid {K : Frag} {C f g : Addr} (S : Stat mg mb fa H₀) (J : Judge K C f g H₀) (M : Maker K C g H₀ mg) (R : Room 4 A) {a L : Addr} {cd : Value} {Base : Addr → Obj → Prop} {m cm : Str → Option Value} {olds : List (Addr × Obj)} {dr : Addr} {od : Obj} {ys : List Value} {d5 d6 d7 bs bt : Int} {W : List Nat} {t5 t6 t7 u1 u2 u3 : Tok}
    (C₁ : Cx H₀ Base (env22 L a cd) oc22 [] [] m cm olds [] s.heap) (hdr : (dr, od) ∈ olds) (ilo : IsLO od ys) (hyl : ys.length = 8) (a5 : ys[5]? = some (.int d5 t5)) (a6 : ys[6]? = some (.int d6 t6)) (a7 : ys[7]? = some (.int d7 t7))
    (hbs : bs = 1 ∨ bs = -1) (hbt : bt = 1 ∨ bt = -1) (hW : W.length ≤ 5) (hm : LawMath W d5 d6) (hp4 : Builtin.divisionGoesByPylong d7 4 = false)
    (hmd : m "draws" = some (.ref dr)) (hmw : m "word" = some (.str (tx W) u1)) (hm1 : m "by_size" = some (.int bs u2)) (hm2 : m "by_text" = some (.int bt u3))
    {Q : Flow → Shared → Prop} (hQ : ∀ h' tk', (∀ b o, Base b o → h'.get? b = some o) → Q (.ret (.bool true)) { s with heap := h', toks := tk' }) :
    wpAny (model prog w) A (execs ((dBody (stmtAt 22)).drop 3) (env22 L a cd)) Q No s := by
  (conv in execs (List.drop _ _) _ => (arg 1; whnf))
  repeat walk_at "ev"
  refine Call_ (nmG S C₁ M.nm ?_) (by walk_at "ty")
  refine callWith_K J.X M.kc ?_ (by walk_at "ty") (by walk_at "ty")
  repeat walk_at "ev"
  refine newTuple_C C₁ (fun T₀ h₉ fr₉ x₉ C₉ => ?_) (by show 2 ≤ 16777216; decide)
  repeat walk_at "ev"
  try dsimp only
  refine newTuple_C C₉ (fun T₁ h₁₀ fr₁₀ x₁₀ C₁₀ => ?_) (by show 2 ≤ 16777216; decide)
  repeat walk_at "ev"
  try dsimp only
  refine newList_C C₁₀ (fun jl h₁₁ fr₁₁ x₁₁ C₁₁ => ?_) (by show 2 ≤ 16777216; decide)
  clear C₁ C₉ C₁₀ x₉ x₁₀ x₁₁ fr₉ fr₁₀ fr₁₁
  repeat walk_at "ev"
  refine ⟨J.X.keeps C₁₁.hTop, ?_⟩
  refine make_judge S J M (R.le (by decide)) (by exact C₁₁.hTop) ⟨_, C₁₁.get_old (by walk_at "mem"), rfl, _, rfl⟩ (tup_is (C₁₁.get_old (by walk_at "mem"))) (tup_is (C₁₁.get_old (by walk_at "mem"))) fun j dx es n h₁₂ tk₁₂ jn dn x₁₂ jg dg g1 g2 => ?_
  have C₁₂ := (C₁₁.addOld x₁₂ jn jg).both (C₁₁.addOld x₁₂ dn dg)
  clear C₁₁ x₁₂
  try dsimp only
  repeat walk_at "st"
  rename_i h₁₃ C₁₃
  clear C₁₂
  show wpAny _ _ (execs ((dBody (stmtAt 22)).drop 4) _) _ _ _
  have hup : ∀ p ∈ olds, p ∈ (j, instObj C dx) :: (dx, dictOf es n) :: (jl, ({ cls := .type "list", data := .seq (List.toArray [Value.ref T₀, Value.ref T₁]) } : Obj)) :: (T₁, tup [Value.int 1 (s.toks + 1), Value.int bt u3]) :: (T₀, tup [Value.int 0 s.toks, Value.int bs u2]) :: olds := fun p hp => by walk_at "mem"
  refine law_tail (u1 := u1) (u2 := u2) (u3 := u3) S J R (by exact C₁₃) (hup _ hdr) ilo hyl a5 a6 a7 ⟨dx, es, n, jl, T₀, T₁, _, _, _, _, by walk_at "mem", by walk_at "mem", g1, g2, by walk_at "mem", by walk_at "mem", by walk_at "mem"⟩ hbs hbt hW hm hp4 (by walk_at "lk") (by walk_at "lk") (by walk_at "lk") (by walk_at "lk") (by walk_at "lk") (fun h' tk' hb => hQ h' tk' hb)

end
-- part G17

section
variable {prog : Program} {w : World} {A : Around} {H₀ : Heap} {mg mb : Str → Option Value} {fa : Nat → Addr} {E : Value → Shared → Prop} {s : Shared}
theorem fold_join (zs : List (List Nat)) : ∀ acc : List Nat, ((zs.map tx).foldl (fun acc p => acc ++ (Str.ofString "").cps ++ p.cps) acc.toArray) = (acc ++ zs.flatten).toArray := by
  induction zs with
  | nil => intro acc; simp
  | cons z zs ih =>
    intro acc
    rw [List.map_cons, List.foldl_cons]
    have e : acc.toArray ++ (Str.ofString "").cps ++ (tx z).cps = (acc ++ z).toArray := by
      show acc.toArray ++ #[] ++ z.toArray = _
      simp
    rw [e, ih, List.flatten_cons, List.append_assoc]
theorem join_words (zs : List (List Nat)) : Txt.join (Str.ofString "") (zs.map tx) = tx zs.flatten := by
  cases zs with
  | nil => rfl
  | cons z zs =>
    refine tx_ext ?_
    show (List.foldl (fun acc p => acc ++ (Str.ofString "").cps ++ p.cps) (tx z).cps (zs.map tx)).toList = _
    rw [show (tx z).cps = z.toArray from rfl, fold_join]
    simp
theorem flat_letters (ds : List Int) : (ds.map fun d => [letter d]).flatten = ds.map letter := by
  induction ds with
  | nil => rfl
  | cons d ds ih => rw [List.map_cons, List.flatten_cons, ih]; rfl
set_option maxHeartbeats 8000000 in
theorem law_body {K : Frag} {C f g : Addr} (S : Stat mg mb fa H₀) (J : Judge K C f g H₀) (M : Maker K C g H₀ mg) (R : Room 4 A) {a L l : Addr} {cd : Value} {Base : Addr → Obj → Prop} {m cm : Str → Option Value} {vs : List Value} {ns : List Int}
    (C₁ : Cx H₀ Base (env22 L a cd) oc22 [] [] m cm [] [] s.heap) (hms : m "script" = some (.ref l)) (hl : ∀ h' : Heap, (∀ b o, Base b o → h'.get? b = some o) → h'.IsList l vs.toArray) (hi : IntsAre vs ns) (hn : ns.length ≤ 63)
    (hm : LawMath ((drawsTo ns (min 60 ns.length)).take 5 |>.map letter) ((drawsTo ns (min 60 ns.length)).getD 5 0) ((drawsTo ns (min 60 ns.length)).getD 6 0))
    (hp2 : Builtin.divisionGoesByPylong ((drawsTo ns (min 60 ns.length)).getD 7 0) 2 = false) (hp4 : Builtin.divisionGoesByPylong ((drawsTo ns (min 60 ns.length)).getD 7 0) 4 = false)
    {Q : Flow → Shared → Prop} (hQ : ∀ h' tk', (∀ b o, Base b o → h'.get? b = some o) → Q (.ret (.bool true)) { s with heap := h', toks := tk' }) :
    wpAny (model prog w) A (execs (dBody (stmtAt 22)) (env22 L a cd)) Q No s := by
  generalize hds : drawsTo ns (min 60 ns.length) = ds at hm hp2 hp4
  have hdl : ds.length = 8 := by rw [← hds]; exact drawsTo_len _ _
  walk_at "body"
  repeat walk_at "ev"
  refine evF 16 (by assumption) (by decide) (by walk_at "ty") (by walk_at "ty") (by assumption) ?_ (by walk_at "ty") (by walk_at "ty") (by decide) (by walk_at "ty") (by walk_at "ty") (by walk_at "ty")
  repeat walk_at "ev"
  refine ⟨C₁.hTop, ?_⟩
  refine draws_spec S (R.le (by decide)) C₁.hTop (hl _ C₁.base) hi (by (first | lia | omega)) fun dr h₂ tk₂ od ys fr₂ x₂ hd₂ ilo iys => ?_
  rw [hds] at iys
  have C₂ := C₁.addOld x₂ fr₂.none hd₂
  clear C₁ x₂ fr₂ hd₂
  repeat walk_at "ev"
  rename_i h₃ C₃
  clear C₂
  have hyl : ys.length = 8 := by rw [ints_len iys, hdl]
  have dmem : ∀ {h : Heap} {o' : List (Addr × Obj)}, (dr, od) ∈ o' → (∀ p ∈ o', h.get? p.1 = some p.2) → h.IsList dr ys.toArray := fun hm hk => ilo.list (hk _ hm)
  have dat : ∀ i, i < 8 → ∃ t, ys[i]? = some (.int (ds.getD i 0) t) := fun i hi8 => by
    obtain ⟨d, t, e1, e2⟩ := ints_at iys (List.getElem?_eq_getElem (by (first | lia | omega) : i < ys.length))
    refine ⟨t, ?_⟩
    rw [List.getElem?_eq_getElem (by (first | lia | omega) : i < ys.length), e1, List.getD_eq_getElem?_getD, e2]; rfl
  refine eval_comp_list rfl ?_
  refine listComp0 (H₀ := H₀) (Base := Base) (oc := oc22) (ps := []) (qs := []) (by with_unfolding_all rfl) lk_nil rfl (by decide) (fun _ _ => rfl) (fun _ => rfl) ?_
  repeat walk_at "ev"
  refine sliceL_C (b := 5) C₃ (dmem List.mem_cons_self fun p hp => C₃.get_old hp) (by (first | lia | omega)) (fun DS h₄ fr₄ x₄ C₄ => ?_) (by with_unfolding_all rfl) (by intro _; with_unfolding_all rfl)
  clear C₃ x₄ fr₄
  dsimp only
  have hDS : h₄.IsList DS (ys.take 5).toArray := ⟨_, C₄.get_old List.mem_cons_self, rfl, _, rfl⟩
  have iy5 := ints_take iys 5
  have hsz : (ys.take 5).toArray.size = 5 := by rw [List.size_toArray, List.length_take]; (first | lia | omega)
  refine ⟨_, _, [DS], _, _, _, _, fun i ys' _ => strsAre ys' (((ds.take 5).take i).map fun d => [letter d]), by rw [hsz]; decide, C₄, ?_, iter_list R.hh hDS, .nil, ?_, ?_⟩
  · intro b hb
    rw [List.mem_singleton.mp hb]
    exact ⟨_, C₄.get_old List.mem_cons_self⟩
  · rintro i v D₅ ys₅ L₅ olds₅ h₅ tk₅ Base₅ m₅ cm₅ ps₅ qs₅ hi' htk hP hJ hB ho hcm hB2 C₅
    rw [List.getElem?_toArray] at hP
    obtain ⟨d, t, rfl, hd⟩ := ints_at iy5 hP
    refine asL C₅ (fun h₆ C₆ => ?_) rfl rfl
    clear C₅
    show wpAny _ _ (pure true) _ _ _
    refine wpAny_pure (iteT rfl ?_)
    dsimp only
    repeat walk_at "ev"
    refine chr_C 290 (by decide) ?_
    repeat walk_at "ev"
    refine chr_C 34 (by decide) ?_
    repeat walk_at "ev"
    refine chr_C 353 (by decide) ?_
    repeat walk_at "ev"
    refine chr_C 97 (by decide) ?_
    repeat walk_at "ev"
    dsimp only
    refine newList_C C₆ (fun sl h₇ fr₇ x₇ C₇ => ?_) (by show 4 ≤ 16777216; decide)
    have hn0 : h₄.get? sl = none := Ex.new (fun b o e => C₆.base b o (hB b o e)) fr₇.none
    repeat walk_at "ev"
    refine mod_int' (by decide) ?_
    have hm0 := Int.fmod_nonneg_of_pos d (b := 4) (by decide)
    have hm1 := Int.fmod_lt_of_pos d (b := 4) (by decide)
    have hval : ∀ {t1 t2 t3 t4 : Tok}, ∃ t5, (#[Value.str (tx [290]) t1, .str (tx [34]) t2, .str (tx [353]) t3, .str (tx [97]) t4] : Array Value)[(d.fmod 4).toNat]? = some (.str (tx [letter d]) t5) := by
      intro t1 t2 t3 t4
      unfold letter
      have : d.fmod 4 = 0 ∨ d.fmod 4 = 1 ∨ d.fmod 4 = 2 ∨ d.fmod 4 = 3 := by (first | lia | omega)
      rcases this with e | e | e | e <;> (rw [e]; exact ⟨_, rfl⟩)
    obtain ⟨t5, h5⟩ := hval
    have hsl : ∀ {h : Heap}, h.get? sl = h₇.get? sl → h.IsList sl _ := fun e => ⟨_, e.trans (C₇.get_old List.mem_cons_self), rfl, _, rfl⟩
    refine tail_any (hsl rfl).typeIs slot_list_getitem.lookup (wpAny_getItem_list (x := .str (tx [letter d]) t5) (hsl rfl) hm0 (by (first | lia | omega)) h5 ?_) (by walk_at "ty")
    refine ⟨_, _, _, _, _, _, rfl, C₇, rfl, ?_, ?_, hcm⟩
    · show strsAre _ (((ds.take 5).take (i + 1)).map fun d => [letter d])
      rw [List.take_add_one, hd, Option.toList_some, List.map_append]
      exact hJ.snoc _ _
    · intro p hp
      rcases List.mem_cons.mp hp with rfl | hp
      · exact .inr hn0
      · exact .inl hp
  · rintro D₅ ys₅ h₅ tk₅ olds₅ htk C₅ fr₅ hJ
    rw [hsz, List.take_of_length_le (by rw [List.length_take]; (first | lia | omega))] at hJ
    clear C₄
    show wpAny _ _ _ _ _ _
    dsimp only
    repeat walk_at "ev"
    have hflat : ((ds.take 5).map fun d => [letter d]).flatten = (ds.take 5).map letter := flat_letters _
    refine join_list (ys := ((ds.take 5).map fun d => [letter d]).map tx) (lst_is (C₅.get_old (List.mem_append_right _ List.mem_cons_self))) (by rw [List.toList_toArray]; exact strs_of hJ) ?_ fun t₆ k₆ => ?_
    · have h5 : (ds.take 5).length = 5 := by rw [List.length_take]; (first | lia | omega)
      have : ((((ds.take 5).map fun d => [letter d]).map tx).map (·.length)).sum = 5 := by
        rw [List.map_map, List.map_map]
        have e : (((fun x : Str => x.length) ∘ tx) ∘ fun d => [letter d]) = fun _ : Int => 1 := rfl
        rw [e, List.map_const', List.sum_replicate_nat, h5]
      rw [this]
      show 5 + _ * 0 ≤ 16777216
      (first | lia | omega)
    rw [join_words, hflat]
    generalize hW : (ds.take 5).map letter = W at hm
    repeat walk_at "ev"
    rename_i h₆ C₆
    clear C₅
    obtain ⟨t50, a50⟩ := dat 5 (by decide)
    obtain ⟨t60, a60⟩ := dat 6 (by decide)
    obtain ⟨t70, a70⟩ := dat 7 (by decide)
    have hdm : (dr, od) ∈ olds₅ ++ (D₅, lst ys₅) :: [(DS, ({ cls := .type "list", data := .seq (ys.take 5).toArray } : Obj)), (dr, od)] := List.mem_append_right _ (by walk_at "mem")
    have item : ∀ {k : Nat} {t : Tok} {h : Heap} {d : Int}, ys[k]? = some (.int d t) → h.get? dr = some od → k < 8 → ∀ {value slice : Expr} {u : Tok} {s₀ : Shared} {Q₀ : Value → Shared → Prop}, s₀.heap = h → Q₀ (.int d t) s₀ →
        subscripted slice false (.ref dr) (.int (k : Int) u) = operate [.ref dr, .int (k : Int) u] (getItem (.ref dr) (.int (k : Int) u)) → (∀ r, letTemporaryGo value (.ref dr) r = pure ()) →
        wpAny (model prog w) A (subscriptTail value slice (.ref dr) (.int (k : Int) u)) Q₀ No s₀ := by
      intro k t h d hk hh hk8 value slice u s₀ Q₀ hs0 hq h1 h2
      subst hs0
      exact item_list (x := .int d t) (ilo.list hh) (Int.natCast_nonneg _) (by (first | lia | omega)) (by rw [Int.toNat_natCast, List.getElem?_toArray]; exact hk) hq h1 h2
    refine item (k := 7) a70 (C₆.get_old hdm) (by decide) rfl ?_ (by walk_at "ty") (by walk_at "ty")
    repeat walk_at "ev"
    have b2 : Builtin.Int.intBits 2 ≤ 64 := by decide
    have pm : ∀ x : Int, x.fmod 2 * 2 - 1 = 1 ∨ x.fmod 2 * 2 - 1 = -1 := fun x => by
      have h0 := Int.fmod_nonneg_of_pos x (b := 2) (by decide)
      have h1 := Int.fmod_lt_of_pos x (b := 2) (by decide)
      (first | lia | omega)
    refine mod_int' (by decide) ?_
    repeat walk_at "ev"
    refine mul_int ?_ (IntMulOk.of_right b2)
    repeat walk_at "ev"
    refine item (k := 7) a70 (C₆.get_old hdm) (by decide) rfl ?_ (by walk_at "ty") (by walk_at "ty")
    repeat walk_at "ev"
    have hdiv : ∀ {x : Value → Shared → Prop} {s₀ : Shared} {t u : Tok}, x (.int ((ds.getD 7 0).fdiv 2) s₀.toks) { s₀ with toks := s₀.toks + 1 } → wpAny (model prog w) A (binaryOp .FloorDiv (.int (ds.getD 7 0) t) (.int 2 u)) x No s₀ := fun hx => floordiv_int (by decide) hx (Or.inl hp2)
    refine hdiv ?_
    repeat walk_at "ev"
    refine mod_int' (by decide) ?_
    repeat walk_at "ev"
    refine mul_int ?_ (IntMulOk.of_right b2)
    repeat walk_at "ev"
    have hbs := pm (ds.getD 7 0)
    have hbt := pm ((ds.getD 7 0).fdiv 2)
    dsimp only
    refine newTuple_C C₆ (fun T h₇ fr₇ x₇ C₇ => ?_) (by show 2 ≤ 16777216; decide)
    refine swap2 R.hh C₇ (C₇.get_old (by walk_at "mem")) (fun h₈ C₈ => ?_) rfl rfl rfl
    clear C₆ C₇ x₇ fr₇
    have hW5 : W.length ≤ 5 := by rw [← hW, List.length_map, List.length_take]; (first | lia | omega)
    show wpAny _ _ (execs ((dBody (stmtAt 22)).drop 3) _) _ _ _
    refine law_mid (u1 := t₆) S J M R (by exact C₈) (List.mem_cons_of_mem _ hdm) ilo hyl a50 a60 a70 hbs hbt hW5 hm hp4 (by walk_at "lk") (by walk_at "lk") (by walk_at "lk") (by walk_at "lk") (fun h' tk' hb => hQ h' tk' hb)

end
-- part G21

section
variable {prog : Program} {w : World} {A : Around} {H₀ : Heap} {mg mb : Str → Option Value} {fa : Nat → Addr} {E : Value → Shared → Prop} {s : Shared}
set_option maxHeartbeats 8000000 in
theorem law_spec {K : Frag} {C f g a : Addr} (S : Stat mg mb fa H₀) (J : Judge K C f g H₀) (M : Maker K C g H₀ mg) (hf : FnAt H₀ mg (stmtAt 22) a) (R : Room 5 A) (hs : Ex H₀ s.heap) {l : Addr} {vs : List Value} {ns : List Int}
    (hl : s.heap.IsList l vs.toArray) (hi : IntsAre vs ns) (hn : ns.length ≤ 63)
    (hm : LawMath ((drawsTo ns (min 60 ns.length)).take 5 |>.map letter) ((drawsTo ns (min 60 ns.length)).getD 5 0) ((drawsTo ns (min 60 ns.length)).getD 6 0))
    (hp2 : Builtin.divisionGoesByPylong ((drawsTo ns (min 60 ns.length)).getD 7 0) 2 = false) (hp4 : Builtin.divisionGoesByPylong ((drawsTo ns (min 60 ns.length)).getD 7 0) 4 = false)
    {Q : Value → Shared → Prop} (hQ : ∀ h' tk', Ex s.heap h' → Q (.bool true) { s with heap := h', toks := tk' }) :
    wpAny (model prog w) A (call (.ref a) [.ref l]) Q E s := by
  refine enter (oc := oc22) (binds := [("script", .ref l)]) S hf hs R.room (fun _ _ _ => rfl) (kinds_of rfl) ?_
  intro L cd h₁ tk k₁ C₁
  refine law_body S J M R.deeper (by exact C₁) rfl (fun h' hb => IsList.ex hb hl) hi hn hm hp2 hp4 fun h' tk' hb => ?_
  exact hQ h' tk' hb

end
end Mine
namespace Mine
-- part M1

section
variable {prog : Program} {w : World} {A : Around} {H₀ : Heap} {mg mb : Str → Option Value} {fa : Nat → Addr} {E : Value → Shared → Prop} {s : Shared}
/-! plain facts of the counts -/
def keys (D : WD) : List (List Nat) := D.map (·.1)
theorem gput_nil (k : List Nat) (v : Int) : gput [] k v = [(k, v)] := rfl
theorem gput_cons_eq {k : List Nat} {b v : Int} {D : WD} (hn : k ∉ keys D) : gput ((k, b) :: D) k v = (k, v) :: D := by
  unfold gput
  rw [if_pos (by simp), List.map_cons, if_pos rfl]
  congr 1
  conv => rhs; rw [← List.map_id D]
  refine List.map_congr_left fun x hx => ?_
  rw [if_neg]
  · rfl
  · intro e; exact hn (e ▸ List.mem_map_of_mem hx)
theorem gput_cons_ne {a k : List Nat} {b v : Int} {D : WD} (hn : a ≠ k) : gput ((a, b) :: D) k v = (a, b) :: gput D k v := by
  unfold gput
  rw [List.any_cons, decide_eq_false (p := (a, b).1 = k) hn, Bool.false_or]
  by_cases h : D.any (fun x => decide (x.1 = k)) = true
  · rw [if_pos h, if_pos h, List.map_cons, if_neg (by exact hn)]
  · rw [if_neg h, if_neg h]; rfl
theorem gget_nil (k : List Nat) : gget [] k = none := rfl
theorem gget_cons_eq {k : List Nat} {b : Int} {D : WD} : gget ((k, b) :: D) k = some b := by
  unfold gget; rw [List.find?_cons]; simp
theorem gget_cons_ne {a k : List Nat} {b : Int} {D : WD} (hn : a ≠ k) : gget ((a, b) :: D) k = gget D k := by
  unfold gget; rw [List.find?_cons]; simp [hn]
theorem gadd_acc (D : WD) (x : List Nat × Int) : gadd D x = gacc D x := by
  unfold gadd gacc
  cases gget D x.1 with
  | none => simp
  | some n => rfl
theorem mem_keys_put {k z : List Nat} {v : Int} : ∀ {D : WD}, z ∈ keys (gput D k v) ↔ z ∈ keys D ∨ z = k
  | [] => by rw [gput_nil]; simp [keys]
  | (a, b) :: D => by
    have ih := mem_keys_put (k := k) (z := z) (v := v) (D := D)
    by_cases h : a = k
    · subst h
      unfold gput
      rw [if_pos (by simp)]
      have e : keys (List.map (fun x => if x.1 = a then (x.1, v) else x) ((a, b) :: D)) = keys ((a, b) :: D) := by
        unfold keys; rw [List.map_map]
        refine List.map_congr_left fun x _ => ?_
        show (if x.1 = a then (x.1, v) else x).1 = x.1
        split <;> rfl
      rw [e]
      constructor
      · exact .inl
      · rintro (h | rfl)
        · exact h
        · exact List.mem_cons_self
    · rw [gput_cons_ne h]
      show z ∈ a :: keys (gput D k v) ↔ z ∈ a :: keys D ∨ z = k
      rw [List.mem_cons, List.mem_cons, ih]
      exact or_assoc.symm
theorem nodup_put {k : List Nat} {v : Int} : ∀ {D : WD}, (keys D).Nodup → (keys (gput D k v)).Nodup
  | [], _ => by rw [gput_nil]; exact List.nodup_cons.mpr ⟨List.not_mem_nil, List.nodup_nil⟩
  | (a, b) :: D, h => by
    have h' := List.nodup_cons.mp (show (a :: keys D).Nodup from h)
    by_cases e : a = k
    · subst e; rw [gput_cons_eq h'.1]; exact h
    · rw [gput_cons_ne e]
      refine List.nodup_cons.mpr ⟨fun hm => ?_, nodup_put h'.2⟩
      rcases mem_keys_put.mp hm with hm | hm
      · exact h'.1 hm
      · exact e hm
def ev (f : List Nat → Int) (D : WD) : Int := (D.map fun x => x.2 * f x.1).sum
theorem ev_nil (f : List Nat → Int) : ev f [] = 0 := rfl
theorem ev_cons (f : List Nat → Int) (x : List Nat × Int) (D : WD) : ev f (x :: D) = x.2 * f x.1 + ev f D := rfl
theorem ev_append (f : List Nat → Int) (D S : WD) : ev f (D ++ S) = ev f D + ev f S := by
  unfold ev; rw [List.map_append, List.sum_append]
theorem ev_acc {f : List Nat → Int} {y : List Nat × Int} : ∀ {D : WD}, (keys D).Nodup → ev f (gacc D y) = ev f D + y.2 * f y.1
  | [], _ => by
    unfold gacc; rw [gget_nil, gput_nil, ev_cons, ev_nil]; simp
  | (a, b) :: D, h => by
    have h' := List.nodup_cons.mp (show (a :: keys D).Nodup from h)
    have ih := ev_acc (f := f) (y := y) h'.2
    obtain ⟨k, v⟩ := y
    unfold gacc at ih ⊢
    by_cases e : a = k
    · subst e
      rw [gget_cons_eq, gput_cons_eq h'.1, ev_cons, ev_cons]
      show (b + v) * f a + ev f D = _
      rw [Int.add_mul]; simp only []; (first | lia | omega)
    · rw [gget_cons_ne e, gput_cons_ne e, ev_cons, ih, ev_cons]; (first | lia | omega)
theorem keys_acc {y : List Nat × Int} {D : WD} {z : List Nat} : z ∈ keys (gacc D y) ↔ z ∈ keys D ∨ z = y.1 := mem_keys_put
theorem nodup_acc {y : List Nat × Int} {D : WD} (h : (keys D).Nodup) : (keys (gacc D y)).Nodup := nodup_put h
theorem ev_fold {f : List Nat → Int} : ∀ (S : WD) {D : WD}, (keys D).Nodup → ev f (S.foldl gacc D) = ev f D + ev f S
  | [], D, _ => by rw [ev_nil]; simp
  | y :: S, D, h => by
    rw [List.foldl_cons, ev_fold S (nodup_acc h), ev_acc h, ev_cons]; (first | lia | omega)
theorem keys_fold : ∀ (S : WD) {D : WD} {z : List Nat}, z ∈ keys (S.foldl gacc D) ↔ z ∈ keys D ∨ z ∈ keys S
  | [], D, z => by simp [keys]
  | y :: S, D, z => by
    rw [List.foldl_cons, keys_fold S, keys_acc, or_assoc]
    show _ ↔ _ ∨ z ∈ y.1 :: keys S
    rw [List.mem_cons]
theorem nodup_fold : ∀ (S : WD) {D : WD}, (keys D).Nodup → (keys (S.foldl gacc D)).Nodup
  | [], D, h => h
  | y :: S, D, h => by rw [List.foldl_cons]; exact nodup_fold S (nodup_acc h)
theorem gmerge_eq (D S : WD) : gmerge D S = S.foldl gacc D := by
  unfold gmerge
  have : gadd = gacc := by funext D x; exact gadd_acc D x
  rw [this]
/-- a measure of the keys -/
def wt (μ : List Nat → Nat) (D : WD) : Nat := (D.map fun x => μ x.1).sum
theorem wt_cons (μ : List Nat → Nat) (x : List Nat × Int) (D : WD) : wt μ (x :: D) = μ x.1 + wt μ D := rfl
theorem wt_acc {μ : List Nat → Nat} {y : List Nat × Int} : ∀ {D : WD}, (keys D).Nodup → wt μ (gacc D y) ≤ wt μ D + μ y.1
  | [], _ => by unfold gacc; rw [gput_nil, wt_cons]; exact Nat.le_of_eq (Nat.add_comm _ _)
  | (a, b) :: D, h => by
    have h' := List.nodup_cons.mp (show (a :: keys D).Nodup from h)
    have ih := wt_acc (μ := μ) (y := y) h'.2
    obtain ⟨k, v⟩ := y
    unfold gacc at ih ⊢
    by_cases e : a = k
    · subst e
      rw [gput_cons_eq h'.1, wt_cons, wt_cons]; simp only []; (first | lia | omega)
    · rw [gget_cons_ne e, gput_cons_ne e, wt_cons, wt_cons]; simp only [] at ih ⊢; (first | lia | omega)
theorem wt_fold {μ : List Nat → Nat} : ∀ (S : WD) {D : WD}, (keys D).Nodup → wt μ (S.foldl gacc D) ≤ wt μ D + wt μ S
  | [], D, _ => Nat.le_add_right _ _
  | y :: S, D, h => by
    rw [List.foldl_cons, wt_cons]
    have h1 := wt_fold (μ := μ) S (nodup_acc (y := y) h)
    have h2 := wt_acc (μ := μ) (y := y) h
    (first | lia | omega)
theorem wt_len {μ : List Nat → Nat} (h1 : ∀ z, 1 ≤ μ z) : ∀ D : WD, D.length ≤ wt μ D
  | [] => Nat.le_refl _
  | x :: D => by
    have := wt_len h1 D
    have := h1 x.1
    rw [wt_cons, List.length_cons]; (first | lia | omega)
/-- what stands but one -/
def but (t : List Nat) (D : WD) : WD := D.filter fun x => decide (x.1 ≠ t)
theorem but_of_not {t : List Nat} {D : WD} (h : t ∉ keys D) : but t D = D := by
  unfold but
  refine List.filter_eq_self.mpr fun x hx => decide_eq_true fun e => h (e ▸ List.mem_map_of_mem hx)
theorem keys_but {t z : List Nat} {D : WD} : z ∈ keys (but t D) ↔ z ∈ keys D ∧ z ≠ t := by
  unfold keys but
  constructor
  · intro h
    obtain ⟨x, hx, rfl⟩ := List.mem_map.mp h
    obtain ⟨h1, h2⟩ := List.mem_filter.mp hx
    exact ⟨List.mem_map_of_mem h1, of_decide_eq_true h2⟩
  · rintro ⟨h, hn⟩
    obtain ⟨x, hx, rfl⟩ := List.mem_map.mp h
    exact List.mem_map_of_mem (List.mem_filter.mpr ⟨hx, decide_eq_true hn⟩)
theorem nodup_but {t : List Nat} {D : WD} (h : (keys D).Nodup) : (keys (but t D)).Nodup := h.sublist (List.filter_sublist.map _)
theorem ev_but {f : List Nat → Int} {t : List Nat} {c : Int} : ∀ {D : WD}, (keys D).Nodup → (t, c) ∈ D → ev f D = c * f t + ev f (but t D)
  | x :: D, h, hm => by
    have h' := List.nodup_cons.mp (show (x.1 :: keys D).Nodup from h)
    by_cases e : x.1 = t
    · have hx : x = (t, c) := by
        rcases List.mem_cons.mp hm with r | r
        · exact r.symm
        · exact absurd (e ▸ List.mem_map_of_mem r : x.1 ∈ keys D) h'.1
      subst hx
      have : but t ((t, c) :: D) = D := by
        show List.filter _ _ = _
        rw [List.filter_cons_of_neg (by simp)]
        exact but_of_not h'.1
      rw [this, ev_cons]
    · have hm' : (t, c) ∈ D := by
        rcases List.mem_cons.mp hm with r | r
        · exact absurd (congrArg Prod.fst r).symm e
        · exact r
      have : but t (x :: D) = x :: but t D := by
        show List.filter _ _ = _
        rw [List.filter_cons_of_pos (by simpa using e)]; rfl
      rw [this, ev_cons, ev_cons, ev_but h'.2 hm']; (first | lia | omega)
theorem wt_but {μ : List Nat → Nat} {t : List Nat} {c : Int} : ∀ {D : WD}, (keys D).Nodup → (t, c) ∈ D → wt μ D = μ t + wt μ (but t D)
  | x :: D, h, hm => by
    have h' := List.nodup_cons.mp (show (x.1 :: keys D).Nodup from h)
    by_cases e : x.1 = t
    · have : but t (x :: D) = D := by
        show List.filter _ _ = _
        rw [List.filter_cons_of_neg (by simpa using e)]
        exact but_of_not (e ▸ h'.1)
      rw [this, wt_cons, e]
    · have hm' : (t, c) ∈ D := by
        rcases List.mem_cons.mp hm with r | r
        · exact absurd (congrArg Prod.fst r).symm e
        · exact r
      have : but t (x :: D) = x :: but t D := by
        show List.filter _ _ = _
        rw [List.filter_cons_of_pos (by simpa using e)]; rfl
      rw [this, wt_cons, wt_cons, wt_but h'.2 hm']; (first | lia | omega)

end
-- part M3

section
variable {prog : Program} {w : World} {A : Around} {H₀ : Heap} {mg mb : Str → Option Value} {fa : Nat → Addr} {E : Value → Shared → Prop} {s : Shared}
theorem sum_scale (q : Int) {α : Type} (f : α → Int) : ∀ l : List α, (l.map fun k => q * f k).sum = q * (l.map f).sum
  | [] => by simp
  | a :: l => by rw [List.map_cons, List.map_cons, List.sum_cons, List.sum_cons, sum_scale q f l, Int.mul_add]
theorem sum_two (q r : Int) {α : Type} (f g : α → Int) : ∀ l : List α, (l.map fun k => q * f k + r * g k).sum = q * (l.map f).sum + r * (l.map g).sum
  | [] => by simp
  | a :: l => by
    rw [List.map_cons, List.map_cons, List.map_cons, List.sum_cons, List.sum_cons, List.sum_cons, sum_two q r f g l, Int.mul_add, Int.mul_add]; (first | lia | omega)
/-- a raiser set against each lowerer of its own -/
def csum (q h : Int) (G : List Nat → Int) (s : Nat) (L : List Nat) : Int := ((List.range L.length).map fun k => if L[k]? = some (s + 256) then h * q ^ (L.length - 1 - k) * G (L.take k ++ L.drop (k + 1)) else 0).sum
theorem csum_nil (q h : Int) (G : List Nat → Int) (s : Nat) : csum q h G s [] = 0 := rfl
theorem csum_two (q h a b : Int) (G H : List Nat → Int) (s : Nat) (L : List Nat) : csum q h (fun L' => a * G L' + b * H L') s L = a * csum q h G s L + b * csum q h H s L := by
  unfold csum
  rw [← sum_two]
  congr 1
  refine List.map_congr_left fun k _ => ?_
  split
  · rw [Int.mul_add, Int.mul_left_comm, Int.mul_left_comm _ b]
  · simp
theorem csum_snoc (q h : Int) (G : List Nat → Int) (s a : Nat) (L : List Nat) : csum q h G s (L ++ [a]) = q * csum q h (fun L' => G (L' ++ [a])) s L + (if a = s + 256 then h else 0) * G L := by
  unfold csum
  rw [List.length_append, List.length_singleton, List.range_succ, List.map_append, List.sum_append, ← sum_scale]
  congr 1
  · congr 1
    refine List.map_congr_left fun k hk => ?_
    have hk := List.mem_range.mp hk
    rw [List.getElem?_append_left hk, List.take_append_of_le_length (by (first | lia | omega)), List.drop_append_of_le_length (by (first | lia | omega)), show L.length + 1 - 1 - k = (L.length - 1 - k) + 1 by (first | lia | omega), Int.pow_succ, ← List.append_assoc]
    split
    · generalize q ^ (L.length - 1 - k) = x
      show h * (x * q) * G (List.take k L ++ List.drop (k + 1) L ++ [a]) = q * (h * x * G (List.take k L ++ List.drop (k + 1) L ++ [a]))
      generalize G (List.take k L ++ List.drop (k + 1) L ++ [a]) = y
      show h * (x * q) * y = q * (h * x * y)
      ac_rfl
    · simp
  · rw [List.map_singleton, List.sum_singleton, List.getElem?_concat_length, List.take_append_of_le_length (Nat.le_refl _), List.take_length, List.drop_of_length_le (by rw [List.length_append]; simp), List.append_nil]
    by_cases e : a = s + 256
    · rw [if_pos (by rw [e]), if_pos e, show L.length + 1 - 1 - L.length = 0 by (first | lia | omega), Int.pow_zero, Int.mul_one]
    · rw [if_neg (fun x => e (Option.some.inj x)), if_neg e, Int.zero_mul]
def FF (q h : Int) (φ : List Nat → List Nat → Int) : List Nat → List Nat → List Nat → Int
  | [], R, L => φ R L
  | s :: t, R, L => if 255 < s then FF q h φ t R (L ++ [s]) else q ^ L.length * FF q h φ t (R ++ [s]) L + csum q h (fun L' => FF q h φ t R L') s L
section
variable {q h : Int} {φ : List Nat → List Nat → Int}
theorem FF_low {s : Nat} {t R L : List Nat} (hs : 255 < s) : FF q h φ (s :: t) R L = FF q h φ t R (L ++ [s]) := if_pos hs
theorem FF_rai {s : Nat} {t R L : List Nat} (hs : ¬ 255 < s) : FF q h φ (s :: t) R L = q ^ L.length * FF q h φ t (R ++ [s]) L + csum q h (FF q h φ t R) s L := if_neg hs
theorem FF_swap {a b : Nat} {v : List Nat} (ha : 255 < a) (hb : ¬ 255 < b) : ∀ (u R L : List Nat),
    FF q h φ (u ++ [a, b] ++ v) R L = q * FF q h φ (u ++ [b, a] ++ v) R L + (if a = b + 256 then h else 0) * FF q h φ (u ++ v) R L
  | [], R, L => by
    show FF q h φ (a :: b :: v) R L = q * FF q h φ (b :: a :: v) R L + _ * FF q h φ v R L
    rw [FF_low ha, FF_rai hb, FF_rai hb, csum_snoc, FF_low ha]
    have e : FF q h φ (a :: v) R = fun L' => FF q h φ v R (L' ++ [a]) := funext fun L' => FF_low ha
    rw [e, Int.mul_add, List.length_append, List.length_singleton, Int.pow_succ, ← Int.mul_assoc q, Int.mul_comm q (q ^ L.length)]
    (first | lia | omega)
  | s :: u, R, L => by
    show FF q h φ (s :: (u ++ [a, b] ++ v)) R L = q * FF q h φ (s :: (u ++ [b, a] ++ v)) R L + _ * FF q h φ (s :: (u ++ v)) R L
    by_cases hs : 255 < s
    · rw [FF_low hs, FF_low hs, FF_low hs, FF_swap ha hb u]
    · rw [FF_rai hs, FF_rai hs, FF_rai hs, FF_swap ha hb u]
      have e : FF q h φ (u ++ [a, b] ++ v) R = fun L' => q * FF q h φ (u ++ [b, a] ++ v) R L' + (if a = b + 256 then h else 0) * FF q h φ (u ++ v) R L' := funext fun L' => FF_swap ha hb u R L'
      rw [e, csum_two, Int.mul_add, Int.mul_add, Int.mul_add, Int.mul_left_comm, Int.mul_left_comm _ (if a = b + 256 then h else 0)]
      (first | lia | omega)
theorem FF_lows : ∀ (ls R L : List Nat), (∀ s ∈ ls, 255 < s) → FF q h φ ls R L = φ R (L ++ ls)
  | [], R, L, _ => by rw [List.append_nil]; rfl
  | s :: ls, R, L, hs => by
    rw [FF_low (hs s List.mem_cons_self), FF_lows ls R _ fun x hx => hs x (List.mem_cons_of_mem _ hx), List.append_assoc]; rfl
theorem FF_rais (t : List Nat) : ∀ (rs R : List Nat), (∀ s ∈ rs, ¬ 255 < s) → FF q h φ (rs ++ t) R [] = FF q h φ t (R ++ rs) []
  | [], R, _ => by rw [List.append_nil]; rfl
  | s :: rs, R, hs => by
    show FF q h φ (s :: (rs ++ t)) R [] = _
    rw [FF_rai (hs s List.mem_cons_self), csum_nil, FF_rais t rs _ fun x hx => hs x (List.mem_cons_of_mem _ hx), List.append_assoc]
    show q ^ 0 * _ + 0 = _
    rw [Int.pow_zero, Int.one_mul, Int.add_zero]; rfl
theorem FF_norm {rs ls : List Nat} (hr : ∀ s ∈ rs, ¬ 255 < s) (hl : ∀ s ∈ ls, 255 < s) : FF q h φ (rs ++ ls) [] [] = φ rs ls := by
  rw [FF_rais _ _ _ hr, FF_lows _ _ _ hl]; rfl
end
/-- where it can come to -/
def SS (φ : List Nat → List Nat → Prop) : List Nat → List Nat → List Nat → Prop
  | [], R, L => φ R L
  | s :: t, R, L => if 255 < s then SS φ t R (L ++ [s]) else SS φ t (R ++ [s]) L ∨ ∃ k, L[k]? = some (s + 256) ∧ SS φ t R (L.take k ++ L.drop (k + 1))
section
variable {φ : List Nat → List Nat → Prop}
theorem SS_low {s : Nat} {t R L : List Nat} (hs : 255 < s) : SS φ (s :: t) R L ↔ SS φ t R (L ++ [s]) := by
  show (if 255 < s then _ else _) ↔ _
  rw [if_pos hs]
theorem SS_rai {s : Nat} {t R L : List Nat} (hs : ¬ 255 < s) : SS φ (s :: t) R L ↔ SS φ t (R ++ [s]) L ∨ ∃ k, L[k]? = some (s + 256) ∧ SS φ t R (L.take k ++ L.drop (k + 1)) := by
  show (if 255 < s then _ else _) ↔ _
  rw [if_neg hs]
theorem ex_snoc {G : List Nat → Prop} {b a : Nat} {L : List Nat} : (∃ k, (L ++ [a])[k]? = some (b + 256) ∧ G ((L ++ [a]).take k ++ (L ++ [a]).drop (k + 1))) ↔
    (∃ k, L[k]? = some (b + 256) ∧ G (L.take k ++ L.drop (k + 1) ++ [a])) ∨ (a = b + 256 ∧ G L) := by
  constructor
  · rintro ⟨k, h1, h2⟩
    rcases Nat.lt_trichotomy k L.length with hk | hk | hk
    · rw [List.getElem?_append_left hk] at h1
      rw [List.take_append_of_le_length (by (first | lia | omega)), List.drop_append_of_le_length (by (first | lia | omega)), ← List.append_assoc] at h2
      exact .inl ⟨k, h1, h2⟩
    · subst hk
      rw [List.getElem?_concat_length] at h1
      rw [List.take_append_of_le_length (Nat.le_refl _), List.take_length, List.drop_of_length_le (by rw [List.length_append]; simp), List.append_nil] at h2
      exact .inr ⟨Option.some.inj h1, h2⟩
    · rw [List.getElem?_eq_none (by rw [List.length_append, List.length_singleton]; (first | lia | omega))] at h1; cases h1
  · rintro (⟨k, h1, h2⟩ | ⟨h1, h2⟩)
    · have hk : k < L.length := (List.getElem?_eq_some_iff.mp h1).1
      refine ⟨k, by rw [List.getElem?_append_left hk]; exact h1, ?_⟩
      rw [List.take_append_of_le_length (by (first | lia | omega)), List.drop_append_of_le_length (by (first | lia | omega)), ← List.append_assoc]; exact h2
    · refine ⟨L.length, by rw [List.getElem?_concat_length, h1], ?_⟩
      rw [List.take_append_of_le_length (Nat.le_refl _), List.take_length, List.drop_of_length_le (by rw [List.length_append]; simp), List.append_nil]; exact h2
theorem SS_swap {a b : Nat} {v : List Nat} (ha : 255 < a) (hb : ¬ 255 < b) : ∀ (u R L : List Nat),
    SS φ (u ++ [a, b] ++ v) R L ↔ SS φ (u ++ [b, a] ++ v) R L ∨ (a = b + 256 ∧ SS φ (u ++ v) R L)
  | [], R, L => by
    show SS φ (a :: b :: v) R L ↔ SS φ (b :: a :: v) R L ∨ _ ∧ SS φ v R L
    rw [SS_low ha, SS_rai hb, SS_rai hb, ex_snoc, SS_low ha]
    have e : (∃ k, L[k]? = some (b + 256) ∧ SS φ (a :: v) R (L.take k ++ L.drop (k + 1))) ↔ ∃ k, L[k]? = some (b + 256) ∧ SS φ v R (L.take k ++ L.drop (k + 1) ++ [a]) := exists_congr fun k => by rw [SS_low ha]
    rw [e, or_assoc]
  | s :: u, R, L => by
    show SS φ (s :: (u ++ [a, b] ++ v)) R L ↔ SS φ (s :: (u ++ [b, a] ++ v)) R L ∨ _ ∧ SS φ (s :: (u ++ v)) R L
    by_cases hs : 255 < s
    · rw [SS_low hs, SS_low hs, SS_low hs, SS_swap ha hb u]
    · rw [SS_rai hs, SS_rai hs, SS_rai hs, SS_swap ha hb u]
      have e : (∃ k, L[k]? = some (s + 256) ∧ SS φ (u ++ [a, b] ++ v) R (L.take k ++ L.drop (k + 1))) ↔ (∃ k, L[k]? = some (s + 256) ∧ SS φ (u ++ [b, a] ++ v) R (L.take k ++ L.drop (k + 1))) ∨ (a = b + 256 ∧ ∃ k, L[k]? = some (s + 256) ∧ SS φ (u ++ v) R (L.take k ++ L.drop (k + 1))) := by
        constructor
        · rintro ⟨k, h1, h2⟩
          rcases (SS_swap ha hb u R _).mp h2 with h2 | ⟨h3, h2⟩
          · exact .inl ⟨k, h1, h2⟩
          · exact .inr ⟨h3, k, h1, h2⟩
        · rintro (⟨k, h1, h2⟩ | ⟨h3, k, h1, h2⟩)
          · exact ⟨k, h1, (SS_swap ha hb u R _).mpr (.inl h2)⟩
          · exact ⟨k, h1, (SS_swap ha hb u R _).mpr (.inr ⟨h3, h2⟩)⟩
      rw [e]
      constructor
      · rintro ((h | ⟨c, h⟩) | (h | ⟨c, h⟩))
        · exact .inl (.inl h)
        · exact .inr ⟨c, .inl h⟩
        · exact .inl (.inr h)
        · exact .inr ⟨c, .inr h⟩
      · rintro ((h | h) | ⟨c, (h | h)⟩)
        · exact .inl (.inl h)
        · exact .inr (.inl h)
        · exact .inl (.inr ⟨c, h⟩)
        · exact .inr (.inr ⟨c, h⟩)
theorem SS_lows : ∀ (ls R L : List Nat), (∀ s ∈ ls, 255 < s) → (SS φ ls R L ↔ φ R (L ++ ls))
  | [], R, L, _ => by rw [List.append_nil]; rfl
  | s :: ls, R, L, hs => by
    rw [SS_low (hs s List.mem_cons_self), SS_lows ls R _ fun x hx => hs x (List.mem_cons_of_mem _ hx), List.append_assoc]; rfl
theorem SS_rais (t : List Nat) : ∀ (rs R : List Nat), (∀ s ∈ rs, ¬ 255 < s) → (SS φ (rs ++ t) R [] ↔ SS φ t (R ++ rs) [])
  | [], R, _ => by rw [List.append_nil]; rfl
  | s :: rs, R, hs => by
    show SS φ (s :: (rs ++ t)) R [] ↔ _
    rw [SS_rai (hs s List.mem_cons_self), SS_rais t rs _ fun x hx => hs x (List.mem_cons_of_mem _ hx), List.append_assoc]
    constructor
    · rintro (h | ⟨k, h, _⟩)
      · exact h
      · simp at h
    · exact .inl
theorem SS_norm {rs ls : List Nat} (hr : ∀ s ∈ rs, ¬ 255 < s) (hl : ∀ s ∈ ls, 255 < s) : SS φ (rs ++ ls) [] [] ↔ φ rs ls := by
  rw [SS_rais _ _ _ hr, SS_lows _ _ _ hl]; rfl
end
/-- a word in which no lowerer stands right ahead of a raiser -/
theorem norm_of : ∀ (t : List Nat), (∀ u a b v, t = u ++ [a, b] ++ v → ¬ (255 < a ∧ ¬ 255 < b)) → ∃ rs ls, t = rs ++ ls ∧ (∀ s ∈ rs, ¬ 255 < s) ∧ (∀ s ∈ ls, 255 < s)
  | [], _ => ⟨[], [], rfl, fun s hs => (nomatch hs), fun s hs => (nomatch hs)⟩
  | s :: t, h => by
    obtain ⟨rs, ls, rfl, hr, hl⟩ := norm_of t fun u a b v e => h (s :: u) a b v (by rw [e]; rfl)
    by_cases hs : 255 < s
    · cases rs with
      | nil =>
        refine ⟨[], s :: ls, rfl, fun x hx => (nomatch hx), fun x hx => ?_⟩
        rcases List.mem_cons.mp hx with rfl | hx
        · exact hs
        · exact hl x hx
      | cons r rs => exact absurd ⟨hs, hr r List.mem_cons_self⟩ (h [] s r (rs ++ ls) rfl)
    · refine ⟨s :: rs, ls, rfl, fun x hx => ?_, hl⟩
      rcases List.mem_cons.mp hx with rfl | hx
      · exact hs
      · exact hr x hx

end
-- part M4

section
variable {prog : Program} {w : World} {A : Around} {H₀ : Heap} {mg mb : Str → Option Value} {fa : Nat → Addr} {E : Value → Shared → Prop} {s : Shared}
def isR (s : Nat) : Prop := s = 34 ∨ s = 97
def isL (s : Nat) : Prop := s = 290 ∨ s = 353
/-- a key of the due sums -/
def KG (n : Nat) (x : List Nat) : Prop := ∃ R L, x = kk R L ∧ (∀ s ∈ R, isR s) ∧ (∀ s ∈ L, isL s) ∧ R.length + L.length ≤ n
theorem Rof_kk {R L : List Nat} (h : 124 ∉ R) : Rof (kk R L) = R := by
  unfold Rof kk
  rw [List.takeWhile_append_of_pos (fun a ha => by simpa using fun e : a = 124 => h (e ▸ ha)), List.takeWhile_cons_of_neg (by simp), List.append_nil]
theorem Lof_kk {R L : List Nat} (h : 124 ∉ R) : Lof (kk R L) = L := by
  unfold Lof kk
  rw [List.dropWhile_append_of_pos (fun a ha => by simpa using fun e : a = 124 => h (e ▸ ha)), List.dropWhile_cons_of_neg (by simp)]; rfl
theorem not124R {R : List Nat} (h : ∀ s ∈ R, isR s) : 124 ∉ R := fun hm => by rcases h _ hm with h | h <;> cases h
theorem not124L {L : List Nat} (h : ∀ s ∈ L, isL s) : 124 ∉ L := fun hm => by rcases h _ hm with h | h <;> cases h
theorem KG.parts {n : Nat} {x : List Nat} (h : KG n x) : x = kk (Rof x) (Lof x) ∧ (∀ s ∈ Rof x, isR s) ∧ (∀ s ∈ Lof x, isL s) ∧ (Rof x).length + (Lof x).length ≤ n := by
  obtain ⟨R, L, rfl, h1, h2, h3⟩ := h
  rw [Rof_kk (not124R h1), Lof_kk (not124R h1)]
  exact ⟨rfl, h1, h2, h3⟩
theorem KG.ok {n : Nat} {x : List Nat} (h : KG n x) (hn : n ≤ 10) : okKey x := by
  obtain ⟨h1, h2, h3, h4⟩ := h.parts
  exact ⟨h1, not124R h2, not124L h3, by (first | lia | omega), by (first | lia | omega)⟩
theorem mem_cut {L : List Nat} {k s : Nat} (h : s ∈ L.take k ++ L.drop (k + 1)) : s ∈ L :=
  (List.mem_append.mp h).elim (fun h => List.mem_of_mem_take h) fun h => List.mem_of_mem_drop h
theorem len_cut {L : List Nat} {k : Nat} (h : k < L.length) : (L.take k ++ L.drop (k + 1)).length + 1 = L.length := by
  rw [List.length_append, List.length_take, List.length_drop]; (first | lia | omega)
theorem mem_contr {q h : Int} {s : Nat} {R L : List Nat} {z : List Nat} : z ∈ keys (contr q h s R L L.length) ↔ ∃ k, L[k]? = some (s + 256) ∧ z = kk R (L.take k ++ L.drop (k + 1)) := by
  unfold keys contr
  rw [List.mem_map]
  constructor
  · rintro ⟨y, hy, rfl⟩
    obtain ⟨k, hk, e⟩ := List.mem_filterMap.mp hy
    by_cases c : L[k]? = some (s + 256)
    · rw [if_pos c] at e
      obtain rfl := Option.some.inj e
      exact ⟨k, c, rfl⟩
    · rw [if_neg c] at e; cases e
  · rintro ⟨k, c, rfl⟩
    exact ⟨_, List.mem_filterMap.mpr ⟨k, List.mem_range.mpr (List.getElem?_eq_some_iff.mp c).1, if_pos c⟩, rfl⟩
theorem ways_low {q h : Int} {s : Nat} {R L : List Nat} (hs : 255 < s) : waysOf q h s R L = [(kk R (L ++ [s]), 1)] := if_pos hs
theorem ways_rai {q h : Int} {s : Nat} {R L : List Nat} (hs : ¬ 255 < s) : waysOf q h s R L = (kk (R ++ [s]) L, q ^ L.length) :: contr q h s R L L.length := if_neg hs
theorem KG_ways {q h : Int} {n s : Nat} {x z : List Nat} (hx : KG n x) (hs : isR s ∨ isL s) (hz : z ∈ keys (waysOf q h s (Rof x) (Lof x))) : KG (n + 1) z := by
  obtain ⟨h1, h2, h3, h4⟩ := hx.parts
  by_cases c : 255 < s
  · rw [ways_low c] at hz
    rw [show z = kk (Rof x) (Lof x ++ [s]) from List.mem_singleton.mp hz]
    refine ⟨_, _, rfl, h2, ?_, by rw [List.length_append, List.length_singleton]; (first | lia | omega)⟩
    intro y hy
    rcases List.mem_append.mp hy with hy | hy
    · exact h3 y hy
    · rw [List.mem_singleton.mp hy]
      rcases hs with (rfl | rfl) | hs
      · (first | lia | omega)
      · (first | lia | omega)
      · exact hs
  · rw [ways_rai c] at hz
    rcases List.mem_cons.mp (show z ∈ kk (Rof x ++ [s]) (Lof x) :: keys (contr q h s (Rof x) (Lof x) (Lof x).length) from hz) with rfl | hz
    · refine ⟨_, _, rfl, ?_, h3, by rw [List.length_append, List.length_singleton]; (first | lia | omega)⟩
      intro y hy
      rcases List.mem_append.mp hy with hy | hy
      · exact h2 y hy
      · rw [List.mem_singleton.mp hy]
        rcases hs with hs | (rfl | rfl)
        · exact hs
        · (first | lia | omega)
        · (first | lia | omega)
    · obtain ⟨k, hk, rfl⟩ := mem_contr.mp hz
      have := len_cut (List.getElem?_eq_some_iff.mp hk).1
      exact ⟨_, _, rfl, h2, fun y hy => h3 y (mem_cut hy), by (first | lia | omega)⟩
theorem ev_filterMap (f : List Nat → Int) {g : Nat → Option (List Nat × Int)} : ∀ l : List Nat, ev f (l.filterMap g) = (l.map fun k => match g k with | some y => y.2 * f y.1 | none => 0).sum
  | [] => rfl
  | k :: l => by
    rw [List.map_cons, List.sum_cons, ← ev_filterMap f l]
    cases e : g k with
    | none => rw [List.filterMap_cons_none e]; simp
    | some y => rw [List.filterMap_cons_some e, ev_cons]
/-- the value of a key, the letters t still to come -/
def at_ (q h : Int) (φ : List Nat → List Nat → Int) (t : List Nat) (x : List Nat) : Int := FF q h φ t (Rof x) (Lof x)
theorem ev_ways {q h : Int} {φ : List Nat → List Nat → Int} {n s : Nat} {t x : List Nat} (hx : KG n x) (hs : isR s ∨ isL s) : ev (at_ q h φ t) (waysOf q h s (Rof x) (Lof x)) = at_ q h φ (s :: t) x := by
  obtain ⟨h1, h2, h3, h4⟩ := hx.parts
  unfold at_
  have r124 := not124R h2
  by_cases c : 255 < s
  · rw [ways_low c, FF_low c, ev_cons, ev_nil]
    show 1 * FF q h φ t (Rof (kk _ _)) (Lof (kk _ _)) + 0 = _
    rw [Rof_kk r124, Lof_kk r124, Int.one_mul, Int.add_zero]
  · have r124' : 124 ∉ Rof x ++ [s] := fun hm => by
      rcases List.mem_append.mp hm with hm | hm
      · exact r124 hm
      · have := List.mem_singleton.mp hm
        rcases hs with (rfl | rfl) | (rfl | rfl) <;> cases this
    rw [ways_rai c, FF_rai c, ev_cons]
    show q ^ _ * FF q h φ t (Rof (kk _ _)) (Lof (kk _ _)) + _ = _
    rw [Rof_kk r124', Lof_kk r124']
    congr 1
    unfold contr csum
    rw [ev_filterMap]
    congr 1
    refine List.map_congr_left fun k _ => ?_
    by_cases e : (Lof x)[k]? = some (s + 256)
    · simp only [if_pos e]
      show _ * FF q h φ t (Rof (kk _ _)) (Lof (kk _ _)) = _
      rw [Rof_kk r124, Lof_kk r124]
    · simp only [if_neg e]
theorem ev_mul (f : List Nat → Int) (c : Int) : ∀ S : WD, ev f (S.map fun y => (y.1, c * y.2)) = c * ev f S
  | [] => by simp [ev_nil]
  | y :: S => by
    rw [List.map_cons, ev_cons, ev_cons, ev_mul f c S, Int.mul_add, Int.mul_assoc]
theorem keys_mul (c : Int) (S : WD) : keys (S.map fun y => (y.1, c * y.2)) = keys S := by
  unfold keys; rw [List.map_map]; rfl
theorem kfold_nodup {q h : Int} {s : Nat} : ∀ (S : WD) {acc : WD}, (keys acc).Nodup → (keys (S.foldl (kstep q h s) acc)).Nodup
  | [], acc, h => h
  | x :: S, acc, h => by rw [List.foldl_cons]; exact kfold_nodup S (nodup_fold _ h)
theorem kfold_keys {q h : Int} {s : Nat} {z : List Nat} : ∀ (S : WD) {acc : WD}, z ∈ keys (S.foldl (kstep q h s) acc) ↔ z ∈ keys acc ∨ ∃ x ∈ S, z ∈ keys (waysOf q h s (Rof x.1) (Lof x.1))
  | [], acc => by simp
  | x :: S, acc => by
    rw [List.foldl_cons, kfold_keys S]
    show z ∈ keys (List.foldl gacc acc _) ∨ _ ↔ _
    rw [keys_fold, keys_mul, or_assoc]
    simp only [List.mem_cons, exists_eq_or_imp]
theorem kfold_ev {q h : Int} {φ : List Nat → List Nat → Int} {n s : Nat} {t : List Nat} (hs : isR s ∨ isL s) : ∀ (S : WD) {acc : WD}, (∀ x ∈ S, KG n x.1) → (keys acc).Nodup → ev (at_ q h φ t) (S.foldl (kstep q h s) acc) = ev (at_ q h φ t) acc + ev (at_ q h φ (s :: t)) S
  | [], acc, _, _ => by rw [ev_nil, Int.add_zero]; rfl
  | x :: S, acc, hx, hn => by
    rw [List.foldl_cons, kfold_ev (acc := kstep q h s acc x) hs S (fun y hy => hx y (List.mem_cons_of_mem _ hy)) (nodup_fold _ hn)]
    show ev _ (List.foldl gacc acc _) + _ = _
    rw [ev_fold _ hn, ev_mul, ev_ways (hx x List.mem_cons_self) hs, ev_cons, Int.add_assoc]
theorem dstep_KG {q h : Int} {n s : Nat} {D : WD} (hs : isR s ∨ isL s) (hD : ∀ x ∈ D, KG n x.1) : ∀ x ∈ dstep q h D s, KG (n + 1) x.1 := by
  intro x hx
  have : x.1 ∈ keys (dstep q h D s) := List.mem_map_of_mem hx
  rcases (kfold_keys (q := q) (h := h) (s := s) D (acc := [])).mp this with h | ⟨y, hy, h⟩
  · simp [keys] at h
  · exact KG_ways (hD y hy) hs h
/-- the fold from any start -/
theorem fold_all {q h : Int} {φ : List Nat → List Nat → Int} {t : List Nat} : ∀ (z : List Nat) {n : Nat} {D : WD}, (∀ s ∈ z, isR s ∨ isL s) → (∀ x ∈ D, KG n x.1) → (keys D).Nodup →
    ev (at_ q h φ t) (z.foldl (dstep q h) D) = ev (at_ q h φ (z ++ t)) D ∧ (∀ x ∈ z.foldl (dstep q h) D, KG (n + z.length) x.1) ∧ (keys (z.foldl (dstep q h) D)).Nodup
  | [], n, D, _, hD, hn => ⟨rfl, hD, hn⟩
  | s :: z, n, D, hz, hD, hn => by
    have hs := hz s List.mem_cons_self
    obtain ⟨i1, i2, i3⟩ := fold_all (q := q) (h := h) (φ := φ) (t := t) z (n := n + 1) (D := dstep q h D s) (fun x hx => hz x (List.mem_cons_of_mem _ hx)) (dstep_KG hs hD) (kfold_nodup D List.nodup_nil)
    refine ⟨?_, ?_, i3⟩
    · rw [List.foldl_cons, i1]
      unfold dstep
      rw [kfold_ev (acc := []) hs D hD List.nodup_nil, ev_nil, Int.zero_add]; rfl
    · intro x hx
      have := i2 x hx
      rw [List.length_cons, show n + (z.length + 1) = n + 1 + z.length by (first | lia | omega)]; exact this
def on_ (φ : List Nat → List Nat → Prop) (t : List Nat) (x : List Nat) : Prop := SS φ t (Rof x) (Lof x)
theorem on_ways {q h : Int} {φ : List Nat → List Nat → Prop} {n s : Nat} {t x : List Nat} (hx : KG n x) (hs : isR s ∨ isL s) : (∃ z ∈ keys (waysOf q h s (Rof x) (Lof x)), on_ φ t z) ↔ on_ φ (s :: t) x := by
  obtain ⟨h1, h2, h3, h4⟩ := hx.parts
  unfold on_
  have r124 := not124R h2
  by_cases c : 255 < s
  · rw [ways_low c, SS_low c]
    constructor
    · rintro ⟨z, hz, h⟩
      rw [show z = kk (Rof x) (Lof x ++ [s]) from List.mem_singleton.mp hz, Rof_kk r124, Lof_kk r124] at h; exact h
    · intro h
      exact ⟨_, List.mem_singleton.mpr rfl, by show SS φ t (Rof (kk _ _)) (Lof (kk _ _)); rw [Rof_kk r124, Lof_kk r124]; exact h⟩
  · have r124' : 124 ∉ Rof x ++ [s] := fun hm => by
      rcases List.mem_append.mp hm with hm | hm
      · exact r124 hm
      · have := List.mem_singleton.mp hm
        rcases hs with (rfl | rfl) | (rfl | rfl) <;> cases this
    rw [ways_rai c, SS_rai c]
    constructor
    · rintro ⟨z, hz, h⟩
      rcases List.mem_cons.mp (show z ∈ kk (Rof x ++ [s]) (Lof x) :: keys (contr q _ s (Rof x) (Lof x) (Lof x).length) from hz) with rfl | hz
      · rw [Rof_kk r124', Lof_kk r124'] at h; exact .inl h
      · obtain ⟨k, hk, rfl⟩ := mem_contr.mp hz
        rw [Rof_kk r124, Lof_kk r124] at h
        exact .inr ⟨k, hk, h⟩
    · rintro (h | ⟨k, hk, h⟩)
      · exact ⟨_, List.mem_cons_self, by show SS φ t (Rof (kk _ _)) (Lof (kk _ _)); rw [Rof_kk r124', Lof_kk r124']; exact h⟩
      · exact ⟨_, List.mem_cons_of_mem _ (mem_contr.mpr ⟨k, hk, rfl⟩), by rw [Rof_kk r124, Lof_kk r124]; exact h⟩
theorem fold_on {q h : Int} {φ : List Nat → List Nat → Prop} {t : List Nat} : ∀ (z : List Nat) {n : Nat} {D : WD}, (∀ s ∈ z, isR s ∨ isL s) → (∀ x ∈ D, KG n x.1) →
    ((∃ y ∈ keys (z.foldl (dstep q h) D), on_ φ t y) ↔ ∃ y ∈ keys D, on_ φ (z ++ t) y)
  | [], n, D, _, hD => Iff.rfl
  | s :: z, n, D, hz, hD => by
    have hs := hz s List.mem_cons_self
    rw [List.foldl_cons, fold_on (q := q) (h := h) (φ := φ) (t := t) z (n := n + 1) (D := dstep q h D s) (fun x hx => hz x (List.mem_cons_of_mem _ hx)) (dstep_KG hs hD)]
    constructor
    · rintro ⟨y, hy, ho⟩
      rcases (kfold_keys (q := q) (h := h) (s := s) D (acc := [])).mp hy with h | ⟨x, hx, h⟩
      · simp [keys] at h
      · exact ⟨x.1, List.mem_map_of_mem hx, (on_ways (hD x hx) hs).mp ⟨y, h, ho⟩⟩
    · rintro ⟨y, hy, ho⟩
      obtain ⟨x, hx, rfl⟩ := List.mem_map.mp hy
      obtain ⟨y', h1, h2⟩ := (on_ways (q := q) (h := h) (t := z ++ t) (hD x hx) hs).mpr ho
      exact ⟨y', (kfold_keys (q := q) (h := h) (s := s) D (acc := [])).mpr (.inr ⟨x, hx, h1⟩), h2⟩

end
-- part M5

section
variable {prog : Program} {w : World} {A : Around} {H₀ : Heap} {mg mb : Str → Option Value} {fa : Nat → Addr} {E : Value → Shared → Prop} {s : Shared}
theorem gput_new {D : WD} {k : List Nat} {v : Int} (h : k ∉ keys D) : gput D k v = D ++ [(k, v)] := by
  unfold gput
  rw [if_neg]
  intro hc
  obtain ⟨x, hx, he⟩ := List.any_eq_true.mp hc
  exact h (of_decide_eq_true he ▸ List.mem_map_of_mem hx)
theorem dend_go : ∀ (D acc : WD), (keys acc ++ D.map fun x => Rof x.1 ++ Lof x.1).Nodup → D.foldl (fun acc x => gput acc (Rof x.1 ++ Lof x.1) x.2) acc = acc ++ D.map fun x => (Rof x.1 ++ Lof x.1, x.2)
  | [], acc, _ => by simp
  | x :: D, acc, h => by
    rw [List.map_cons] at h
    have hn : (Rof x.1 ++ Lof x.1) ∉ keys acc := fun hm => (List.nodup_append.mp h).2.2 _ hm _ List.mem_cons_self rfl
    rw [List.foldl_cons, gput_new hn, dend_go D, List.map_cons, List.append_assoc]; rfl
    show (keys (acc ++ [(Rof x.1 ++ Lof x.1, x.2)]) ++ _).Nodup
    have e : keys (acc ++ [(Rof x.1 ++ Lof x.1, x.2)]) = keys acc ++ [Rof x.1 ++ Lof x.1] := by unfold keys; rw [List.map_append]; rfl
    rw [e, List.append_assoc]; exact h
theorem rl_inj {R L R' L' : List Nat} (h1 : ∀ s ∈ R, isR s) (h2 : ∀ s ∈ L, isL s) (h1' : ∀ s ∈ R', isR s) (h2' : ∀ s ∈ L', isL s) (e : R ++ L = R' ++ L') : R = R' ∧ L = L' := by
  have tk : ∀ {R L : List Nat}, (∀ s ∈ R, isR s) → (∀ s ∈ L, isL s) → (R ++ L).takeWhile (fun s => decide (s < 256)) = R := by
    intro R L h1 h2
    rw [List.takeWhile_append_of_pos (fun a ha => by rcases h1 a ha with rfl | rfl <;> rfl)]
    cases L with
    | nil => simp
    | cons x L =>
      rw [List.takeWhile_cons_of_neg, List.append_nil]
      rcases h2 x List.mem_cons_self with rfl | rfl <;> decide
  have hR : R = R' := by rw [← tk h1 h2, e, tk h1' h2']
  subst hR
  exact ⟨rfl, List.append_cancel_left e⟩
theorem dend_eq {n : Nat} {D : WD} (hn : (keys D).Nodup) (hk : ∀ x ∈ D, KG n x.1) : (D.map fun x => Rof x.1 ++ Lof x.1).Nodup ∧ dend D = D.map fun x => (Rof x.1 ++ Lof x.1, x.2) := by
  have hd : (D.map fun x => Rof x.1 ++ Lof x.1).Nodup := by
    have hp : D.Pairwise fun x y => x.1 ≠ y.1 := List.pairwise_map.mp hn
    refine List.pairwise_map.mpr (hp.imp_of_mem fun {x y} hx hy hne e => hne ?_)
    obtain ⟨a1, a2, a3, _⟩ := (hk x hx).parts
    obtain ⟨b1, b2, b3, _⟩ := (hk y hy).parts
    obtain ⟨e1, e2⟩ := rl_inj a2 a3 b2 b3 e
    rw [a1, b1, e1, e2]
  refine ⟨hd, ?_⟩
  unfold dend
  rw [dend_go D [] (by simpa [keys] using hd)]; rfl
theorem ind_ev (k : List Nat) : ∀ {D : WD}, k ∉ keys D → ev (fun z => if z = k then 1 else 0) D = 0
  | [], _ => rfl
  | x :: D, h => by
    rw [ev_cons, ind_ev k (D := D) fun hm => h (List.mem_cons_of_mem _ hm)]
    have hx : x.1 ∈ keys (x :: D) := List.mem_cons_self
    rw [if_neg fun e : x.1 = k => h (e ▸ hx)]; simp
theorem ind_at {k : List Nat} {c : Int} {D : WD} (hn : (keys D).Nodup) (h : (k, c) ∈ D) : ev (fun z => if z = k then 1 else 0) D = c := by
  rw [ev_but hn h, ind_ev k fun hm => (keys_but.mp hm).2 rfl]; simp
theorem ev_one : ∀ D : WD, ev (fun _ => 1) D = (D.map (·.2)).sum
  | [] => rfl
  | x :: D => by rw [ev_cons, ev_one D, List.map_cons, List.sum_cons, Int.mul_one]
theorem agree_of {B D : WD} (hB : (keys B).Nodup) (hD : (keys D).Nodup) (hk : ∀ z, z ∈ keys B ↔ z ∈ keys D) (he : ∀ f, ev f B = ev f D) : agree B D := by
  refine ⟨?_, ?_, ?_⟩
  · have := ((List.perm_ext_iff_of_nodup hB hD).mpr hk).length_eq
    unfold keys at this
    rw [List.length_map, List.length_map] at this; exact this
  · intro x hx
    obtain ⟨y, hy, e⟩ := List.mem_map.mp ((hk x.1).mp (List.mem_map_of_mem hx))
    have h1 := ind_at (k := x.1) (c := x.2) hB hx
    have h2 := ind_at (k := x.1) (c := y.2) hD (by rw [← e]; exact hy)
    rw [he, h2] at h1
    rw [← h1]
    exact gget_of hD (by rw [← e]; exact hy)
  · rw [← ev_one, ← ev_one, he]
/-- lowerers ahead of raisers -/
def rais (t : List Nat) : Nat := (t.filter fun s => decide (¬ 255 < s)).length
def inv : List Nat → Nat
  | [] => 0
  | s :: t => (if 255 < s then rais t else 0) + inv t
theorem rais_cons {s : Nat} {t : List Nat} (hs : ¬ 255 < s) : rais (s :: t) = rais t + 1 := by
  unfold rais
  rw [List.filter_cons, if_pos (by simpa using hs)]; rfl
theorem rais_append (a b : List Nat) : rais (a ++ b) = rais a + rais b := by unfold rais; rw [List.filter_append, List.length_append]
theorem rais_le (t : List Nat) : rais t ≤ t.length := List.length_filter_le _ _
theorem inv_swap {a b : Nat} {v : List Nat} (ha : 255 < a) (hb : ¬ 255 < b) : ∀ u : List Nat, inv (u ++ [a, b] ++ v) = inv (u ++ [b, a] ++ v) + 1
  | [] => by
    show (if 255 < a then rais (b :: v) else 0) + ((if 255 < b then rais v else 0) + inv v) = (if 255 < b then rais (a :: v) else 0) + ((if 255 < a then rais v else 0) + inv v) + 1
    rw [if_pos ha, if_neg hb, if_neg hb, if_pos ha]
    have : rais (b :: v) = rais v + 1 := rais_cons hb
    (first | lia | omega)
  | s :: u => by
    show (if 255 < s then rais (u ++ [a, b] ++ v) else 0) + inv (u ++ [a, b] ++ v) = (if 255 < s then rais (u ++ [b, a] ++ v) else 0) + inv (u ++ [b, a] ++ v) + 1
    have e : rais (u ++ [a, b] ++ v) = rais (u ++ [b, a] ++ v) := by
      rw [rais_append, rais_append, rais_append, rais_append]
      have : rais [a, b] = rais [b, a] := by unfold rais; simp [List.filter_cons, ha, hb]
      (first | lia | omega)
    rw [inv_swap ha hb u, e]; (first | lia | omega)
theorem inv_strike {a b : Nat} {v : List Nat} (ha : 255 < a) (hb : ¬ 255 < b) : ∀ u : List Nat, inv (u ++ v) + 1 ≤ inv (u ++ [a, b] ++ v)
  | [] => by
    show inv v + 1 ≤ (if 255 < a then rais (b :: v) else 0) + ((if 255 < b then rais v else 0) + inv v)
    rw [if_pos ha]
    have : rais (b :: v) = rais v + 1 := rais_cons hb
    (first | lia | omega)
  | s :: u => by
    show (if 255 < s then rais (u ++ v) else 0) + inv (u ++ v) + 1 ≤ (if 255 < s then rais (u ++ [a, b] ++ v) else 0) + inv (u ++ [a, b] ++ v)
    have e : rais (u ++ v) ≤ rais (u ++ [a, b] ++ v) := by
      rw [rais_append, rais_append, rais_append]; (first | lia | omega)
    have := inv_strike (v := v) ha hb u
    by_cases c : 255 < s
    · rw [if_pos c, if_pos c]; (first | lia | omega)
    · rw [if_neg c, if_neg c]; (first | lia | omega)
theorem inv_le : ∀ t : List Nat, inv t ≤ (t.length - rais t) * rais t
  | [] => Nat.le_refl _
  | s :: t => by
    have ih := inv_le t
    have hr := rais_le t
    show (if 255 < s then rais t else 0) + inv t ≤ _
    by_cases c : 255 < s
    · have e : rais (s :: t) = rais t := by unfold rais; rw [List.filter_cons_of_neg (by simpa using c)]
      rw [if_pos c, e, List.length_cons, show t.length + 1 - rais t = (t.length - rais t) + 1 by (first | lia | omega), Nat.add_mul, Nat.one_mul]; (first | lia | omega)
    · have e : rais (s :: t) = rais t + 1 := rais_cons c
      rw [if_neg c, e, List.length_cons, show t.length + 1 - (rais t + 1) = t.length - rais t by (first | lia | omega), Nat.mul_add]; (first | lia | omega)
theorem inv_six {t : List Nat} (h : t.length ≤ 5) : inv t ≤ 6 := by
  have h1 := inv_le t
  have h2 := rais_le t
  generalize rais t = r at *
  generalize t.length = n at *
  have : r = 0 ∨ r = 1 ∨ r = 2 ∨ r = 3 ∨ r = 4 ∨ r = 5 := by (first | lia | omega)
  rcases this with rfl | rfl | rfl | rfl | rfl | rfl <;> (first | lia | omega)
def mu (t : List Nat) : Nat := 3 ^ inv t
theorem mu_pos (t : List Nat) : 1 ≤ mu t := Nat.pos_of_ne_zero (by unfold mu; exact Nat.ne_of_gt (Nat.pow_pos (by decide)))
theorem mu_more {q h c : Int} {a b : Nat} {u v : List Nat} (ha : 255 < a) (hb : ¬ 255 < b) : wt mu (moreOf q h c a b u v) < mu (u ++ [a, b] ++ v) := by
  have h1 := inv_swap (v := v) ha hb u
  have h2 := inv_strike (v := v) ha hb u
  have h3 : mu (u ++ [a, b] ++ v) = 3 * mu (u ++ [b, a] ++ v) := by unfold mu; rw [h1, Nat.pow_succ, Nat.mul_comm]
  have h4 : mu (u ++ v) ≤ mu (u ++ [b, a] ++ v) := by unfold mu; exact Nat.pow_le_pow_right (by decide) (by (first | lia | omega))
  have h5 := mu_pos (u ++ [b, a] ++ v)
  unfold moreOf
  split
  · rw [gput_cons_ne, gput_nil, wt_cons, wt_cons]
    · show mu (u ++ [b, a] ++ v) + (mu (u ++ v) + 0) < _
      (first | lia | omega)
    · intro e
      have := congrArg List.length e
      simp only [List.length_append, List.length_cons, List.length_nil] at this
      (first | lia | omega)
  · rw [wt_cons]
    show mu (u ++ [b, a] ++ v) + 0 < _
    (first | lia | omega)
theorem ev_more {f : List Nat → Int} {q h c : Int} {a b : Nat} {u v : List Nat} : ev f (moreOf q h c a b u v) = c * (q * f (u ++ [b, a] ++ v) + (if a = b + 256 then h else 0) * f (u ++ v)) := by
  unfold moreOf
  by_cases e : a = b + 256
  · rw [if_pos (by (first | lia | omega)), if_pos e, gput_cons_ne, gput_nil, ev_cons, ev_cons, ev_nil, Int.mul_add]
    · show q * c * f (u ++ [b, a] ++ v) + (h * c * f (u ++ v) + 0) = _
      rw [Int.add_zero]
      congr 1 <;> ac_rfl
    · intro e
      have := congrArg List.length e
      simp only [List.length_append, List.length_cons, List.length_nil] at this
      (first | lia | omega)
  · rw [if_neg (by (first | lia | omega)), if_neg e, ev_cons, ev_nil, Int.zero_mul, Int.add_zero]
    show q * c * f (u ++ [b, a] ++ v) = c * (q * f (u ++ [b, a] ++ v) + 0)
    rw [Int.add_zero]; ac_rfl
theorem keys_more {q h c : Int} {a b : Nat} {u v z : List Nat} : z ∈ keys (moreOf q h c a b u v) ↔ z = u ++ [b, a] ++ v ∨ (a = b + 256 ∧ z = u ++ v) := by
  unfold moreOf
  by_cases e : a = b + 256
  · rw [if_pos (by (first | lia | omega)), mem_keys_put]
    simp [keys, e]
  · rw [if_neg (by (first | lia | omega))]
    simp [keys, e]

end
-- part M6

section
variable {prog : Program} {w : World} {A : Around} {H₀ : Heap} {mg mb : Str → Option Value} {fa : Nat → Addr} {E : Value → Shared → Prop} {s : Shared}
theorem lpairs_in {W : List Nat} {a b : Nat} (ha : isL a) (hb : isR b) (hW1 : a ∈ W) (hW2 : b ∈ W) : [a, b] ∈ lpairs W := by
  unfold lpairs
  refine List.mem_flatMap.mpr ⟨[a], List.mem_filter.mpr ⟨List.mem_filter.mpr ⟨?_, by simpa using hW1⟩, ?_⟩, List.mem_map.mpr ⟨[b], List.mem_filter.mpr ⟨List.mem_filter.mpr ⟨?_, by simpa using hW2⟩, ?_⟩, rfl⟩⟩
  · rcases ha with rfl | rfl <;> decide
  · rcases ha with rfl | rfl <;> decide
  · rcases hb with rfl | rfl <;> decide
  · rcases hb with rfl | rfl <;> decide
theorem has_at (u v : List Nat) (a b : Nat) : has (u ++ [a, b] ++ v) [a, b] = true := by
  unfold has
  refine found_at.mpr ⟨u.length, ?_, ?_⟩
  · simp only [List.length_append, List.length_cons, List.length_nil]; (first | lia | omega)
  · rw [List.append_assoc, List.drop_left]; rfl
abbrev sumF (f : List Nat → Int) : List Nat → List Nat → Int := fun R L => f (R ++ L)
abbrev isF (x : List Nat) : List Nat → List Nat → Prop := fun R L => x = R ++ L
structure Inv (W : List Nat) (q h : Int) (D B : WD) (n : Nat) : Prop where
  dn : (keys D).Nodup
  bn : (keys B).Nodup
  sum : ∀ f, ev f B + ev (fun t => FF q h (sumF f) t [] []) D = FF q h (sumF f) W [] []
  sup : ∀ x, (x ∈ keys B ∨ ∃ t ∈ keys D, SS (isF x) t [] []) ↔ SS (isF x) W [] []
  wtn : n = wt mu D
  len : B.length + n ≤ 729
  wd : ∀ t ∈ keys D, t.length ≤ 5 ∧ ∀ s ∈ t, s ∈ W
section
variable {W : List Nat} {q h : Int}
theorem Inv.start (hW : W.length ≤ 5) : Inv W q h [(W, 1)] [] (wt mu [(W, 1)]) where
  dn := List.nodup_cons.mpr ⟨List.not_mem_nil, List.nodup_nil⟩
  bn := List.nodup_nil
  sum := fun f => by rw [ev_nil, ev_cons, ev_nil]; simp
  sup := fun x => by simp [keys]
  wtn := rfl
  len := by
    have h1 : wt mu [(W, 1)] = 3 ^ inv W := by show 3 ^ inv W + 0 = _; rw [Nat.add_zero]
    have h2 : 3 ^ inv W ≤ 3 ^ 6 := Nat.pow_le_pow_right (by decide) (inv_six hW)
    have h3 : (3 : Nat) ^ 6 = 729 := by decide
    rw [h1]; show 0 + _ ≤ _; (first | lia | omega)
  wd := fun t ht => by rw [show t = W from List.mem_singleton.mp ht]; exact ⟨hW, fun s hs => hs⟩
theorem Inv.sizes {D B : WD} {n : Nat} (I : Inv W q h D B n) : D.length ≤ 1000 ∧ B.length ≤ 1000 ∧ ∀ x ∈ D, x.1.length ≤ 5 := by
  have h1 := wt_len mu_pos D
  have h2 := I.len
  rw [I.wtn] at h2
  exact ⟨by (first | lia | omega), by (first | lia | omega), fun x hx => (I.wd x.1 (List.mem_map_of_mem hx)).1⟩
theorem Inv.settle {D B : WD} {n : Nat} {t : List Nat} {c : Int} (hWl : ∀ s ∈ W, isR s ∨ isL s) (I : Inv W q h D B n) (ht : (t, c) ∈ D) (hno : ∀ p ∈ lpairs W, has t p = false) :
    ∃ m, m < n ∧ Inv W q h (but t D) (gmerge B [(t, c)]) m := by
  have htk : t ∈ keys D := List.mem_map_of_mem (f := (·.1)) ht
  obtain ⟨htl, htw⟩ := I.wd t htk
  have hw := wt_but (μ := mu) I.dn ht
  have hp := mu_pos t
  have hg : gmerge B [(t, c)] = gacc B (t, c) := by rw [gmerge_eq]; rfl
  obtain ⟨rs, ls, e, hr, hl⟩ := norm_of t fun u a b v e => by
    rintro ⟨h1, h2⟩
    have ha : a ∈ t := by rw [e]; simp
    have hb : b ∈ t := by rw [e]; simp
    have hal : isL a := by rcases hWl a (htw a ha) with (rfl | rfl) | h <;> first | (first | lia | omega) | exact h
    have hbr : isR b := by rcases hWl b (htw b hb) with h | (rfl | rfl) <;> first | (first | lia | omega) | exact h
    have := hno _ (lpairs_in hal hbr (htw a ha) (htw b hb))
    rw [e, has_at] at this; cases this
  refine ⟨wt mu (but t D), by rw [I.wtn]; (first | lia | omega), nodup_but I.dn, ?_, fun f => ?_, fun x => ?_, rfl, ?_, fun z hz => I.wd z (keys_but.mp hz).1⟩
  · rw [hg]; exact nodup_acc I.bn
  · rw [hg, ev_acc I.bn, ← I.sum f, ev_but I.dn ht]
    have e1 : FF q h (sumF f) t [] [] = f t := by rw [e, FF_norm hr hl]
    rw [e1, Int.add_assoc]
  · rw [hg, keys_acc, ← I.sup x]
    have e1 : SS (isF x) t [] [] ↔ x = t := by
      rw [e, SS_norm hr hl]
    constructor
    · rintro ((h | rfl) | ⟨z, hz, hs⟩)
      · exact .inl h
      · exact .inr ⟨_, htk, e1.mpr rfl⟩
      · exact .inr ⟨z, (keys_but.mp hz).1, hs⟩
    · rintro (h | ⟨z, hz, hs⟩)
      · exact .inl (.inl h)
      · by_cases hzt : z = t
        · subst hzt; exact .inl (.inr (e1.mp hs))
        · exact .inr ⟨z, keys_but.mpr ⟨hz, hzt⟩, hs⟩
  · have h1 : (gacc B (t, c)).length ≤ B.length + 1 := gput_len _ _ _
    have h2 := I.len
    have h3 := I.wtn
    rw [hg]; (first | lia | omega)
theorem Inv.turn {D B : WD} {n : Nat} {t : List Nat} {c : Int} {a b : Nat} {u v : List Nat} (I : Inv W q h D B n) (ht : (t, c) ∈ D) (hab : [a, b] ∈ lpairs W) (e : t = u ++ [a, b] ++ v) :
    ∃ m, m < n ∧ Inv W q h (gmerge (but t D) (moreOf q h c a b u v)) B m := by
  have htk : t ∈ keys D := List.mem_map_of_mem (f := (·.1)) ht
  obtain ⟨htl, htw⟩ := I.wd t htk
  obtain ⟨a', b', e0, ha0, hb0, _, _⟩ := lpairs_mem hab
  obtain ⟨rfl, rfl⟩ : a = a' ∧ b = b' := by simpa using e0
  have ha : 255 < a := by (first | lia | omega)
  have hb : ¬ 255 < b := by (first | lia | omega)
  have hw := wt_but (μ := mu) I.dn ht
  have hp := mu_more (q := q) (h := h) (c := c) (u := u) (v := v) ha hb
  rw [← e] at hp
  have hnb := nodup_but (t := t) I.dn
  have hwf := wt_fold (μ := mu) (moreOf q h c a b u v) hnb
  rw [← gmerge_eq] at hwf
  refine ⟨wt mu (gmerge (but t D) (moreOf q h c a b u v)), by rw [I.wtn]; (first | lia | omega), ?_, I.bn, fun f => ?_, fun x => ?_, rfl, ?_, fun z hz => ?_⟩
  · rw [gmerge_eq]; exact nodup_fold _ hnb
  · rw [gmerge_eq, ev_fold _ hnb, ev_more, ← I.sum f, ev_but I.dn ht, e, FF_swap ha hb, Int.add_comm (ev _ (but _ D))]
  · rw [← I.sup x]
    have e1 : SS (isF x) t [] [] ↔ SS (isF x) (u ++ [b, a] ++ v) [] [] ∨ (a = b + 256 ∧ SS (isF x) (u ++ v) [] []) := by rw [e]; exact SS_swap ha hb u [] []
    have hk : ∀ z, z ∈ keys (gmerge (but t D) (moreOf q h c a b u v)) ↔ (z ∈ keys D ∧ z ≠ t) ∨ z = u ++ [b, a] ++ v ∨ (a = b + 256 ∧ z = u ++ v) := fun z => by
      rw [gmerge_eq, keys_fold, keys_but, keys_more]
    constructor
    · rintro (h | ⟨z, hz, hs⟩)
      · exact .inl h
      · rcases (hk z).mp hz with ⟨h1, _⟩ | rfl | ⟨h1, rfl⟩
        · exact .inr ⟨z, h1, hs⟩
        · exact .inr ⟨t, htk, e1.mpr (.inl hs)⟩
        · exact .inr ⟨t, htk, e1.mpr (.inr ⟨h1, hs⟩)⟩
    · rintro (h | ⟨z, hz, hs⟩)
      · exact .inl h
      · by_cases hzt : z = t
        · subst hzt
          rcases e1.mp hs with h | ⟨h1, h⟩
          · exact .inr ⟨_, (hk _).mpr (.inr (.inl rfl)), h⟩
          · exact .inr ⟨_, (hk _).mpr (.inr (.inr ⟨h1, rfl⟩)), h⟩
        · exact .inr ⟨z, (hk z).mpr (.inl ⟨hz, hzt⟩), hs⟩
  · have h2 := I.len
    have h3 := I.wtn
    (first | lia | omega)
  · rw [gmerge_eq] at hz
    rcases (keys_fold _).mp hz with hz | hz
    · exact I.wd z (keys_but.mp hz).1
    · have hlen : t.length = u.length + v.length + 2 := by rw [e]; simp only [List.length_append, List.length_cons, List.length_nil]; (first | lia | omega)
      rcases keys_more.mp hz with rfl | ⟨_, rfl⟩
      · refine ⟨by simp only [List.length_append, List.length_cons, List.length_nil]; (first | lia | omega), fun s hs => htw s ?_⟩
        rw [e]
        simp only [List.mem_append, List.mem_cons, List.not_mem_nil, or_false] at hs ⊢
        rcases hs with (h | h | h) | h
        · exact .inl (.inl h)
        · exact .inl (.inr (.inr h))
        · exact .inl (.inr (.inl h))
        · exact .inr h
      · refine ⟨by rw [List.length_append]; (first | lia | omega), fun s hs => htw s ?_⟩
        rw [e]
        simp only [List.mem_append] at hs ⊢
        rcases hs with h | h
        · exact .inl (.inl h)
        · exact .inr h
theorem KG_start : KG 0 [124] := ⟨[], [], rfl, fun s hs => (nomatch hs), fun s hs => (nomatch hs), Nat.le_refl _⟩
theorem start_KG : ∀ x ∈ ([([124], 1)] : WD), KG 0 x.1 := fun x hx => by rw [List.mem_singleton.mp hx]; exact KG_start
theorem start_nodup : (keys ([([124], 1)] : WD)).Nodup := List.nodup_cons.mpr ⟨List.not_mem_nil, List.nodup_nil⟩
theorem dres_KG {z : List Nat} (hz : ∀ s ∈ z, isR s ∨ isL s) : ∀ x ∈ dres q h z, KG z.length x.1 := fun x hx => by
  have := (fold_all (q := q) (h := h) (φ := fun _ _ => 0) (t := []) z hz start_KG start_nodup).2.1 x hx
  rw [Nat.zero_add] at this; exact this
theorem dres_nodup {z : List Nat} (hz : ∀ s ∈ z, isR s ∨ isL s) : (keys (dres q h z)).Nodup := (fold_all (q := q) (h := h) (φ := fun _ _ => 0) (t := []) z hz start_KG start_nodup).2.2
theorem keys_dend {n : Nat} {D : WD} (hn : (keys D).Nodup) (hk : ∀ x ∈ D, KG n x.1) : keys (dend D) = D.map fun x => Rof x.1 ++ Lof x.1 := by
  rw [(dend_eq hn hk).2]; unfold keys; rw [List.map_map]; rfl
theorem Inv.done {B : WD} {n : Nat} (hWl : ∀ s ∈ W, isR s ∨ isL s) (I : Inv W q h [] B n) : agree B (dend (dres q h W)) := by
  have hk := dres_KG (q := q) (h := h) hWl
  have hn := dres_nodup (q := q) (h := h) hWl
  have hkd := keys_dend hn hk
  refine agree_of I.bn (by rw [hkd]; exact (dend_eq hn hk).1) (fun z => ?_) fun f => ?_
  · have h1 := I.sup z
    have h2 := fold_on (q := q) (h := h) (φ := isF z) (t := []) W hWl start_KG
    rw [hkd]
    have h3 : z ∈ keys B ↔ SS (isF z) W [] [] := by
      rw [← h1]
      constructor
      · exact .inl
      · rintro (h | ⟨t, ht, _⟩)
        · exact h
        · simp [keys] at ht
    rw [h3]
    have h4 : (∃ y ∈ keys ([([124], 1)] : WD), on_ (isF z) (W ++ []) y) ↔ SS (isF z) W [] [] := by
      rw [List.append_nil]
      constructor
      · rintro ⟨y, hy, ho⟩
        rw [show y = [124] from List.mem_singleton.mp hy] at ho; exact ho
      · intro ho
        exact ⟨[124], List.mem_singleton.mpr rfl, ho⟩
    rw [← h4, ← h2]
    constructor
    · rintro ⟨y, hy, ho⟩
      obtain ⟨x, hx, rfl⟩ := List.mem_map.mp hy
      exact List.mem_map.mpr ⟨x, hx, (show z = Rof x.1 ++ Lof x.1 from ho).symm⟩
    · intro hz
      obtain ⟨x, hx, e⟩ := List.mem_map.mp hz
      exact ⟨x.1, List.mem_map_of_mem hx, e.symm⟩
  · have h1 := I.sum f
    rw [ev_nil, Int.add_zero] at h1
    rw [h1]
    have h2 := (fold_all (q := q) (h := h) (φ := sumF f) (t := []) W hWl start_KG start_nodup).1
    have h3 : ev f (dend (dres q h W)) = ev (at_ q h (sumF f) []) (dres q h W) := by
      rw [(dend_eq hn hk).2]; unfold ev; rw [List.map_map]; rfl
    rw [h3]
    show _ = ev _ (List.foldl _ _ _)
    rw [h2, ev_cons, ev_nil, List.append_nil, Int.add_zero, Int.one_mul]; rfl
theorem law_set (hW : W.length ≤ 5) (hWl : ∀ s ∈ W, isR s ∨ isL s) : ∃ (I : WD → WD → Nat → Prop) (n₀ : Nat), I [(W, 1)] [] n₀ ∧ (∀ D B n, I D B n → D.length ≤ 1000 ∧ B.length ≤ 1000 ∧ (∀ x ∈ D, x.1.length ≤ 5)) ∧
    (∀ D B n t c, I D B n → (t, c) ∈ D →
      ((∀ p ∈ lpairs W, has t p = false) → ∃ m, m < n ∧ I (D.filter fun x => decide (x.1 ≠ t)) (gmerge B [(t, c)]) m) ∧
      (∀ a b u v, [a, b] ∈ lpairs W → t = u ++ [a, b] ++ v → ∃ m, m < n ∧ I (gmerge (D.filter fun x => decide (x.1 ≠ t)) (moreOf q h c a b u v)) B m)) ∧
    ∀ B n, I [] B n → agree B (dend (dres q h W)) :=
  ⟨Inv W q h, _, Inv.start hW, fun D B n I => I.sizes, fun D B n t c I ht => ⟨fun hno => I.settle hWl ht hno, fun a b u v hab e => I.turn ht hab e⟩, fun B n I => I.done hWl⟩
end

end
-- part M7

section
variable {prog : Program} {w : World} {A : Around} {H₀ : Heap} {mg mb : Str → Option Value} {fa : Nat → Addr} {E : Value → Shared → Prop} {s : Shared}
/-! sizes -/
def nb (D : WD) : Nat := (D.map fun x => x.2.natAbs).sum
theorem nb_cons (x : List Nat × Int) (D : WD) : nb (x :: D) = x.2.natAbs + nb D := rfl
theorem nb_acc {y : List Nat × Int} : ∀ {D : WD}, (keys D).Nodup → nb (gacc D y) ≤ nb D + y.2.natAbs
  | [], _ => by
    unfold gacc; rw [gget_nil, gput_nil, nb_cons]
    show (0 + y.2).natAbs + 0 ≤ 0 + y.2.natAbs
    rw [Int.zero_add]; (first | lia | omega)
  | (a, b) :: D, h => by
    have h' := List.nodup_cons.mp (show (a :: keys D).Nodup from h)
    have ih := nb_acc (y := y) h'.2
    obtain ⟨k, v⟩ := y
    unfold gacc at ih ⊢
    by_cases e : a = k
    · subst e
      rw [gget_cons_eq, gput_cons_eq h'.1, nb_cons, nb_cons]
      show (b + v).natAbs + nb D ≤ b.natAbs + nb D + v.natAbs
      have := Int.natAbs_add_le b v
      (first | lia | omega)
    · rw [gget_cons_ne e, gput_cons_ne e, nb_cons, nb_cons]; simp only [] at ih ⊢; (first | lia | omega)
theorem nb_fold : ∀ (S : WD) {D : WD}, (keys D).Nodup → nb (S.foldl gacc D) ≤ nb D + nb S
  | [], D, _ => Nat.le_add_right _ _
  | y :: S, D, h => by
    rw [List.foldl_cons, nb_cons]
    have h1 := nb_fold S (nodup_acc (y := y) h)
    have h2 := nb_acc (y := y) h
    (first | lia | omega)
theorem nb_mul (c : Int) : ∀ S : WD, nb (S.map fun y => (y.1, c * y.2)) = c.natAbs * nb S
  | [] => rfl
  | y :: S => by
    rw [List.map_cons, nb_cons, nb_cons, nb_mul c S, Nat.mul_add, Int.natAbs_mul]
theorem nb_le {X : Nat} : ∀ {S : WD}, (∀ y ∈ S, y.2.natAbs ≤ X) → nb S ≤ S.length * X
  | [], _ => Nat.zero_le _
  | y :: S, h => by
    have h1 := nb_le (S := S) fun z hz => h z (List.mem_cons_of_mem _ hz)
    have h2 := h y List.mem_cons_self
    rw [nb_cons, List.length_cons, Nat.add_mul, Nat.one_mul]; (first | lia | omega)
theorem nb_mem {x : List Nat × Int} : ∀ {D : WD}, x ∈ D → x.2.natAbs ≤ nb D
  | y :: D, h => by
    rw [nb_cons]
    rcases List.mem_cons.mp h with rfl | h
    · (first | lia | omega)
    · have := nb_mem h; (first | lia | omega)
section
variable {q h : Int} {M : Nat}
theorem pow_abs {n k : Nat} {x : Int} (hM : 1 ≤ M) (hx : x.natAbs ≤ M) (hn : n ≤ k) : (x ^ n).natAbs ≤ M ^ k := by
  rw [Int.natAbs_pow]
  exact Nat.le_trans (Nat.pow_le_pow_left hx n) (Nat.pow_le_pow_right hM hn)
theorem ways_abs {s : Nat} {R L : List Nat} (hM : 1 ≤ M) (hq : q.natAbs ≤ M) (hh : h.natAbs ≤ M) (hL : L.length ≤ 5) : ∀ y ∈ waysOf q h s R L, y.2.natAbs ≤ M ^ 6 := by
  intro y hy
  by_cases c : 255 < s
  · rw [ways_low c] at hy
    rw [List.mem_singleton.mp hy]
    exact Nat.pow_pos hM
  · rw [ways_rai c] at hy
    rcases List.mem_cons.mp hy with rfl | hy
    · exact pow_abs hM hq (by (first | lia | omega))
    · unfold contr at hy
      obtain ⟨k, hk, e⟩ := List.mem_filterMap.mp hy
      by_cases c : L[k]? = some (s + 256)
      · rw [if_pos c] at e
        obtain rfl := Option.some.inj e
        show (h * q ^ _).natAbs ≤ _
        rw [Int.natAbs_mul, show M ^ 6 = M * M ^ 5 from by rw [Nat.pow_succ, Nat.mul_comm]]
        exact Nat.mul_le_mul hh (pow_abs hM hq (by (first | lia | omega)))
      · rw [if_neg c] at e; cases e
theorem nb_ways {s : Nat} {R L : List Nat} (hM : 1 ≤ M) (hq : q.natAbs ≤ M) (hh : h.natAbs ≤ M) (hL : L.length ≤ 5) : nb (waysOf q h s R L) ≤ 6 * M ^ 6 := by
  refine Nat.le_trans (nb_le (ways_abs hM hq hh hL)) (Nat.mul_le_mul_right _ ?_)
  have := ways_len (q := q) (h := h) (sg := s) (R := R) (L := L)
  (first | lia | omega)
theorem nb_kfold {s : Nat} (hM : 1 ≤ M) (hq : q.natAbs ≤ M) (hh : h.natAbs ≤ M) : ∀ (S : WD) {acc : WD}, (∀ x ∈ S, (Lof x.1).length ≤ 5) → (keys acc).Nodup → nb (S.foldl (kstep q h s) acc) ≤ nb acc + nb S * (6 * M ^ 6)
  | [], acc, _, _ => Nat.le_add_right _ _
  | x :: S, acc, hx, hn => by
    rw [List.foldl_cons]
    have h1 := nb_kfold (s := s) hM hq hh S (acc := kstep q h s acc x) (fun y hy => hx y (List.mem_cons_of_mem _ hy)) (nodup_fold _ hn)
    have h2 : nb (kstep q h s acc x) ≤ nb acc + x.2.natAbs * nb (waysOf q h s (Rof x.1) (Lof x.1)) := by
      rw [← nb_mul]; exact nb_fold _ hn
    have h3 : x.2.natAbs * nb (waysOf q h s (Rof x.1) (Lof x.1)) ≤ x.2.natAbs * (6 * M ^ 6) := Nat.mul_le_mul_left _ (nb_ways hM hq hh (hx x List.mem_cons_self))
    rw [nb_cons, Nat.add_mul]; (first | lia | omega)
theorem nb_dres (hM : 1 ≤ M) (hq : q.natAbs ≤ M) (hh : h.natAbs ≤ M) : ∀ (z : List Nat) {n : Nat} {D : WD}, (∀ s ∈ z, isR s ∨ isL s) → (∀ x ∈ D, KG n x.1) → n + z.length ≤ 5 → nb (z.foldl (dstep q h) D) ≤ nb D * (6 * M ^ 6) ^ z.length
  | [], n, D, _, _, _ => by show nb D ≤ nb D * 1; rw [Nat.mul_one]; exact Nat.le_refl _
  | s :: z, n, D, hz, hD, hl => by
    have hs := hz s List.mem_cons_self
    rw [List.length_cons] at hl ⊢
    have h1 := nb_dres hM hq hh z (n := n + 1) (D := dstep q h D s) (fun x hx => hz x (List.mem_cons_of_mem _ hx)) (dstep_KG hs hD) (by (first | lia | omega))
    have h2 : nb (dstep q h D s) ≤ nb D * (6 * M ^ 6) := by
      have := nb_kfold (s := s) hM hq hh D (acc := []) (fun x hx => by have := (hD x hx).parts.2.2.2; (first | lia | omega)) List.nodup_nil
      have e : nb ([] : WD) = 0 := rfl
      rw [e, Nat.zero_add] at this; exact this
    rw [List.foldl_cons, Nat.pow_succ, Nat.mul_comm _ (6 * M ^ 6), ← Nat.mul_assoc]
    exact Nat.le_trans h1 (Nat.mul_le_mul_right _ h2)
/-- how many keys -/
def stp (p : Nat × Nat) (b : Bool) : Nat × Nat := if b then (p.1, p.2 + 1) else (p.1 * (p.2 + 1), p.2)
theorem len_kfold {s l : Nat} : ∀ (S : WD) {acc : WD}, (∀ x ∈ S, (waysOf q h s (Rof x.1) (Lof x.1)).length ≤ l) → (S.foldl (kstep q h s) acc).length ≤ acc.length + S.length * l
  | [], acc, _ => Nat.le_add_right _ _
  | x :: S, acc, hx => by
    rw [List.foldl_cons]
    have h1 := len_kfold S (acc := kstep q h s acc x) fun y hy => hx y (List.mem_cons_of_mem _ hy)
    have h2 : (kstep q h s acc x).length ≤ acc.length + ((waysOf q h s (Rof x.1) (Lof x.1)).map fun y => (y.1, x.2 * y.2)).length := gfold_len _ _
    rw [List.length_map] at h2
    have h3 := hx x List.mem_cons_self
    rw [List.length_cons, Nat.add_mul, Nat.one_mul]; (first | lia | omega)
theorem Lof_ways {n s l : Nat} {x z : List Nat} (hx : KG n x) (hs : isR s ∨ isL s) (hl : (Lof x).length ≤ l) (hz : z ∈ keys (waysOf q h s (Rof x) (Lof x))) : (Lof z).length ≤ (stp (0, l) (decide (255 < s))).2 := by
  obtain ⟨h1, h2, h3, h4⟩ := hx.parts
  have r124 := not124R h2
  by_cases c : 255 < s
  · rw [ways_low c] at hz
    rw [show z = kk (Rof x) (Lof x ++ [s]) from List.mem_singleton.mp hz, Lof_kk r124, decide_eq_true c, List.length_append]
    show _ + 1 ≤ l + 1
    (first | lia | omega)
  · rw [decide_eq_false c]
    show _ ≤ l
    have r124' : 124 ∉ Rof x ++ [s] := fun hm => by
      rcases List.mem_append.mp hm with hm | hm
      · exact r124 hm
      · have := List.mem_singleton.mp hm
        rcases hs with (rfl | rfl) | (rfl | rfl) <;> cases this
    rw [ways_rai c] at hz
    rcases List.mem_cons.mp (show z ∈ kk (Rof x ++ [s]) (Lof x) :: keys (contr q h s (Rof x) (Lof x) (Lof x).length) from hz) with rfl | hz
    · rw [Lof_kk r124']; exact hl
    · obtain ⟨k, hk, rfl⟩ := mem_contr.mp hz
      have := len_cut (List.getElem?_eq_some_iff.mp hk).1
      rw [Lof_kk r124]; (first | lia | omega)
theorem len_dres : ∀ (z : List Nat) {n : Nat} {p : Nat × Nat} {D : WD}, (∀ s ∈ z, isR s ∨ isL s) → (∀ x ∈ D, KG n x.1) → (∀ x ∈ D, (Lof x.1).length ≤ p.2) → D.length ≤ p.1 → (z.foldl (dstep q h) D).length ≤ ((z.map fun s => decide (255 < s)).foldl stp p).1
  | [], n, p, D, _, _, _, hl => hl
  | s :: z, n, p, D, hz, hD, h2, h1 => by
    have hs := hz s List.mem_cons_self
    rw [List.foldl_cons, List.map_cons, List.foldl_cons]
    refine len_dres z (n := n + 1) (p := stp p (decide (255 < s))) (D := dstep q h D s) (fun x hx => hz x (List.mem_cons_of_mem _ hx)) (dstep_KG hs hD) (fun x hx => ?_) ?_
    · have : x.1 ∈ keys (dstep q h D s) := List.mem_map_of_mem hx
      rcases (kfold_keys (q := q) (h := h) (s := s) D (acc := [])).mp this with hk | ⟨y, hy, hk⟩
      · simp [keys] at hk
      · have := Lof_ways (hD y hy) hs (h2 y hy) hk
        unfold stp at this ⊢
        split at this <;> split <;> first | exact this | (rename_i a b; rw [a] at b; cases b) | (rename_i a b; exact absurd b a)
    · by_cases c : 255 < s
      · have := len_kfold (q := q) (h := h) (s := s) (l := 1) D (acc := []) fun x hx => by rw [ways_low c]; exact Nat.le_refl _
        rw [decide_eq_true c]
        have e : ([] : WD).length = 0 := rfl
        show (dstep q h D s).length ≤ p.1
        unfold dstep; (first | lia | omega)
      · have := len_kfold (q := q) (h := h) (s := s) (l := p.2 + 1) D (acc := []) fun x hx => by
          have h3 := ways_len (q := q) (h := h) (sg := s) (R := Rof x.1) (L := Lof x.1)
          have := h2 x hx
          (first | lia | omega)
        rw [decide_eq_false c]
        have e : ([] : WD).length = 0 := rfl
        show (dstep q h D s).length ≤ p.1 * (p.2 + 1)
        refine Nat.le_trans ?_ (Nat.mul_le_mul_right _ h1)
        unfold dstep; (first | lia | omega)
theorem five : ∀ bs : List Bool, bs.length ≤ 5 → (bs.foldl stp (1, 0)).1 ≤ 62
  | [], _ => by decide
  | [a], _ => by revert a; decide
  | [a, b], _ => by revert a b; decide
  | [a, b, c], _ => by revert a b c; decide
  | [a, b, c, d], _ => by revert a b c d; decide
  | [a, b, c, d, e], _ => by revert a b c d e; decide
  | a :: b :: c :: d :: e :: f :: r, h => by simp only [List.length_cons] at h; (first | lia | omega)
theorem big : (6 * (67108864 : Nat) ^ 6) ^ 5 < 2 ^ 1000 := by decide +kernel
theorem big6 : (67108864 : Nat) ^ 6 < 2 ^ 1000 := by decide +kernel
theorem law_all {W : List Nat} (hW : W.length ≤ 5) (hWl : ∀ s ∈ W, isR s ∨ isL s) (hq : q.natAbs ≤ 67108864) (hh : h.natAbs ≤ 67108864) : LawMath W q h := by
  have hk := dres_KG (q := q) (h := h) hWl
  have hn := dres_nodup (q := q) (h := h) hWl
  have htk : ∀ i, ∀ s ∈ W.take i, isR s ∨ isL s := fun i s hs => hWl s (List.mem_of_mem_take hs)
  have htl : ∀ i, (W.take i).length ≤ 5 := fun i => by rw [List.length_take]; (first | lia | omega)
  have hlen : ∀ i, (dres q h (W.take i)).length ≤ 62 := fun i => by
    have h1 := len_dres (q := q) (h := h) (W.take i) (p := (1, 0)) (D := [([124], 1)]) (htk i) start_KG (fun x hx => by rw [List.mem_singleton.mp hx]; decide) (Nat.le_refl _)
    exact Nat.le_trans h1 (five _ (by rw [List.length_map]; exact htl i))
  have hlenW : (dres q h W).length ≤ 62 := by
    have := hlen 5
    rw [List.take_of_length_le hW] at this; exact this
  refine ⟨PySem.intBits_le_64 (by (first | lia | omega)) (by (first | lia | omega)), PySem.intBits_le_64 (by (first | lia | omega)) (by (first | lia | omega)), law_set hW hWl, ?_, fun x hx => (hk x hx).ok (by (first | lia | omega)), fun i => Nat.le_trans (hlen i) (by decide), ?_, ?_⟩
  · intro i sg hi x hx
    have hkx := dres_KG (q := q) (h := h) (htk i) x hx
    have hl5 := htl i
    refine ⟨hkx.ok (by (first | lia | omega)), fun y hy => ?_⟩
    have hLx : (Lof x.1).length ≤ 5 := by have := hkx.parts.2.2.2; (first | lia | omega)
    have h1 : x.2.natAbs < 2 ^ 1000 := by
      have a1 := nb_mem hx
      have a2 := nb_dres (M := 67108864) (by decide) hq hh (W.take i) (n := 0) (D := [([124], 1)]) (htk i) start_KG (by (first | lia | omega))
      have a3 : nb ([([124], 1)] : WD) = 1 := rfl
      rw [a3, Nat.one_mul] at a2
      refine Nat.lt_of_le_of_lt (Nat.le_trans a1 (Nat.le_trans a2 (Nat.pow_le_pow_right ?_ hl5))) big
      exact Nat.pos_of_ne_zero fun e => by
        rcases Nat.mul_eq_zero.mp e with e | e
        · cases e
        · exact absurd (Nat.pow_pos (n := 6) (by decide : 0 < 67108864)) (by (first | lia | omega))
    have h2 : y.2.natAbs < 2 ^ 1000 := Nat.lt_of_le_of_lt (ways_abs (M := 67108864) (by decide) hq hh hLx y hy) big6
    exact IntMulOk.of_le (PySem.intBits_le_iff.mpr h1) (PySem.intBits_le_iff.mpr h2) (by decide)
  · intro x hx
    rw [(dend_eq hn hk).2] at hx
    obtain ⟨y, hy, rfl⟩ := List.mem_map.mp hx
    have := (hk y hy).parts.2.2.2
    show (Rof y.1 ++ Lof y.1).length ≤ 5
    rw [List.length_append]; (first | lia | omega)
  · rw [(dend_eq hn hk).2, List.length_map]; (first | lia | omega)
end
theorem delta_abs (x : Int) : (delta x).natAbs ≤ 999999 := by
  unfold delta
  split
  · have h1 := Int.fmod_nonneg_of_pos x (b := 1000000) (by decide)
    have h2 := Int.fmod_lt_of_pos x (b := 1000000) (by decide)
    (first | lia | omega)
  · have h1 := Int.fmod_nonneg_of_pos (-x) (b := 1000000) (by decide)
    have h2 := Int.fmod_lt_of_pos (-x) (b := 1000000) (by decide)
    (first | lia | omega)
theorem draws_abs (ns : List Int) : ∀ i k, ((drawsTo ns i).getD k 0).natAbs ≤ 3 + i * 1000000
  | 0, k => by
    show (([0, 2, 1, 3, 1, 2, 3, 1] : List Int).getD k 0).natAbs ≤ 3
    match k with
    | 0 | 1 | 2 | 3 | 4 | 5 | 6 | 7 => decide
    | k + 8 => exact Nat.zero_le _
  | i + 1, k => by
    have h1 := draws_abs ns i k
    have h2 := draws_abs ns i (i % 8)
    have h3 := delta_abs (ns.getD i 0)
    show (((drawsTo ns i).set (i % 8) ((drawsTo ns i).getD (i % 8) 0 + delta (ns.getD i 0))).getD k 0).natAbs ≤ _
    generalize (drawsTo ns i).getD (i % 8) 0 = a at *
    generalize delta (ns.getD i 0) = d at *
    rw [List.getD_eq_getElem?_getD, List.getElem?_set]
    rw [List.getD_eq_getElem?_getD] at h1
    split
    · split
      · show (a + d).natAbs ≤ _
        (first | lia | omega)
      · exact Nat.zero_le _
    · exact Nat.le_trans h1 (Nat.add_le_add_left (Nat.mul_le_mul_right _ (Nat.le_succ i)) 3)
theorem law_math (ns : List Int) : LawMath ((drawsTo ns (min 60 ns.length)).take 5 |>.map letter) ((drawsTo ns (min 60 ns.length)).getD 5 0) ((drawsTo ns (min 60 ns.length)).getD 6 0) ∧ Builtin.divisionGoesByPylong ((drawsTo ns (min 60 ns.length)).getD 7 0) 2 = false ∧ Builtin.divisionGoesByPylong ((drawsTo ns (min 60 ns.length)).getD 7 0) 4 = false := by
  have hb : ∀ k, ((drawsTo ns (min 60 ns.length)).getD k 0).natAbs ≤ 67108864 := fun k => by
    refine Nat.le_trans (draws_abs ns (min 60 ns.length) k) ?_
    have := Nat.min_le_left 60 ns.length
    generalize min 60 ns.length = x at this ⊢
    exact Nat.le_trans (Nat.add_le_add_left (Nat.mul_le_mul_right 1000000 this) 3) (by decide)
  refine ⟨law_all ?_ ?_ (hb 5) (hb 6), PyProof.noPylong_small (by decide), PyProof.noPylong_small (by decide)⟩
  · rw [List.length_map, List.length_take]; (first | lia | omega)
  · intro s hs
    obtain ⟨d, _, rfl⟩ := List.mem_map.mp hs
    unfold letter isR isL
    split
    · exact .inr (.inl rfl)
    · split
      · exact .inl (.inl rfl)
      · split
        · exact .inr (.inr rfl)
        · exact .inl (.inr rfl)

end
set_option maxHeartbeats 8000000
-- part J2b

section
def dPos : Stmt → Pos
  | .FunctionDef _ _ _ _ _ _ _ _ _ p => p
  | _ => default
def recAt (i : Nat) : DefRec := ⟨dName (stmtAt i), dParams (stmtAt i), dBody (stmtAt i), dScope (stmtAt i), dPos (stmtAt i)⟩
def fnAddr (mg : Str → Option Value) (i : Nat) : Addr := match mg (dName (stmtAt i)) with | some (.ref a) => a | _ => 0
theorem fn_of {p : Program} {loose : List Str} {mean : ExcName → Option Value} {mg mb : Str → Option Value} {h : Heap} (T : Top p loose mean mg mb h) {i : Nat} (hr : recAt i ∈ recsOf p) : FnAt h mg (stmtAt i) (fnAddr mg i) := by
  obtain ⟨a, o, pm, code, doc, h1, h2, h3, h4⟩ := T.fn _ hr
  have e : fnAddr mg i = a := by
    unfold fnAddr
    rw [show mg (dName (stmtAt i)) = some (.ref a) from h1]
  rw [e]
  exact ⟨o, pm, code, doc, h1, h2, h3, h4⟩
theorem law_pre {P : Prop} {K : Frag} {p : Program} {loose : List Str} {mean : ExcName → Option Value} {mg mb : Str → Option Value} {h : Heap} {C f g : Addr} {o1 o2 : Obj} {cd1 cd2 : Value} {tm tn : Tok} (X : K.In h) (T : Top p loose mean mg mb h)
    (hr : ∀ i ∈ [2, 3, 6, 10, 13, 14, 16, 17, 18, 19, 20, 21, 22], recAt i ∈ recsOf p)
    (e1 : nsIn K mainGlobals "TupleComp" = some (some (.ref C))) (e2 : findIn K (.ref C) "__init__" = some (some (.ref g))) (e3 : findIn K (.ref C) "compare" = some (some (.ref f)))
    (e4 : plainGet K C "compare" = true) (e5 : isFn K (.ref f) = true) (e6 : keepIn K (.ref f) = true) (e7 : hasDictIn K C = true) (e8 : findIn K (.ref C) "comp_select_list" = some none)
    (e9 : makesIn K C = true) (e10 : typeIn K (.ref g) = some (.type "function")) (e11 : findIn K (.ref C) "__setattr__" = some (some (.builtin "object.__setattr__"))) (e12 : plainOver K C = true) (e13 : takerIn K C "comp_select_list" = some none) (e14 : keepIn K (.ref C) = true)
    (e15 : K.lookup f = some o1) (e16 : K.lookup g = some o2)
    (e17 : ∃ pm doc, o1.data = .func (mFd (cFn 1) "TupleComp.compare" pm cd1 doc)) (e18 : ∃ pm doc, o2.data = .func (mFd (cFn 0) "TupleComp.__init__" pm cd2 doc)) (e19 : codeIn K cd1 "TupleComp.compare" = true) (e20 : codeIn K cd2 "TupleComp.__init__" = true)
    (e21 : nsIn K mainGlobals "ELLIPSIS_MARKER" = some (some (.str "..." tm))) (e22 : nsIn K mainGlobals "NT_OFFSET" = some (some (.int 256 tn)))
    (n1 : nsIn K mainGlobals "isinstance" = some none) (n2 : nsIn K mainGlobals "tuple" = some none) (n3 : nsIn K mainGlobals "zip" = some none) (n4 : nsIn K mainGlobals "len" = some none) (n5 : nsIn K mainGlobals "enumerate" = some none) (n6 : nsIn K mainGlobals "chr" = some none) (n7 : nsIn K mainGlobals "ord" = some none)
    (n8 : nsIn K mainGlobals "sorted" = some none) (n9 : nsIn K mainGlobals "range" = some none) (n10 : nsIn K mainGlobals "abs" = some none) (n11 : nsIn K mainGlobals "sum" = some none) (n12 : nsIn K mainGlobals "min" = some none) (n13 : nsIn K mainGlobals "max" = some none)
    (hP : Stat mg mb (fnAddr mg) h → Judge K C f g h → Maker K C g h mg → FnAt h mg (stmtAt 22) (fnAddr mg 22) → P) : P := by
  refine hP ⟨T.g, T.b, T.nolimit, T.builtins, ?_, fun i hi => fn_of T (hr i (show i ∈ [2, 3, 6, 10, 13, 14, 16, 17, 18, 19, 20, 21] ++ [22] from List.mem_append_left _ hi)), ⟨tm, mg_of X T.g e21⟩, ⟨tn, mg_of X T.g e22⟩⟩ ⟨X, e4, e3, e5, e6, e7, e8, ?_⟩ ⟨mg_of X T.g e1, e9, e2, e10, e11, e12, e13, e14, ?_⟩ (fn_of T (hr 22 (by decide)))
  · intro x hx
    simp only [List.mem_cons, List.not_mem_nil, or_false] at hx
    rcases hx with rfl | rfl | rfl | rfl | rfl | rfl | rfl | rfl | rfl | rfl | rfl | rfl | rfl
    · exact mg_none_of X T.g n1
    · exact mg_none_of X T.g n2
    · exact mg_none_of X T.g n3
    · exact mg_none_of X T.g n4
    · exact mg_none_of X T.g n5
    · exact mg_none_of X T.g n6
    · exact mg_none_of X T.g n7
    · exact mg_none_of X T.g n8
    · exact mg_none_of X T.g n9
    · exact mg_none_of X T.g n10
    · exact mg_none_of X T.g n11
    · exact mg_none_of X T.g n12
    · exact mg_none_of X T.g n13
  · obtain ⟨pm, doc, e⟩ := e17
    exact ⟨o1, pm, cd1, doc, X _ _ e15, e, codeRec_of X e19⟩
  · obtain ⟨pm, doc, e⟩ := e18
    exact ⟨o2, pm, cd2, doc, X _ _ e16, e, codeRec_of X e20⟩

end
-- part J4

section
/-- what the top leaves of the class and of the names, where it lies -/
def ent (P : Params) (n : Str) (t : Tok) (v : Value) : DictEntry := { hash := PyData.keyHash P n, key := .str n t, val := v }
def KF (P : Params) : Frag := [
  (3, { cls := .type "dict", data := .dict #[ent P "__name__" 165 (.str "law_wv0009_01" 334), ent P "__doc__" 166 .none, ent P "__package__" 167 .none, ent P "__loader__" 168 (.builtin "__main__.__loader__#opaque"), ent P "__spec__" 169 .none,
    ent P "__annotations__" 170 (.ref 6), ent P "__builtins__" 171 (.ref 4), ent P "__file__" 173 (.str "/claim/cut.py" 172), ent P "__cached__" 174 .none, ent P "TupleComp" 230 (.ref 38), ent P "add_callers" 241 (.ref 49), ent P "count_calls" 250 (.ref 56),
    ent P "ELLIPSIS_MARKER" 254 (.str "..." 253), ent P "_ellipsis_match" 266 (.ref 63), ent P "Error" 288 (.ref 73), ent P "error_reply" 304 (.ref 86), ent P "parse257" 315 (.ref 95), ent P "NT_OFFSET" 319 (.int 256 318), ent P "ISTERMINAL" 326 (.ref 102),
    ent P "ISNONTERMINAL" 333 (.ref 109), ent P "_law_draws" 345 (.ref 116), ent P "_law_reply" 352 (.ref 123), ent P "_law_settled" 358 (.ref 128), ent P "_law_due" 364 (.ref 133), ent P "_law_line" 370 (.ref 138), ent P "_law_judged" 376 (.ref 143), ent P "law" 382 (.ref 148)] 27 }),
  (27, { cls := .type "code", data := .fields #[.str "__init__" 201, .str "TupleComp.__init__" 202, .str "/claim/cut.py" 203, .int 4 0, .int 2 0, .int 0 0, .int 0 0, .int 3 0, .ref 22, .bool true, .int 181 0, .ref 23, .none, .ref 24, .ref 25, .ref 26, .int 206 0, .int 4 0, .str "/claim/cut.py" 207] }),
  (28, { cls := .type "function", data := .func (mFd (cFn 0) "TupleComp.__init__" (.str "cpy313.pstats" 187) (.ref 27) .none) }),
  (34, { cls := .type "code", data := .fields #[.str "compare" 209, .str "TupleComp.compare" 210, .str "/claim/cut.py" 211, .int 7 0, .int 3 0, .int 0 0, .int 0 0, .int 3 0, .ref 29, .bool true, .int 181 0, .ref 30, .none, .ref 31, .ref 32, .ref 33, .int 219 0, .int 7 0, .str "/claim/cut.py" 220] }),
  (35, { cls := .type "function", data := .func (mFd (cFn 1) "TupleComp.compare" (.str "cpy313.pstats" 187) (.ref 34) .none) }),
  (37, { cls := .type "dict", data := .dict #[ent P "__module__" 196 (.str "cpy313.pstats" 187), ent P "__firstlineno__" 200 (.int 2 199), ent P "__init__" 208 (.ref 28), ent P "compare" 221 (.ref 35), ent P "__static_attributes__" 223 (.ref 36), ent P "__dict__" 225 (.ref 39), ent P "__weakref__" 227 (.ref 40), ent P "__doc__" 228 .none] 4 }),
  (38, { cls := .type "type", data := .cls { name := "TupleComp", bases := [.type "object"], mro := [.ref 38, .type "object"], ns := 37, qualname := "TupleComp" }, slots := #[none, none, some (.str "TupleComp" 189), some (.str "TupleComp" 197), some (.builtin "object.__new__"), some (.bool true)] })]
def KA : List Addr := [3, 27, 28, 34, 35, 37, 38]
theorem KA_eq (P : Params) : KA = (KF P).map (·.1) := rfl

end
-- part J6

section
def vw : Program := { PySem.Challenge.pw_wv0009_01 with main := { PySem.Challenge.pw_wv0009_01.main with body := [1, 2, 3, 5, 6, 8, 9, 10, 12, 13, 14, 16, 17, 18, 19, 20, 21, 22].map stmtAt } }
abbrev HK : Hook := kHook KF KA KA_eq
theorem said_row : OpenRow.wellSaid (OpenLaw.row PySem.Challenge.rw_wv0009_01) = true := by kernel_rfl
theorem said_law : OpenLaw.wellSaid PySem.Challenge.rw_wv0009_01 = true := by
  unfold OpenLaw.wellSaid
  iterate 18 (refine look_both ?_ (by kernel_rfl))
  exact said_row
theorem hd3 (walk : WalkO vw [] (XL vw []) (Hook.says HK) PySem.Challenge.rw_wv0009_01.row.toRowW (recAt 22) [] fun f vs => call f vs) : PySem.Challenge.rw_wv0009_01.Holds := by
  refine holds_law said_law fun said => ?_
  refine holds_open (q := vw) (loose := []) (Xt := fun s => xlAt vw [] s && recOk (RowW.records PySem.Challenge.rw_wv0009_01.row.toRowW) s) (XP := XL vw []) (Yf := Hook.obs HK) (Ya := Hook.val HK) (YP := Hook.says HK) (d := recAt 22) (kwd := []) (N := 2348) ?hl (Hook.of HK) (Hook.keeps HK) (fun s e => xl_of s (Bool.and_eq_true_iff.mp e).1) XL.keeps ?h1 ?h2 ?h3 (fun s e => recFacts_of (Bool.and_eq_true_iff.mp e).2) ?h4 (by assumption) ?h5 ⟨rfl, rfl, rfl, rfl, rfl, by decide +kernel⟩ ?hw walk
  case hw => w_witness2
  case h1 => kernel_rfl
  case h2 => kernel_rfl
  case h3 => rfl
  case h4 => rfl
  case h5 => decide +kernel
  case hl => (intro w; kernel_rfl)

end
-- part J8

section
theorem recs_vw : recsOf vw = [2, 3, 6, 10, 13, 14, 16, 17, 18, 19, 20, 21, 22].map recAt := by kernel_rfl
theorem recs_mem : ∀ i ∈ [2, 3, 6, 10, 13, 14, 16, 17, 18, 19, 20, 21, 22], recAt i ∈ recsOf vw := by
  intro i hi
  rw [recs_vw]
  exact List.mem_map_of_mem hi
theorem law_facts {R : Prop} {P : Params} {loose : List Str} {mean : ExcName → Option Value} {mg mb : Str → Option Value} {h : Heap} (X : (KF P).In h) (T : Top vw loose mean mg mb h)
    (hP : Stat mg mb (fnAddr mg) h → Judge (KF P) 38 35 28 h → Maker (KF P) 38 28 h mg → FnAt h mg (stmtAt 22) (fnAddr mg 22) → R) : R := by
  refine law_pre (o1 := { cls := .type "function", data := .func (mFd (cFn 1) "TupleComp.compare" (.str "cpy313.pstats" 187) (.ref 34) .none) }) (o2 := { cls := .type "function", data := .func (mFd (cFn 0) "TupleComp.__init__" (.str "cpy313.pstats" 187) (.ref 27) .none) }) (cd1 := .ref 34) (cd2 := .ref 27) (tm := 253) (tn := 318) X T recs_mem
    (by kernel_rfl) (by kernel_rfl) (by kernel_rfl) (by kernel_rfl) (by kernel_rfl) (by kernel_rfl) (by kernel_rfl) (by kernel_rfl) (by kernel_rfl) (by kernel_rfl) (by kernel_rfl) (by kernel_rfl) (by kernel_rfl) (by kernel_rfl) rfl rfl ⟨_, _, rfl⟩ ⟨_, _, rfl⟩ (by kernel_rfl) (by kernel_rfl)
    (by kernel_rfl) (by kernel_rfl) (by kernel_rfl) (by kernel_rfl) (by kernel_rfl) (by kernel_rfl) (by kernel_rfl) (by kernel_rfl) (by kernel_rfl) (by kernel_rfl) (by kernel_rfl) (by kernel_rfl) (by kernel_rfl) (by kernel_rfl) (by kernel_rfl) hP

end
end Mine
open Mine in
set_option maxHeartbeats 8000000 in
theorem PySem.Challenge.cw_wv0009_01_holds : PySem.Challenge.rw_wv0009_01.Holds := by
  refine hd3 ?_
  intro w s₀ s₁ mg mb G Y fa o pm cd doc dV kV ho hdf hcd hD hmg hg args vals as hpre hlay hrd hwl hlo
  refine law_facts (kIn_of Y) G.T fun S J M F => ?_
  clear hdf hcd hD ho G Y
  have hfa : fnAddr mg 22 = fa := by
    unfold fnAddr
    rw [show mg (dName (stmtAt 22)) = some (.ref fa) from hmg]
  rw [hfa] at F
  clear hmg hfa
  wrow_args hpre hlay hrd hwl hlo
  rename_i ns hs hlay0 hL1 hr1 hl2 as1 as2 l vs as3 hL ra w1 r0 hI hr hlen hct
  have hn : ns.length ≤ 63 := by omega
  obtain ⟨hm, h2, h4⟩ := law_math ns
  refine law_spec S J M F ⟨rfl, by decide, by decide⟩ Ex.rfl hL hI hn hm h2 h4 fun h' tk' hx => ?_
  refine GoodW.toG ⟨.inl ⟨_, .bool true, [], rfl, ?_, ReadsW.bool _, ?_, ?_⟩, hx, rfl, hg⟩
  · exact raisesW_false (by wrow_none_raised)
  · wrow_post
  · intro h; exact ⟨List.nodup_nil, fun a ha => nomatch ha⟩
